/- WHAT IS PROVED: the given statement of FnMonsterWritten, whatever the input: this is part 8 of 14. No conditions. -/
import Derived.Test.YtkkcpkfpegmgbaaGreatX07
import Derived.Laws.Strings
import Derived.Tactics
import Derived.Tactics2
import Derived.Defers
import Derived.Recover
import Derived.Laws.Pointers
set_option linter.all false
namespace Go.Proofs
open Go Go.Vc
open Tryz (prog)
theorem RS.fin {G0:Cut} {H0:Qe} {t:TypeId} {z:Array Value} {q2 q3:Nat} {G:Cut} {H:Qe} {cells:List Value} (rs:RS G0 H0 t (.cells z t (0,0)) q2 q3 G H cells) {n:Nat} (hn:cells.length=n) (hz:z.size=n) (h0:0<n) (hone:∀v∈cells,v.oneCell'=true) {R:Kn}
  (hR:∀H',Ext G0 H0 G H'->R (.agg cells.toArray) H'):LdN H n (ptr q3) fun x=>StK H n (ptr q2) x fun h=>LdN h n (ptr q2) fun r=>R r h:=by
 have e1:Zf H ⟨q3,0,none⟩ 0 n=some cells:=by
  rw[Q4 rs.o3.get n (by simp;omega)]
  simp[<-hn]
 rw[YI e1,Yg rs.o2.get hz (by simp;exact hn) h0 (by simpa using hone)]
 have o2:=rs.o2.set (.cells cells.toArray t (0,0))
 have e2:Zf (setB H q2 (.cells cells.toArray t (0,0))) ⟨q2,0,none⟩ 0 n=some cells:=by
  rw[Q4 o2.get n (by simp;omega)]
  simp[<-hn]
 rw[YI e2]
 exact hR _ (rs.ext.set rs.o2.out rs.o2.new _)
theorem RS.other {G0:Cut} {H0:Qe} {t:TypeId} {ob:Obj} {q2 q3:Nat} {G:Cut} {H:Qe} {cells:List Value} (rs:RS G0 H0 t ob q2 q3 G H cells) {b:Nat} {o:Obj} (ho:Yj H0 G H b o) (h2:b≠q2) (h3:b≠q3) (o':Obj):RS G0 H0 t ob q2 q3 G (setB H b o') cells:=
 ⟨rs.ext.set ho.out ho.new _,rs.o2.set_ne (Ne.symm h2) _,rs.o3.set_ne (Ne.symm h3) _,rs.ne⟩
theorem fill_choice (ty:UInt8):YJ z50.toList [(0,1,u8n ty)]=some [u8n ty,.slice none 0 0,.int .u8 0]:=by kernel_rfl
theorem fill_choice2 (ty:UInt8) (a:Option Addr) (n c:Nat):YJ z50.toList [(0,1,u8n ty),(1,1,.slice a n c)]=some [u8n ty,.slice a n c,.int .u8 0]:=by kernel_rfl
theorem Qi3 {A B t:Nat} {bs:List UInt8} {ty color:UInt8} {there:Bool} {tb:Value} {kids:List Mon} {G:Cut} {H:Qe} {R:Kn} (hG:G.In H) (hK:∀k∈kids,Qe2 k)
  (h:(there=false/\ty=0)\/(there=true/\ty≠0/\tb= .agg #[bsl B 0 bs.length bs.length,.int .u32 (t:Nat)]/\U8s H B 0 bs/\bs.length<2147483648/\t<=bs.length/\UnW false ty color (Rw1 kids) A bs t))
  (hR:∀G' H' c,Ext G H G' H'->Qbu G' (rdU false ty (rw1 kids)) c->R (.agg #[u8n ty,c,u8n (Qh4 false ty color)]) H'):
  FnS prog 154 #[u8n ty,.bool there,tb] H R:=by
 apply w154
 unfold s154
 rw[Qy]
 have e1:=(Ext.refl hG).pushG (.cells (Value.cells tb) 185)
 have g5:(G.upd H.size (.cells (Value.cells tb) 185)) H.size=some (.cells (Value.cells tb) 185):=Cut.upd_same
 have hu1:=Qaf.push H (.cells (Value.cells tb) 185)
 generalize G.upd H.size (.cells (Value.cells tb) 185)=G1 at *
 generalize H.push (.cells (Value.cells tb) 185)=H1 at *
 rw[Qy]
 have o6:=Yj.fresh e1 (.cells z50 50)
 have e2:=e1.push (.cells z50 50)
 have hu2:=hu1.trans (Qaf.push H1 (.cells z50 50))
 generalize H1.push (.cells z50 50)=H2 at *
 generalize H1.size=q6 at *
 rcases h with ⟨rfl,rfl⟩|⟨rfl,hty,rfl,hu,hbl,htl,hun⟩
 ·rw[Ym]
  rw[show (!false)=true from rfl,Yz,Yz,Ye,QbS,QgE,Yg (n:=3) o6.get rfl rfl (by decide) (by decide)]
  have o6':=o6.set (.cells z50 50 (0,0))
  rw[YI (n:=3) (vs:=[.int .u8 0,.slice none 0 0,.int .u8 0]) (by rw[Q4 o6'.get 3 (by decide)];rfl)]
  have hc:Qh4 false 0 color=0:=by simp[Qh4]
  have:=hR G1 _ (.slice none 0 0) (e2.set o6.out o6.new (.cells z50 50 (0,0))) ⟨[],SlV.nil _ _,by simp only[rdU,true_or,if_true,Zh]⟩
  rw[hc]at this
  exact this
 ·rw[Ym]
  rw[show (!true)=false from rfl,Y0]
  dsimp only
  rw[Y0,Yt]
  dsimp only
  rw[YY,QM (fun h=>hty (UInt8.toNat_inj.1 (by simpa using Int.ofNat.inj h)))]
  have hf:=fill_choice ty
  unfold Qz
  simp only[hf]
  rw[Qy]
  have hne:=o6.ne
  have o7:=Yj.fresh e2 (.cells z50 50)
  have o6:=o6.push (.cells z50 50)
  have e3:=e2.push (.cells z50 50)
  have hu3:=hu2.trans (Qaf.push H2 (.cells z50 50))
  generalize H2.push (.cells z50 50)=H3 at *
  generalize H2.size=q7 at *
  rw[Yg (n:=3) (c':=[u8n ty,.slice none 0 0,.int .u8 0].toArray) o7.get rfl rfl (by decide) (by intro v hv;simp at hv;rcases hv with rfl|rfl|rfl<;>rfl)]
  have rs:RS G H 50 (.cells z50 50 (0,0)) q6 q7 G1 (setB H3 q7 (.cells [u8n ty,.slice none 0 0,.int .u8 0].toArray 50 (0,0))) [u8n ty,.slice none 0 0,.int .u8 0]:=⟨e3.set o7.out o7.new _,o6.set_ne hne _,o7.set _,hne⟩
  generalize setB H3 q7 (.cells [u8n ty,.slice none 0 0,.int .u8 0].toArray 50 (0,0))=H4 at *
  have hu4:U8s H4 B 0 bs:=QeO rs.ext.keep.ext hu
  rw[Yt]
  by_cases h2:ty=2
  ·subst h2
   rw[Yb (by decide)]
   unfold UnW at hun
   rw[if_pos ⟨rfl,rfl⟩]at hun
   obtain ⟨vt,s1,s2⟩:=hun
   rw[Qy]
   have rs1:=rs.push (.cells z312 312)
   rw[Qm,Ql ((Qj (rs1.ext.inn _ _ g5)).trans (show (#[bsl B 0 bs.length bs.length,.int .u32 (t:Nat)]:Array Value)[0]?=some _ from rfl)),Qm,Ql ((Qj (rs1.ext.inn _ _ g5)).trans (show (#[bsl B 0 bs.length bs.length,.int .u32 (t:Nat)]:Array Value)[1]?=some _ from rfl))]
   refine QbW Qh rfl rfl rfl ?_
   rw[Yq]
   have rs2:=rs.push (.cells #[bsl B 0 bs.length bs.length,.int .u32 (t:Nat)] 312)
   have t2:Tab (H4.push (.cells #[bsl B 0 bs.length bs.length,.int .u32 (t:Nat)] 312)) H4.size B bs t:=⟨Qj Qh,Qj Qh,QeO (Qaf.push _ _).ext hu4,hbl,htl⟩
   refine ZS t2 s1 s2 ?_
   refine rs2.store (by decide) rfl ?_
   intro H5 rs3 _
   refine rs3.fin rfl rfl (by simp) (by intro v hv;simp at hv;rcases hv with rfl|rfl|rfl<;>rfl) ?_
   intro H6 e6
   exact hR G1 H6 _ e6 ⟨[],SlV.nil _ _,by simp only[rdU,and_self,or_true,if_true,Zh]⟩
  ·rw[QM (fun h=>h2 (UInt8.toNat_inj.1 (by simpa using Int.ofNat.inj h)))]
   unfold UnW at hun
   rw[if_neg (fun h=>h2 h.2)]at hun
   cases kids with
   |nil=>rw[Rw1]at hun;exact hun.elim
   |cons m ms=>
    rw[Rw1]at hun
    rw[Qy]
    have rs1:=rs.push (.cells z187 187)
    rw[Qm,Ql ((Qj (rs1.ext.inn _ _ g5)).trans (show (#[bsl B 0 bs.length bs.length,.int .u32 (t:Nat)]:Array Value)[0]?=some _ from rfl)),Qm,Ql ((Qj (rs1.ext.inn _ _ g5)).trans (show (#[bsl B 0 bs.length bs.length,.int .u32 (t:Nat)]:Array Value)[1]?=some _ from rfl))]
    refine ZT Qh rfl rfl rfl ?_
    rw[Yq]
    have rs2:=rs.push (.cells #[bsl B 0 bs.length bs.length,.int .u32 (t:Nat)] 187)
    have t2:Tab (H4.push (.cells #[bsl B 0 bs.length bs.length,.int .u32 (t:Nat)] 187)) H4.size B bs t:=⟨Qj Qh,Qj Qh,QeO (Qaf.push _ _).ext hu4,hbl,htl⟩
    refine hK m List.mem_cons_self A _ B _ bs G1 _ _ t2 rs2.ext.inn hun ?_
    intro v H5 G2 e5 hv2
    refine (rs2.next e5).put_item (v:=.agg v.toArray) (it:=v) rfl hv2.len rfl (by simp) ?_
    intro G3 H6 c rs3 hle sl
    refine rs3.fin rfl rfl (by simp) (by intro v hv;simp at hv;rcases hv with rfl|rfl|rfl;rfl;exact sl.one;rfl) ?_
    intro H7 e7
    have hc:Qh4 false ty color=0:=by unfold Qh4;rw[if_neg (fun h=>h2 h.2)]
    have:=hR G3 H7 c e7 ⟨[v],sl,by rw[rdU,if_neg (by intro h;rcases h with h|h;exact hty h;exact h2 h.2),rw1,Zh];exact ⟨hv2.mono hle,by rw[Zh];trivial⟩⟩
    rw[hc]at this
    exact this
section
variable {A p B pos vt:Nat} {bs:List UInt8} {d:Qbt} {G0:Cut} {H0:Qe} (ht:Tab H0 p B bs pos) (hv:VT bs pos vt)
include ht hv
theorem Tab.p_lt:p<H0.size:=by
 have:=ht.c0
 unfold QaW at this
 cases hh:H0[p]? with
 |none=>simp only[hh]at this;cases this
 |some o=>exact Y3 hh
theorem union_step {ty color:UInt8} {kids:List Mon} {q2 q3 q31:Nat} {G:Cut} {H:Qe} {cells:List Value} (rs:RM G0 H0 q2 q3 G H cells) {c:Array Value} {e:TypeId} (o:Yj H0 G H q31 (.cells c e (0,0))) (hc2:c.size=2) (n2:q31≠q2) (n3:q31≠q3) {vo fld:Nat} (hf:fld+3<=cells.length)
  {acc accT:FuncId} (hK:∀k∈kids,Qe2 k) (own2:YD A bs pos vt vo (ty=0) (Qb3 (UnW false ty color (Rw1 kids)))) {kp:Qe->Prop}
  (hacc:∀(H:Qe) (R:Kn),Tab H p B bs pos->H[q31]?=some (.cells c e (0,0))->q31≠p->(slotAt bs vt vo=0->R (.bool false) H)->
   (slotAt bs vt vo≠0->pos+slotAt bs vt vo+4<=bs.length/\tgt bs (pos+slotAt bs vt vo)<=bs.length/\R (.bool true) (setB H q31 (.cells #[bsl B 0 bs.length bs.length,.int .u32 (tgt bs (pos+slotAt bs vt vo):Nat)] e (0,0))))->FnS prog acc #[ptr p,ptr q31] H R)
  (hty:∀(H:Qe) (R:Kn),Tab H p B bs pos->R (u8n ty) H->FnS prog accT #[ptr p] H R)
  (hk:∀G' H' v c',RM G0 H0 q2 q3 G' H' (((cells.set fld (u8n ty)).set (fld+1) v).set (fld+2) (u8n (Qh4 false ty color)))->G.le G'->Qbu G' (rdU false ty (rw1 kids)) v->Yj H0 G' H' q31 (.cells c' e (0,0))->c'.size=2->kp H'):
  Qa prog acc #[ptr p,ptr q31] H fun x390 h455=>LdN h455 2 (ptr q31) fun x394=>Qa prog accT #[ptr p] h455 fun x392 h456=>Qi h455 h456<|Qa prog 154 #[x392,x390,x394] h456 fun x395 h457=>Qg (ptr q3) fld fun x396=>StK h457 3 x396 x395 kp:=by
 have hpq:q31≠p:=by have:=ht.p_lt hv;have:=o.new;omega
 have two:∀c:Array Value,c.size=2->∃a b,c=#[a,b]:=fun c hc=>by
  obtain ⟨l⟩:=c
  match l,hc with
  |[a,b],_=>exact ⟨a,b,rfl⟩
 refine hacc H _ (rs.tab ht) o.get hpq (fun h0=>?_) (fun h1=>?_)
 ·have hz:=own2.zero h0
  obtain ⟨a,b,rfl⟩:=two c hc2
  rw[YI (n:=2) (vs:=[a,b]) (by rw[Q4 o.get 2 (by simp)];rfl)]
  refine hty H _ (rs.tab ht) ?_
  rw[Qb]
  refine Qi3 (A:=A) (B:=B) (t:=0) (bs:=bs) (color:=color) rs.ext.inn hK (Or.inl ⟨rfl,hz⟩) ?_
  intro G' H' v e' vs
  refine (rs.next e').store3 hf rfl (by obtain ⟨i,s,_⟩:=vs;exact s.one) rfl ?_
  intro H2 rs2 hH2
  subst hH2
  exact hk G' _ v _ rs2 e'.le vs ((o.ext e').set_ne n3 _) rfl
 ·obtain ⟨hn,r1,_,r2,r3⟩:=own2.got h1
  refine ⟨r1,r2,?_⟩
  have o1:=o.set (.cells #[bsl B 0 bs.length bs.length,.int .u32 (tgt bs (pos+slotAt bs vt vo):Nat)] e (0,0))
  have rs1:=rs.other o n2 n3 (.cells #[bsl B 0 bs.length bs.length,.int .u32 (tgt bs (pos+slotAt bs vt vo):Nat)] e (0,0))
  generalize setB H q31 (.cells #[bsl B 0 bs.length bs.length,.int .u32 (tgt bs (pos+slotAt bs vt vo):Nat)] e (0,0))=H1 at *
  rw[YI (n:=2) (vs:=[bsl B 0 bs.length bs.length,.int .u32 (tgt bs (pos+slotAt bs vt vo):Nat)]) (by rw[Q4 o1.get 2 (by simp)];rfl)]
  refine hty H1 _ (rs1.tab ht) ?_
  rw[Qb]
  refine Qi3 (A:=A) (B:=B) (t:=tgt bs (pos+slotAt bs vt vo)) (bs:=bs) rs1.ext.inn hK (Or.inr ⟨rfl,hn,rfl,(rs1.tab ht).u8,ht.lt,r2,r3⟩) ?_
  intro G' H' v e' vs
  refine (rs1.next e').store3 hf rfl (by obtain ⟨i,s,_⟩:=vs;exact s.one) rfl ?_
  intro H2 rs2 hH2
  subst hH2
  exact hk G' _ v _ rs2 e'.le vs ((o1.ext e').set_ne n3 _) rfl
theorem rm21_ok {test uniq:List Mon} {q2 q3:Nat} {G:Cut} {H:Qe} {cells:List Value} (rs:RM G0 H0 q2 q3 G H cells) {R:Kn} (hl:cells.length=51) (hU:∀k∈test,Qe2 k) (hQ:∀k∈uniq,Qe2 k)
  (t1:Sc 1 bs pos vt 18 0 d.testTy.toNat) (u1:YD A bs pos vt 20 (d.testTy=0) (Qb3 (UnW false d.testTy d.testColor (Rw1 test))))
  (t2:Sc 1 bs pos vt 90 0 d.uniqTy.toNat) (u2:YD A bs pos vt 92 (d.uniqTy=0) (Qb3 (UnW false d.uniqTy d.uniqColor (Rw1 uniq))))
  (hk:∀G' H' v1 v2 c' q31,RM G0 H0 q2 q3 G' H' ((((((cells.set 6 (u8n d.testTy)).set 7 v1).set 8 (u8n (Qh4 false d.testTy d.testColor))).set 43 (u8n d.uniqTy)).set 44 v2).set 45 (u8n (Qh4 false d.uniqTy d.uniqColor)))->G.le G'->Qbu G' (rdU false d.testTy (rw1 test)) v1->Qbu G' (rdU false d.uniqTy (rw1 uniq)) v2->
   Yj H0 G' H' q31 (.cells c' 185 (0,0))->c'.size=2->q31≠q2->q31≠q3->rm22 (ptr p) (ptr q31) (ptr q3) (ptr q2) H' R):rm21 (ptr p) (ptr q3) (ptr q2) H R:=by
 have z0:∀{x:UInt8},x=0->x.toNat=0:=fun h=>by rw[h];rfl
 unfold rm21
 rw[Qy]
 have o:=Yj.fresh rs.ext (.cells z185 185)
 have n2:H.size≠q2:=Ne.symm rs.o2.ne
 have n3:H.size≠q3:=Ne.symm rs.o3.ne
 refine union_step ht hv (rs.push _) o rfl n2 n3 (by omega) hU u1 (fun H R t hq hp h0 h1=>QdE t hv hq rfl hp h0 h1) (fun H R t hR=>Qcj t hv t1 hR) ?_
 intro G1 H1 v1 c1 rs1 le1 vs1 o1 hc1
 refine union_step ht hv rs1 o1 hc1 n2 n3 (by simp[hl]) hQ u2 (fun H R t hq hp h0 h1=>QbP t hv hq hc1 hp h0 h1) (fun H R t hR=>QaM t hv t2 hR) ?_
 intro G2 H2 v2 c2 rs2 le2 vs2 o2 hc2
 exact hk G2 H2 v1 v2 c2 H.size rs2 (Cut.le_trans le1 le2) (vs1.mono le2) vs2 o2 hc2 n2 n3
theorem rm22_ok {amb:List Mon} {q2 q3 q31:Nat} {G:Cut} {H:Qe} {cells:List Value} (rs:RM G0 H0 q2 q3 G H cells) {c:Array Value} (o:Yj H0 G H q31 (.cells c 185 (0,0))) (hc2:c.size=2) (n2:q31≠q2) (n3:q31≠q3) {R:Kn} (hl:cells.length=51) (hA:∀k∈amb,Qe2 k)
  (h46:cells[46]?=some (.int .u8 0)) (h47:cells[47]?=some (.slice none 0 0)) (h48:cells[48]?=some (.int .u8 0))
  (t1:Sc 1 bs pos vt 94 0 d.ambTy.toNat) (u1:YD A bs pos vt 96 (d.ambTy=0) (Qb3 (UnW true d.ambTy d.ambColor (Rw1 amb))))
  (hk:∀G' H' v,RM G0 H0 q2 q3 G' H' (((cells.set 46 (u8n d.ambTy)).set 47 v).set 48 (u8n (Qh4 true d.ambTy d.ambColor)))->G.le G'->Qbu G' (rdU true d.ambTy (rw1 amb)) v->rm23 (ptr p) (ptr q3) (ptr q2) H' R):rm22 (ptr p) (ptr q31) (ptr q3) (ptr q2) H R:=by
 have z0:d.ambTy=0->d.ambTy.toNat=0:=fun h=>by rw[h];rfl
 have hpq:q31≠p:=by have:=ht.p_lt hv;have:=o.new;omega
 have hcol:Qh4 true d.ambTy d.ambColor=0:=by simp[Qh4]
 unfold rm22
 refine Q0 (fun _ h=>∃G' v,RM G0 H0 q2 q3 G' h (((cells.set 46 (u8n d.ambTy)).set 47 v).set 48 (u8n (Qh4 true d.ambTy d.ambColor)))/\G.le G'/\Qbu G' (rdU true d.ambTy (rw1 amb)) v) ?_ (fun _ h hh=>by obtain ⟨G',v,h1,h2,h3⟩:=hh;exact hk G' h v h1 h2 h3)
 refine Qal (rs.tab ht) hv t1 ?_
 refine Qb7 (rs.tab ht) hv o.get hc2 hpq (fun h0=>?_) (fun h1=>?_)
 ·have hz:=u1.zero h0
  rw[Y8,Y8,YY,ZG]
  refine ⟨G,.slice none 0 0,?_,Cut.le_refl _,[],SlV.nil _ _,by rw[rdU,if_pos (Or.inl hz),Zh];trivial⟩
  rw[hcol,hz,show u8n 0= .int .u8 0 from rfl]
  rw[YT h46,YT h47,YT h48]
  exact rs
 ·obtain ⟨hn,r1,_,r2,r3⟩:=u1.got h1
  refine ⟨r1,r2,?_⟩
  have rs1:=rs.other o n2 n3 (.cells #[bsl B 0 bs.length bs.length,.int .u32 (tgt bs (pos+slotAt bs vt 96):Nat)] 185 (0,0))
  have o1:=o.set (.cells #[bsl B 0 bs.length bs.length,.int .u32 (tgt bs (pos+slotAt bs vt 96):Nat)] 185 (0,0))
  generalize setB H q31 (.cells #[bsl B 0 bs.length bs.length,.int .u32 (tgt bs (pos+slotAt bs vt 96):Nat)] 185 (0,0))=H1 at *
  have hn':((d.ambTy.toNat:Int)≠0):=fun h=>hn (UInt8.toNat_inj.1 (by simpa using Int.ofNat.inj h))
  rw[QU]
  dsimp only
  rw[QU,Yp]
  dsimp only
  rw[Ye,Yb hn']
  unfold UnW at r3
  rw[if_neg (by simp)]at r3
  cases amb with
  |nil=>obtain ⟨⟩:=(by rw[Rw1]at r3;exact r3:False)
  |cons m ms=>
   rw[Rw1]at r3
   rw[Qy]
   have rs2:=rs1.push (.cells z187 187)
   have o2:=o1.push (.cells z187 187)
   rw[Qm,Ql ((Qj o2.get).trans (show (#[bsl B 0 bs.length bs.length,.int .u32 (tgt bs (pos+slotAt bs vt 96):Nat)]:Array Value)[0]?=some _ from rfl)),Qm,Ql ((Qj o2.get).trans (show (#[bsl B 0 bs.length bs.length,.int .u32 (tgt bs (pos+slotAt bs vt 96):Nat)]:Array Value)[1]?=some _ from rfl))]
   refine ZT Qh rfl rfl rfl ?_
   rw[Yq]
   have rs3:=rs1.push (.cells #[bsl B 0 bs.length bs.length,.int .u32 (tgt bs (pos+slotAt bs vt 96):Nat)] 187)
   have t2:Tab (H1.push (.cells #[bsl B 0 bs.length bs.length,.int .u32 (tgt bs (pos+slotAt bs vt 96):Nat)] 187)) H1.size B bs (tgt bs (pos+slotAt bs vt 96)):=⟨Qj Qh,Qj Qh,(rs3.tab ht).u8,ht.lt,r2⟩
   refine hA m List.mem_cons_self A _ B _ bs G _ _ t2 rs3.ext.inn r3 ?_
   intro v H5 G2 e5 hv2
   have rs4:=rs3.next e5
   have hvl:v.length=51:=hv2.len
   have hfill:YJ (YV z55.toList 1) [(0,51,.agg v.toArray)]=some v:=by
    show (if v.toArray.size=51/\0+v.toArray.size<=(YV z55.toList 1).length then _ else _)=_
    have hrl:(YV z55.toList 1).length=51:=rfl
    rw[if_pos ⟨by simp[hvl],by rw[hrl];simp[hvl]⟩]
    have hs:v.toArray.size=51:=by simp[hvl]
    show some (List.take 0 (YV z55.toList 1)++v.toArray.toList++List.drop (0+v.toArray.size) (YV z55.toList 1))=some v
    rw[hs,List.drop_eq_nil_of_le (by rw[hrl];decide)];simp
   unfold Q8
   simp only[hfill]
   have rs5:RM G0 H0 q2 q3 (G2.upd H5.size (.cells v.toArray 55 (0,0))) (H5.push (.cells v.toArray 55 (0,0))) cells:=⟨rs4.ext.pushG _,rs4.o2.pushG _,rs4.o3.pushG _,rs4.ne⟩
   have hle5:G2.le (G2.upd H5.size (.cells v.toArray 55 (0,0))):=Cut.le_upd (rs4.ext.inn.none (Nat.le_refl _))
   have hf:=fill_choice2 d.ambTy (some ⟨H5.size,0,none⟩) 1 1
   unfold Qz
   simp only[hf]
   refine rs5.store3 (by omega) rfl rfl rfl ?_
   intro H6 rs6 _
   refine ⟨_,_,by rw[hcol];exact rs6,Cut.le_trans e5.le hle5,[v],⟨fun x hx=>by simp at hx;rw[hx];exact hvl,Or.inr ⟨H5.size,0,1,v.toArray,55,(0,0),rfl,Cut.upd_same,by simp[hvl],by simp only[List.drop_zero,List.length_cons,List.length_nil,List.flatten_cons,List.flatten_nil,List.append_nil];exact List.take_of_length_le (by simp[hvl]),Nat.le_refl _⟩⟩,?_⟩
   rw[rdU,if_neg (by intro h;rcases h with h|h;exact hn h;exact absurd h.1 (by decide)),rw1,Zh]
   exact ⟨hv2.mono hle5,by rw[Zh];trivial⟩
end
theorem Z7 {A p B pos vt:Nat} {bs:List UInt8} {d:Qbt} (hv:VT bs pos vt) {G:Cut} {H:Qe} (hG:G.In H) (t:Tab H p B bs pos) (own:YD A bs pos vt 72 (d.parent=false) (Qb3 ParentW)) {R:Kn} (hR:∀H' a,Ext G H G H'->(!Option.isNone a)=d.parent->R (.pointer a) H'):FnS prog 97 #[ptr p,.pointer none] H R:=by
 refine Zm t hv (fun h0=>?_) (fun h1=>?_)
 ·exact hR H none (Ext.refl hG) (by rw[own.zero h0];rfl)
 ·obtain ⟨hn,r1,_,r2,_⟩:=own.got h1
  exact ⟨r1,r2,hR _ (some _) ((Ext.refl hG).push _) (by simpa using Eq.symm (by simpa using hn))⟩
theorem QfA (b:Bool):vB (if b then 1 else 0:Nat)= .bool b:=by cases b<;>rfl
def Y7 (d:Qbt):List Value:=
 [.slice none 0 0,Qbc d.mana,Qbc d.hp,Yf d.name,Yf [],u8n d.color,.int .u8 0,.slice none 0 0,.int .u8 0,.slice none 0 0,.slice none 0 0,.slice none 0 0,.slice none 0 0,Yf [],.slice none 0 0,.bool d.bool,
  Qfl d.s32,Zz d.u32,Qdw d.s64,Ya d.u64,Qfl d.s32a,Zz d.u32a,Qdw d.s64a,Ya d.u64a,.slice none 0 0,Zz d.f,Zz d.f2,Zz d.f3,.slice none 0 0,.slice none 0 0,Yf [],.slice none 0 0,.slice none 0 0,.slice none 0 0,
  .bool d.parent,.slice none 0 0,Ya d.singleWeak,.slice none 0 0,.slice none 0 0,Ya d.coOwning,.slice none 0 0,Ya d.nonOwning,.slice none 0 0,.int .u8 0,.slice none 0 0,.int .u8 0,.int .u8 0,.slice none 0 0,.int .u8 0,Yf [],i8V d.signedEnum]
theorem Yi (d:Qbt):∀v∈(Y7 d).toArray.toList,v.oneCell'=true:=by
 intro v hv
 simp only[Y7,List.mem_cons,List.not_mem_nil,or_false]at hv
 rcases hv with rfl|rfl|rfl|rfl|rfl|rfl|rfl|rfl|rfl|rfl|rfl|rfl|rfl|rfl|rfl|rfl|rfl|rfl|rfl|rfl|rfl|rfl|rfl|rfl|rfl|rfl|rfl|rfl|rfl|rfl|rfl|rfl|rfl|rfl|rfl|rfl|rfl|rfl|rfl|rfl|rfl|rfl|rfl|rfl|rfl|rfl|rfl|rfl|rfl|rfl|rfl<;>rfl
theorem fill_head (d:Qbt):YJ z55.toList [(1,1,Qbc d.mana),(2,1,Qbc d.hp),(3,1,Yf d.name),(5,1,u8n d.color),(15,1,.bool d.bool),(16,1,Qfl d.s32),(17,1,Zz d.u32),(18,1,Qdw d.s64),(19,1,Ya d.u64),(20,1,Qfl d.s32a),(21,1,Zz d.u32a),(22,1,Qdw d.s64a),(23,1,Ya d.u64a),(25,1,Zz d.f),(26,1,Zz d.f2),(27,1,Zz d.f3),(34,1,.bool d.parent),(36,1,Ya d.singleWeak),(39,1,Ya d.coOwning),(41,1,Ya d.nonOwning),(50,1,i8V d.signedEnum)]=some (Y7 d):=by kernel_rfl
theorem head_ok {A p B pos vt:Nat} {bs:List UInt8} {d:Qbt} {G:Cut} {H:Qe} {R:Kn} (t:Tab H p B bs pos) (hG:G.In H) (own:OwnW A bs pos vt d) (hk:∀H' q2 q3,RM G H q2 q3 G H' (Y7 d)->rm1 (ptr p) (ptr q3) (ptr q2) H' R):s35 (ptr p) H R:=by
 have hv:=own.tab
 obtain ⟨n1,n2⟩:=own.name.there
 obtain ⟨n3,n4⟩:=QhF.at n2
 have hfill:=fill_head d
 have e:=Ext.refl hG
 unfold s35
 rw[Qy]
 have o2:=Yj.fresh e (.cells z55 55)
 have e:=e.push (.cells z55 55)
 have t:=Tab.push t (.cells z55 55)
 generalize H.push (.cells z55 55)=H1 at *
 refine Q0 (fun vs h=>∃q3,vs=[ptr q3]/\RM G H H.size q3 G h (Y7 d)) ?_ (fun x h hh=>by obtain ⟨q3,h1,h2⟩:=hh;cases h1;exact hk h _ _ h2)
 refine ⟨?_,?_⟩
 refine QbI t hv own.mana ?_
 refine ⟨?_,?_⟩
 refine Qb5 t hv own.hp ?_
 refine ⟨?_,?_⟩
 refine ZP t hv (fun h=>absurd h n1) (fun _=>⟨_,n3,?_⟩)
 refine t.str n4 rfl ?_
 refine ⟨?_,?_⟩
 refine Zo t hv own.color ?_
 rw[Qb]
 refine ⟨?_,?_⟩
 refine YB t hv own.bool ?_
 rw[QfA]
 rw[Qb]
 refine ⟨?_,?_⟩
 refine Yc t hv own.s32 ?_
 rw[Qb]
 refine ⟨?_,?_⟩
 refine QX t hv own.u32 ?_
 rw[Qb]
 refine ⟨?_,?_⟩
 refine QN t hv own.s64 ?_
 rw[Qb]
 refine ⟨?_,?_⟩
 refine QJ t hv own.u64 ?_
 rw[Qb]
 refine ⟨?_,?_⟩
 refine QC t hv own.s32a ?_
 rw[Qb]
 refine ⟨?_,?_⟩
 refine Q9 t hv own.u32a ?_
 rw[Qb]
 refine ⟨?_,?_⟩
 refine Q6 t hv own.s64a ?_
 rw[Qb]
 refine ⟨?_,?_⟩
 refine Q2 t hv own.u64a ?_
 rw[Qb]
 refine ⟨?_,?_⟩
 refine QO t hv own.f ?_
 rw[Qb]
 refine QL (fun w=>Qp) ?_
 refine ⟨?_,?_⟩
 refine QI t hv own.f2 ?_
 rw[Qb]
 refine QL (fun w=>Qp) ?_
 refine ⟨?_,?_⟩
 refine QE t hv own.f3 ?_
 rw[Qb]
 refine QL (fun w=>Qp) ?_
 refine ⟨?_,?_⟩
 refine Z7 hv e.inn t own.parent ?_
 intro H2 a e2 ha
 have e:=e.trans e2
 have o2:=o2.ext e2
 have t:=t.ext e2.keep.ext
 refine Qn e2.keep.ext ?_
 rw[QT (by kernel_rfl),ha]
 refine ⟨?_,?_⟩
 refine Qt t hv own.singleWeak ?_
 rw[Qb]
 refine ⟨?_,?_⟩
 refine Qu t hv own.coOwning ?_
 rw[Qb]
 refine ⟨?_,?_⟩
 refine Qr t hv own.nonOwning ?_
 rw[Qb]
 refine ⟨?_,?_⟩
 refine Qv t hv own.signedEnum ?_
 rw[Qb]
 unfold Qz
 simp only[hfill]
 rw[Qy]
 have hne:=o2.ne
 have o3:=Yj.fresh e (.cells z55 55)
 have o2:=o2.push (.cells z55 55)
 have t:=Tab.push t (.cells z55 55)
 have e:=e.push (.cells z55 55)
 refine Qn (Qaf.push _ _).ext ?_
 rw[Yg (n:=51) (c':=(Y7 d).toArray) o3.get rfl rfl (by decide) (Yi d)]
 exact ⟨_,rfl,e.set o3.out o3.new _,o2.set_ne hne _,o3.set _,hne⟩
 rw[Qy]
 have hne:=o2.ne
 have o3:=Yj.fresh e (.cells z55 55)
 have o2:=o2.push (.cells z55 55)
 have t:=Tab.push t (.cells z55 55)
 have e:=e.push (.cells z55 55)
 refine Qn (Qaf.push _ _).ext ?_
 refine Qv t hv own.signedEnum ?_
 rw[Qb]
 unfold Qz
 simp only[hfill]
 rw[Yg (n:=51) (c':=(Y7 d).toArray) o3.get rfl rfl (by decide) (Yi d)]
 exact ⟨_,rfl,e.set o3.out o3.new _,o2.set_ne hne _,o3.set _,hne⟩
 rw[Qy]
 have hne:=o2.ne
 have o3:=Yj.fresh e (.cells z55 55)
 have o2:=o2.push (.cells z55 55)
 have t:=Tab.push t (.cells z55 55)
 have e:=e.push (.cells z55 55)
 refine Qn (Qaf.push _ _).ext ?_
 refine Qr t hv own.nonOwning ?_
 rw[Qb]
 refine Qv t hv own.signedEnum ?_
 rw[Qb]
 unfold Qz
 simp only[hfill]
 rw[Yg (n:=51) (c':=(Y7 d).toArray) o3.get rfl rfl (by decide) (Yi d)]
 exact ⟨_,rfl,e.set o3.out o3.new _,o2.set_ne hne _,o3.set _,hne⟩
 rw[Qy]
 have hne:=o2.ne
 have o3:=Yj.fresh e (.cells z55 55)
 have o2:=o2.push (.cells z55 55)
 have t:=Tab.push t (.cells z55 55)
 have e:=e.push (.cells z55 55)
 refine Qn (Qaf.push _ _).ext ?_
 refine Qu t hv own.coOwning ?_
 rw[Qb]
 refine Qr t hv own.nonOwning ?_
 rw[Qb]
 refine Qv t hv own.signedEnum ?_
 rw[Qb]
 unfold Qz
 simp only[hfill]
 rw[Yg (n:=51) (c':=(Y7 d).toArray) o3.get rfl rfl (by decide) (Yi d)]
 exact ⟨_,rfl,e.set o3.out o3.new _,o2.set_ne hne _,o3.set _,hne⟩
 rw[Qy]
 have hne:=o2.ne
 have o3:=Yj.fresh e (.cells z55 55)
 have o2:=o2.push (.cells z55 55)
 have t:=Tab.push t (.cells z55 55)
 have e:=e.push (.cells z55 55)
 refine Qn (Qaf.push _ _).ext ?_
 refine Qt t hv own.singleWeak ?_
 rw[Qb]
 refine Qu t hv own.coOwning ?_
 rw[Qb]
 refine Qr t hv own.nonOwning ?_
 rw[Qb]
 refine Qv t hv own.signedEnum ?_
 rw[Qb]
 unfold Qz
 simp only[hfill]
 rw[Yg (n:=51) (c':=(Y7 d).toArray) o3.get rfl rfl (by decide) (Yi d)]
 exact ⟨_,rfl,e.set o3.out o3.new _,o2.set_ne hne _,o3.set _,hne⟩
 rw[Qy]
 have hne:=o2.ne
 have o3:=Yj.fresh e (.cells z55 55)
 have o2:=o2.push (.cells z55 55)
 have t:=Tab.push t (.cells z55 55)
 have e:=e.push (.cells z55 55)
 refine Qn (Qaf.push _ _).ext ?_
 refine Z7 hv e.inn t own.parent ?_
 intro H2 a e2 ha
 have e:=e.trans e2
 have o2:=o2.ext e2
 have t:=t.ext e2.keep.ext
 have o3:=o3.ext e2
 refine Qn e2.keep.ext ?_
 rw[QT (by kernel_rfl),ha]
 refine Qt t hv own.singleWeak ?_
 rw[Qb]
 refine Qu t hv own.coOwning ?_
 rw[Qb]
 refine Qr t hv own.nonOwning ?_
 rw[Qb]
 refine Qv t hv own.signedEnum ?_
 rw[Qb]
 unfold Qz
 simp only[hfill]
 rw[Yg (n:=51) (c':=(Y7 d).toArray) o3.get rfl rfl (by decide) (Yi d)]
 exact ⟨_,rfl,e.set o3.out o3.new _,o2.set_ne hne _,o3.set _,hne⟩
 rw[Qy]
 have hne:=o2.ne
 have o3:=Yj.fresh e (.cells z55 55)
 have o2:=o2.push (.cells z55 55)
 have t:=Tab.push t (.cells z55 55)
 have e:=e.push (.cells z55 55)
 refine Qn (Qaf.push _ _).ext ?_
 refine QE t hv own.f3 ?_
 rw[Qb]
 refine QL (fun w=>Qp) ?_
 refine Z7 hv e.inn t own.parent ?_
 intro H2 a e2 ha
 have e:=e.trans e2
 have o2:=o2.ext e2
 have t:=t.ext e2.keep.ext
 have o3:=o3.ext e2
 refine Qn e2.keep.ext ?_
 rw[QT (by kernel_rfl),ha]
 refine Qt t hv own.singleWeak ?_
 rw[Qb]
 refine Qu t hv own.coOwning ?_
 rw[Qb]
 refine Qr t hv own.nonOwning ?_
 rw[Qb]
 refine Qv t hv own.signedEnum ?_
 rw[Qb]
 unfold Qz
 simp only[hfill]
 rw[Yg (n:=51) (c':=(Y7 d).toArray) o3.get rfl rfl (by decide) (Yi d)]
 exact ⟨_,rfl,e.set o3.out o3.new _,o2.set_ne hne _,o3.set _,hne⟩
 rw[Qy]
 have hne:=o2.ne
 have o3:=Yj.fresh e (.cells z55 55)
 have o2:=o2.push (.cells z55 55)
 have t:=Tab.push t (.cells z55 55)
 have e:=e.push (.cells z55 55)
 refine Qn (Qaf.push _ _).ext ?_
 refine QI t hv own.f2 ?_
 rw[Qb]
 refine QL (fun w=>Qp) ?_
 refine QE t hv own.f3 ?_
 rw[Qb]
 refine QL (fun w=>Qp) ?_
 refine Z7 hv e.inn t own.parent ?_
 intro H2 a e2 ha
 have e:=e.trans e2
 have o2:=o2.ext e2
 have t:=t.ext e2.keep.ext
 have o3:=o3.ext e2
 refine Qn e2.keep.ext ?_
 rw[QT (by kernel_rfl),ha]
 refine Qt t hv own.singleWeak ?_
 rw[Qb]
 refine Qu t hv own.coOwning ?_
 rw[Qb]
 refine Qr t hv own.nonOwning ?_
 rw[Qb]
 refine Qv t hv own.signedEnum ?_
 rw[Qb]
 unfold Qz
 simp only[hfill]
 rw[Yg (n:=51) (c':=(Y7 d).toArray) o3.get rfl rfl (by decide) (Yi d)]
 exact ⟨_,rfl,e.set o3.out o3.new _,o2.set_ne hne _,o3.set _,hne⟩
 rw[Qy]
 have hne:=o2.ne
 have o3:=Yj.fresh e (.cells z55 55)
 have o2:=o2.push (.cells z55 55)
 have t:=Tab.push t (.cells z55 55)
 have e:=e.push (.cells z55 55)
 refine Qn (Qaf.push _ _).ext ?_
 refine QO t hv own.f ?_
 rw[Qb]
 refine QL (fun w=>Qp) ?_
 refine QI t hv own.f2 ?_
 rw[Qb]
 refine QL (fun w=>Qp) ?_
 refine QE t hv own.f3 ?_
 rw[Qb]
 refine QL (fun w=>Qp) ?_
 refine Z7 hv e.inn t own.parent ?_
 intro H2 a e2 ha
 have e:=e.trans e2
 have o2:=o2.ext e2
 have t:=t.ext e2.keep.ext
 have o3:=o3.ext e2
 refine Qn e2.keep.ext ?_
 rw[QT (by kernel_rfl),ha]
 refine Qt t hv own.singleWeak ?_
 rw[Qb]
 refine Qu t hv own.coOwning ?_
 rw[Qb]
 refine Qr t hv own.nonOwning ?_
 rw[Qb]
 refine Qv t hv own.signedEnum ?_
 rw[Qb]
 unfold Qz
 simp only[hfill]
 rw[Yg (n:=51) (c':=(Y7 d).toArray) o3.get rfl rfl (by decide) (Yi d)]
 exact ⟨_,rfl,e.set o3.out o3.new _,o2.set_ne hne _,o3.set _,hne⟩
 rw[Qy]
 have hne:=o2.ne
 have o3:=Yj.fresh e (.cells z55 55)
 have o2:=o2.push (.cells z55 55)
 have t:=Tab.push t (.cells z55 55)
 have e:=e.push (.cells z55 55)
 refine Qn (Qaf.push _ _).ext ?_
 refine Q2 t hv own.u64a ?_
 rw[Qb]
 refine QO t hv own.f ?_
 rw[Qb]
 refine QL (fun w=>Qp) ?_
 refine QI t hv own.f2 ?_
 rw[Qb]
 refine QL (fun w=>Qp) ?_
 refine QE t hv own.f3 ?_
 rw[Qb]
 refine QL (fun w=>Qp) ?_
 refine Z7 hv e.inn t own.parent ?_
 intro H2 a e2 ha
 have e:=e.trans e2
 have o2:=o2.ext e2
 have t:=t.ext e2.keep.ext
 have o3:=o3.ext e2
 refine Qn e2.keep.ext ?_
 rw[QT (by kernel_rfl),ha]
 refine Qt t hv own.singleWeak ?_
 rw[Qb]
 refine Qu t hv own.coOwning ?_
 rw[Qb]
 refine Qr t hv own.nonOwning ?_
 rw[Qb]
 refine Qv t hv own.signedEnum ?_
 rw[Qb]
 unfold Qz
 simp only[hfill]
 rw[Yg (n:=51) (c':=(Y7 d).toArray) o3.get rfl rfl (by decide) (Yi d)]
 exact ⟨_,rfl,e.set o3.out o3.new _,o2.set_ne hne _,o3.set _,hne⟩
 rw[Qy]
 have hne:=o2.ne
 have o3:=Yj.fresh e (.cells z55 55)
 have o2:=o2.push (.cells z55 55)
 have t:=Tab.push t (.cells z55 55)
 have e:=e.push (.cells z55 55)
 refine Qn (Qaf.push _ _).ext ?_
 refine Q6 t hv own.s64a ?_
 rw[Qb]
 refine Q2 t hv own.u64a ?_
 rw[Qb]
 refine QO t hv own.f ?_
 rw[Qb]
 refine QL (fun w=>Qp) ?_
 refine QI t hv own.f2 ?_
 rw[Qb]
 refine QL (fun w=>Qp) ?_
 refine QE t hv own.f3 ?_
 rw[Qb]
 refine QL (fun w=>Qp) ?_
 refine Z7 hv e.inn t own.parent ?_
 intro H2 a e2 ha
 have e:=e.trans e2
 have o2:=o2.ext e2
 have t:=t.ext e2.keep.ext
 have o3:=o3.ext e2
 refine Qn e2.keep.ext ?_
 rw[QT (by kernel_rfl),ha]
 refine Qt t hv own.singleWeak ?_
 rw[Qb]
 refine Qu t hv own.coOwning ?_
 rw[Qb]
 refine Qr t hv own.nonOwning ?_
 rw[Qb]
 refine Qv t hv own.signedEnum ?_
 rw[Qb]
 unfold Qz
 simp only[hfill]
 rw[Yg (n:=51) (c':=(Y7 d).toArray) o3.get rfl rfl (by decide) (Yi d)]
 exact ⟨_,rfl,e.set o3.out o3.new _,o2.set_ne hne _,o3.set _,hne⟩
 rw[Qy]
 have hne:=o2.ne
 have o3:=Yj.fresh e (.cells z55 55)
 have o2:=o2.push (.cells z55 55)
 have t:=Tab.push t (.cells z55 55)
 have e:=e.push (.cells z55 55)
 refine Qn (Qaf.push _ _).ext ?_
 refine Q9 t hv own.u32a ?_
 rw[Qb]
 refine Q6 t hv own.s64a ?_
 rw[Qb]
 refine Q2 t hv own.u64a ?_
 rw[Qb]
 refine QO t hv own.f ?_
 rw[Qb]
 refine QL (fun w=>Qp) ?_
 refine QI t hv own.f2 ?_
 rw[Qb]
 refine QL (fun w=>Qp) ?_
 refine QE t hv own.f3 ?_
 rw[Qb]
 refine QL (fun w=>Qp) ?_
 refine Z7 hv e.inn t own.parent ?_
 intro H2 a e2 ha
 have e:=e.trans e2
 have o2:=o2.ext e2
 have t:=t.ext e2.keep.ext
 have o3:=o3.ext e2
 refine Qn e2.keep.ext ?_
 rw[QT (by kernel_rfl),ha]
 refine Qt t hv own.singleWeak ?_
 rw[Qb]
 refine Qu t hv own.coOwning ?_
 rw[Qb]
 refine Qr t hv own.nonOwning ?_
 rw[Qb]
 refine Qv t hv own.signedEnum ?_
 rw[Qb]
 unfold Qz
 simp only[hfill]
 rw[Yg (n:=51) (c':=(Y7 d).toArray) o3.get rfl rfl (by decide) (Yi d)]
 exact ⟨_,rfl,e.set o3.out o3.new _,o2.set_ne hne _,o3.set _,hne⟩
 rw[Qy]
 have hne:=o2.ne
 have o3:=Yj.fresh e (.cells z55 55)
 have o2:=o2.push (.cells z55 55)
 have t:=Tab.push t (.cells z55 55)
 have e:=e.push (.cells z55 55)
 refine Qn (Qaf.push _ _).ext ?_
 refine QC t hv own.s32a ?_
 rw[Qb]
 refine Q9 t hv own.u32a ?_
 rw[Qb]
 refine Q6 t hv own.s64a ?_
 rw[Qb]
 refine Q2 t hv own.u64a ?_
 rw[Qb]
 refine QO t hv own.f ?_
 rw[Qb]
 refine QL (fun w=>Qp) ?_
 refine QI t hv own.f2 ?_
 rw[Qb]
 refine QL (fun w=>Qp) ?_
 refine QE t hv own.f3 ?_
 rw[Qb]
 refine QL (fun w=>Qp) ?_
 refine Z7 hv e.inn t own.parent ?_
 intro H2 a e2 ha
 have e:=e.trans e2
 have o2:=o2.ext e2
 have t:=t.ext e2.keep.ext
 have o3:=o3.ext e2
 refine Qn e2.keep.ext ?_
 rw[QT (by kernel_rfl),ha]
 refine Qt t hv own.singleWeak ?_
 rw[Qb]
 refine Qu t hv own.coOwning ?_
 rw[Qb]
 refine Qr t hv own.nonOwning ?_
 rw[Qb]
 refine Qv t hv own.signedEnum ?_
 rw[Qb]
 unfold Qz
 simp only[hfill]
 rw[Yg (n:=51) (c':=(Y7 d).toArray) o3.get rfl rfl (by decide) (Yi d)]
 exact ⟨_,rfl,e.set o3.out o3.new _,o2.set_ne hne _,o3.set _,hne⟩
 rw[Qy]
 have hne:=o2.ne
 have o3:=Yj.fresh e (.cells z55 55)
 have o2:=o2.push (.cells z55 55)
 have t:=Tab.push t (.cells z55 55)
 have e:=e.push (.cells z55 55)
 refine Qn (Qaf.push _ _).ext ?_
 refine QJ t hv own.u64 ?_
 rw[Qb]
 refine QC t hv own.s32a ?_
 rw[Qb]
 refine Q9 t hv own.u32a ?_
 rw[Qb]
 refine Q6 t hv own.s64a ?_
 rw[Qb]
 refine Q2 t hv own.u64a ?_
 rw[Qb]
 refine QO t hv own.f ?_
 rw[Qb]
 refine QL (fun w=>Qp) ?_
 refine QI t hv own.f2 ?_
 rw[Qb]
 refine QL (fun w=>Qp) ?_
 refine QE t hv own.f3 ?_
 rw[Qb]
 refine QL (fun w=>Qp) ?_
 refine Z7 hv e.inn t own.parent ?_
 intro H2 a e2 ha
 have e:=e.trans e2
 have o2:=o2.ext e2
 have t:=t.ext e2.keep.ext
 have o3:=o3.ext e2
 refine Qn e2.keep.ext ?_
 rw[QT (by kernel_rfl),ha]
 refine Qt t hv own.singleWeak ?_
 rw[Qb]
 refine Qu t hv own.coOwning ?_
 rw[Qb]
 refine Qr t hv own.nonOwning ?_
 rw[Qb]
 refine Qv t hv own.signedEnum ?_
 rw[Qb]
 unfold Qz
 simp only[hfill]
 rw[Yg (n:=51) (c':=(Y7 d).toArray) o3.get rfl rfl (by decide) (Yi d)]
 exact ⟨_,rfl,e.set o3.out o3.new _,o2.set_ne hne _,o3.set _,hne⟩
 rw[Qy]
 have hne:=o2.ne
 have o3:=Yj.fresh e (.cells z55 55)
 have o2:=o2.push (.cells z55 55)
 have t:=Tab.push t (.cells z55 55)
 have e:=e.push (.cells z55 55)
 refine Qn (Qaf.push _ _).ext ?_
 refine QN t hv own.s64 ?_
 rw[Qb]
 refine QJ t hv own.u64 ?_
 rw[Qb]
 refine QC t hv own.s32a ?_
 rw[Qb]
 refine Q9 t hv own.u32a ?_
 rw[Qb]
 refine Q6 t hv own.s64a ?_
 rw[Qb]
 refine Q2 t hv own.u64a ?_
 rw[Qb]
 refine QO t hv own.f ?_
 rw[Qb]
 refine QL (fun w=>Qp) ?_
 refine QI t hv own.f2 ?_
 rw[Qb]
 refine QL (fun w=>Qp) ?_
 refine QE t hv own.f3 ?_
 rw[Qb]
 refine QL (fun w=>Qp) ?_
 refine Z7 hv e.inn t own.parent ?_
 intro H2 a e2 ha
 have e:=e.trans e2
 have o2:=o2.ext e2
 have t:=t.ext e2.keep.ext
 have o3:=o3.ext e2
 refine Qn e2.keep.ext ?_
 rw[QT (by kernel_rfl),ha]
 refine Qt t hv own.singleWeak ?_
 rw[Qb]
 refine Qu t hv own.coOwning ?_
 rw[Qb]
 refine Qr t hv own.nonOwning ?_
 rw[Qb]
 refine Qv t hv own.signedEnum ?_
 rw[Qb]
 unfold Qz
 simp only[hfill]
 rw[Yg (n:=51) (c':=(Y7 d).toArray) o3.get rfl rfl (by decide) (Yi d)]
 exact ⟨_,rfl,e.set o3.out o3.new _,o2.set_ne hne _,o3.set _,hne⟩
 rw[Qy]
 have hne:=o2.ne
 have o3:=Yj.fresh e (.cells z55 55)
 have o2:=o2.push (.cells z55 55)
 have t:=Tab.push t (.cells z55 55)
 have e:=e.push (.cells z55 55)
 refine Qn (Qaf.push _ _).ext ?_
 refine QX t hv own.u32 ?_
 rw[Qb]
 refine QN t hv own.s64 ?_
 rw[Qb]
 refine QJ t hv own.u64 ?_
 rw[Qb]
 refine QC t hv own.s32a ?_
 rw[Qb]
 refine Q9 t hv own.u32a ?_
 rw[Qb]
 refine Q6 t hv own.s64a ?_
 rw[Qb]
 refine Q2 t hv own.u64a ?_
 rw[Qb]
 refine QO t hv own.f ?_
 rw[Qb]
 refine QL (fun w=>Qp) ?_
 refine QI t hv own.f2 ?_
 rw[Qb]
 refine QL (fun w=>Qp) ?_
 refine QE t hv own.f3 ?_
 rw[Qb]
 refine QL (fun w=>Qp) ?_
 refine Z7 hv e.inn t own.parent ?_
 intro H2 a e2 ha
 have e:=e.trans e2
 have o2:=o2.ext e2
 have t:=t.ext e2.keep.ext
 have o3:=o3.ext e2
 refine Qn e2.keep.ext ?_
 rw[QT (by kernel_rfl),ha]
 refine Qt t hv own.singleWeak ?_
 rw[Qb]
 refine Qu t hv own.coOwning ?_
 rw[Qb]
 refine Qr t hv own.nonOwning ?_
 rw[Qb]
 refine Qv t hv own.signedEnum ?_
 rw[Qb]
 unfold Qz
 simp only[hfill]
 rw[Yg (n:=51) (c':=(Y7 d).toArray) o3.get rfl rfl (by decide) (Yi d)]
 exact ⟨_,rfl,e.set o3.out o3.new _,o2.set_ne hne _,o3.set _,hne⟩
 rw[Qy]
 have hne:=o2.ne
 have o3:=Yj.fresh e (.cells z55 55)
 have o2:=o2.push (.cells z55 55)
 have t:=Tab.push t (.cells z55 55)
 have e:=e.push (.cells z55 55)
 refine Qn (Qaf.push _ _).ext ?_
 refine Yc t hv own.s32 ?_
 rw[Qb]
 refine QX t hv own.u32 ?_
 rw[Qb]
 refine QN t hv own.s64 ?_
 rw[Qb]
 refine QJ t hv own.u64 ?_
 rw[Qb]
 refine QC t hv own.s32a ?_
 rw[Qb]
 refine Q9 t hv own.u32a ?_
 rw[Qb]
 refine Q6 t hv own.s64a ?_
 rw[Qb]
 refine Q2 t hv own.u64a ?_
 rw[Qb]
 refine QO t hv own.f ?_
 rw[Qb]
 refine QL (fun w=>Qp) ?_
 refine QI t hv own.f2 ?_
 rw[Qb]
 refine QL (fun w=>Qp) ?_
 refine QE t hv own.f3 ?_
 rw[Qb]
 refine QL (fun w=>Qp) ?_
 refine Z7 hv e.inn t own.parent ?_
 intro H2 a e2 ha
 have e:=e.trans e2
 have o2:=o2.ext e2
 have t:=t.ext e2.keep.ext
 have o3:=o3.ext e2
 refine Qn e2.keep.ext ?_
 rw[QT (by kernel_rfl),ha]
 refine Qt t hv own.singleWeak ?_
 rw[Qb]
 refine Qu t hv own.coOwning ?_
 rw[Qb]
 refine Qr t hv own.nonOwning ?_
 rw[Qb]
 refine Qv t hv own.signedEnum ?_
 rw[Qb]
 unfold Qz
 simp only[hfill]
 rw[Yg (n:=51) (c':=(Y7 d).toArray) o3.get rfl rfl (by decide) (Yi d)]
 exact ⟨_,rfl,e.set o3.out o3.new _,o2.set_ne hne _,o3.set _,hne⟩
 rw[Qy]
 have hne:=o2.ne
 have o3:=Yj.fresh e (.cells z55 55)
 have o2:=o2.push (.cells z55 55)
 have t:=Tab.push t (.cells z55 55)
 have e:=e.push (.cells z55 55)
 refine Qn (Qaf.push _ _).ext ?_
 refine YB t hv own.bool ?_
 rw[QfA]
 rw[Qb]
 refine Yc t hv own.s32 ?_
 rw[Qb]
 refine QX t hv own.u32 ?_
 rw[Qb]
 refine QN t hv own.s64 ?_
 rw[Qb]
 refine QJ t hv own.u64 ?_
 rw[Qb]
 refine QC t hv own.s32a ?_
 rw[Qb]
 refine Q9 t hv own.u32a ?_
 rw[Qb]
 refine Q6 t hv own.s64a ?_
 rw[Qb]
 refine Q2 t hv own.u64a ?_
 rw[Qb]
 refine QO t hv own.f ?_
 rw[Qb]
 refine QL (fun w=>Qp) ?_
 refine QI t hv own.f2 ?_
 rw[Qb]
 refine QL (fun w=>Qp) ?_
 refine QE t hv own.f3 ?_
 rw[Qb]
 refine QL (fun w=>Qp) ?_
 refine Z7 hv e.inn t own.parent ?_
 intro H2 a e2 ha
 have e:=e.trans e2
 have o2:=o2.ext e2
 have t:=t.ext e2.keep.ext
 have o3:=o3.ext e2
 refine Qn e2.keep.ext ?_
 rw[QT (by kernel_rfl),ha]
 refine Qt t hv own.singleWeak ?_
 rw[Qb]
 refine Qu t hv own.coOwning ?_
 rw[Qb]
 refine Qr t hv own.nonOwning ?_
 rw[Qb]
 refine Qv t hv own.signedEnum ?_
 rw[Qb]
 unfold Qz
 simp only[hfill]
 rw[Yg (n:=51) (c':=(Y7 d).toArray) o3.get rfl rfl (by decide) (Yi d)]
 exact ⟨_,rfl,e.set o3.out o3.new _,o2.set_ne hne _,o3.set _,hne⟩
 rw[Qy]
 have hne:=o2.ne
 have o3:=Yj.fresh e (.cells z55 55)
 have o2:=o2.push (.cells z55 55)
 have t:=Tab.push t (.cells z55 55)
 have e:=e.push (.cells z55 55)
 refine Qn (Qaf.push _ _).ext ?_
 refine Zo t hv own.color ?_
 rw[Qb]
 refine YB t hv own.bool ?_
 rw[QfA]
 rw[Qb]
 refine Yc t hv own.s32 ?_
 rw[Qb]
 refine QX t hv own.u32 ?_
 rw[Qb]
 refine QN t hv own.s64 ?_
 rw[Qb]
 refine QJ t hv own.u64 ?_
 rw[Qb]
 refine QC t hv own.s32a ?_
 rw[Qb]
 refine Q9 t hv own.u32a ?_
 rw[Qb]
 refine Q6 t hv own.s64a ?_
 rw[Qb]
 refine Q2 t hv own.u64a ?_
 rw[Qb]
 refine QO t hv own.f ?_
 rw[Qb]
 refine QL (fun w=>Qp) ?_
 refine QI t hv own.f2 ?_
 rw[Qb]
 refine QL (fun w=>Qp) ?_
 refine QE t hv own.f3 ?_
 rw[Qb]
 refine QL (fun w=>Qp) ?_
 refine Z7 hv e.inn t own.parent ?_
 intro H2 a e2 ha
 have e:=e.trans e2
 have o2:=o2.ext e2
 have t:=t.ext e2.keep.ext
 have o3:=o3.ext e2
 refine Qn e2.keep.ext ?_
 rw[QT (by kernel_rfl),ha]
 refine Qt t hv own.singleWeak ?_
 rw[Qb]
 refine Qu t hv own.coOwning ?_
 rw[Qb]
 refine Qr t hv own.nonOwning ?_
 rw[Qb]
 refine Qv t hv own.signedEnum ?_
 rw[Qb]
 unfold Qz
 simp only[hfill]
 rw[Yg (n:=51) (c':=(Y7 d).toArray) o3.get rfl rfl (by decide) (Yi d)]
 exact ⟨_,rfl,e.set o3.out o3.new _,o2.set_ne hne _,o3.set _,hne⟩
 rw[Qy]
 have hne:=o2.ne
 have o3:=Yj.fresh e (.cells z55 55)
 have o2:=o2.push (.cells z55 55)
 have t:=Tab.push t (.cells z55 55)
 have e:=e.push (.cells z55 55)
 refine ZP t hv (fun h=>absurd h n1) (fun _=>⟨_,n3,?_⟩)
 refine t.str n4 rfl ?_
 refine Zo t hv own.color ?_
 rw[Qb]
 refine YB t hv own.bool ?_
 rw[QfA]
 rw[Qb]
 refine Yc t hv own.s32 ?_
 rw[Qb]
 refine QX t hv own.u32 ?_
 rw[Qb]
 refine QN t hv own.s64 ?_
 rw[Qb]
 refine QJ t hv own.u64 ?_
 rw[Qb]
 refine QC t hv own.s32a ?_
 rw[Qb]
 refine Q9 t hv own.u32a ?_
 rw[Qb]
 refine Q6 t hv own.s64a ?_
 rw[Qb]
 refine Q2 t hv own.u64a ?_
 rw[Qb]
 refine QO t hv own.f ?_
 rw[Qb]
 refine QL (fun w=>Qp) ?_
 refine QI t hv own.f2 ?_
 rw[Qb]
 refine QL (fun w=>Qp) ?_
 refine QE t hv own.f3 ?_
 rw[Qb]
 refine QL (fun w=>Qp) ?_
 refine Z7 hv e.inn t own.parent ?_
 intro H2 a e2 ha
 have e:=e.trans e2
 have o2:=o2.ext e2
 have t:=t.ext e2.keep.ext
 have o3:=o3.ext e2
 refine Qn e2.keep.ext ?_
 rw[QT (by kernel_rfl),ha]
 refine Qt t hv own.singleWeak ?_
 rw[Qb]
 refine Qu t hv own.coOwning ?_
 rw[Qb]
 refine Qr t hv own.nonOwning ?_
 rw[Qb]
 refine Qv t hv own.signedEnum ?_
 rw[Qb]
 unfold Qz
 simp only[hfill]
 rw[Yg (n:=51) (c':=(Y7 d).toArray) o3.get rfl rfl (by decide) (Yi d)]
 exact ⟨_,rfl,e.set o3.out o3.new _,o2.set_ne hne _,o3.set _,hne⟩
 rw[Qy]
 have hne:=o2.ne
 have o3:=Yj.fresh e (.cells z55 55)
 have o2:=o2.push (.cells z55 55)
 have t:=Tab.push t (.cells z55 55)
 have e:=e.push (.cells z55 55)
 refine Qb5 t hv own.hp ?_
 refine ZP t hv (fun h=>absurd h n1) (fun _=>⟨_,n3,?_⟩)
 refine t.str n4 rfl ?_
 refine Zo t hv own.color ?_
 rw[Qb]
 refine YB t hv own.bool ?_
 rw[QfA]
 rw[Qb]
 refine Yc t hv own.s32 ?_
 rw[Qb]
 refine QX t hv own.u32 ?_
 rw[Qb]
 refine QN t hv own.s64 ?_
 rw[Qb]
 refine QJ t hv own.u64 ?_
 rw[Qb]
 refine QC t hv own.s32a ?_
 rw[Qb]
 refine Q9 t hv own.u32a ?_
 rw[Qb]
 refine Q6 t hv own.s64a ?_
 rw[Qb]
 refine Q2 t hv own.u64a ?_
 rw[Qb]
 refine QO t hv own.f ?_
 rw[Qb]
 refine QL (fun w=>Qp) ?_
 refine QI t hv own.f2 ?_
 rw[Qb]
 refine QL (fun w=>Qp) ?_
 refine QE t hv own.f3 ?_
 rw[Qb]
 refine QL (fun w=>Qp) ?_
 refine Z7 hv e.inn t own.parent ?_
 intro H2 a e2 ha
 have e:=e.trans e2
 have o2:=o2.ext e2
 have t:=t.ext e2.keep.ext
 have o3:=o3.ext e2
 refine Qn e2.keep.ext ?_
 rw[QT (by kernel_rfl),ha]
 refine Qt t hv own.singleWeak ?_
 rw[Qb]
 refine Qu t hv own.coOwning ?_
 rw[Qb]
 refine Qr t hv own.nonOwning ?_
 rw[Qb]
 refine Qv t hv own.signedEnum ?_
 rw[Qb]
 unfold Qz
 simp only[hfill]
 rw[Yg (n:=51) (c':=(Y7 d).toArray) o3.get rfl rfl (by decide) (Yi d)]
 exact ⟨_,rfl,e.set o3.out o3.new _,o2.set_ne hne _,o3.set _,hne⟩
 rw[Qy]
 have hne:=o2.ne
 have o3:=Yj.fresh e (.cells z55 55)
 have o2:=o2.push (.cells z55 55)
 have t:=Tab.push t (.cells z55 55)
 have e:=e.push (.cells z55 55)
 refine QbI t hv own.mana ?_
 refine Qb5 t hv own.hp ?_
 refine ZP t hv (fun h=>absurd h n1) (fun _=>⟨_,n3,?_⟩)
 refine t.str n4 rfl ?_
 refine Zo t hv own.color ?_
 rw[Qb]
 refine YB t hv own.bool ?_
 rw[QfA]
 rw[Qb]
 refine Yc t hv own.s32 ?_
 rw[Qb]
 refine QX t hv own.u32 ?_
 rw[Qb]
 refine QN t hv own.s64 ?_
 rw[Qb]
 refine QJ t hv own.u64 ?_
 rw[Qb]
 refine QC t hv own.s32a ?_
 rw[Qb]
 refine Q9 t hv own.u32a ?_
 rw[Qb]
 refine Q6 t hv own.s64a ?_
 rw[Qb]
 refine Q2 t hv own.u64a ?_
 rw[Qb]
 refine QO t hv own.f ?_
 rw[Qb]
 refine QL (fun w=>Qp) ?_
 refine QI t hv own.f2 ?_
 rw[Qb]
 refine QL (fun w=>Qp) ?_
 refine QE t hv own.f3 ?_
 rw[Qb]
 refine QL (fun w=>Qp) ?_
 refine Z7 hv e.inn t own.parent ?_
 intro H2 a e2 ha
 have e:=e.trans e2
 have o2:=o2.ext e2
 have t:=t.ext e2.keep.ext
 have o3:=o3.ext e2
 refine Qn e2.keep.ext ?_
 rw[QT (by kernel_rfl),ha]
 refine Qt t hv own.singleWeak ?_
 rw[Qb]
 refine Qu t hv own.coOwning ?_
 rw[Qb]
 refine Qr t hv own.nonOwning ?_
 rw[Qb]
 refine Qv t hv own.signedEnum ?_
 rw[Qb]
 unfold Qz
 simp only[hfill]
 rw[Yg (n:=51) (c':=(Y7 d).toArray) o3.get rfl rfl (by decide) (Yi d)]
 exact ⟨_,rfl,e.set o3.out o3.new _,o2.set_ne hne _,o3.set _,hne⟩
theorem rm24_ok {G0:Cut} {H0:Qe} {q2 q3:Nat} {G:Cut} {H:Qe} {cells:List Value} (rs:RM G0 H0 q2 q3 G H cells) {R:Kn} (hl:cells.length=51) (hone:∀v∈cells,v.oneCell'=true) (hR:∀H',Ext G0 H0 G H'->R (.agg cells.toArray) H'):rm24 (ptr q3) (ptr q2) H R:=
 rs.fin hl rfl (by decide) hone hR
end Go.Proofs
namespace Go.Proofs
open Go Go.Vc
open Tryz (prog)
theorem rm24_of {G0:Cut} {H0:Qe} {q2 q3:Nat} {G:Cut} {H:Qe} {cells cells2:List Value} (rs:RM G0 H0 q2 q3 G H cells) {R:Kn} (he:cells=cells2) (hl:cells2.length=51) (hone:∀v∈cells2,v.oneCell'=true) (hR:∀H',Ext G0 H0 G H'->R (.agg cells2.toArray) H'):rm24 (ptr q3) (ptr q2) H R:=by
 subst he
 exact rm24_ok rs hl hone hR
set_option maxHeartbeats 1000000 in
theorem readStep {d:Qbt} {tables enemy test uniq amb:List Mon} (hT:∀k∈tables,Qe2 k) (hE:∀k∈enemy,Qe2 k) (hU:∀k∈test,Qe2 k) (hQ:∀k∈uniq,Qe2 k) (hA:∀k∈amb,Qe2 k):Qe2 (.mk d tables enemy test uniq amb):=by
 intro A p B pos bs G H R ht hG hrd hR
 rw[RwM]at hrd
 obtain ⟨vt,own,sT,sE,sU,sQ,sA⟩:=hrd
 have hv:=own.tab
 apply w35
 refine head_ok ht hG own ?_
 intro H0 q2 q3 r0
 refine rm1_ok ht hv r0 own.pos0 (by kernel_rfl) ?_
 intro G1 H1 c0 r1 le1 v0
 refine rm2_ok ht hv r1 own.inventory (by kernel_rfl) ?_
 intro H2 r2
 refine rm3_ok ht hv r2 own.test4 (by kernel_rfl) ?_
 intro G3 H3 c9 r3 le3 v9
 refine rm4_ok ht hv r3 own.strings (by kernel_rfl) ?_
 intro G4 H4 c10 r4 le4 v10
 refine rm5_ok ht hv r4 hT sT (by kernel_rfl) ?_
 intro G5 H5 c11 r5 le5 v11
 refine rm6_ok ht hv r5 hE sE (by kernel_rfl) ?_
 intro G6 H6 c12 r6 le6 v12
 refine rm7_ok ht hv r6 own.nested (by kernel_rfl) ?_
 intro H7 r7
 refine rm8_ok ht hv r7 own.empty (by kernel_rfl) ?_
 intro G8 H8 c14 r8 le8 v14
 refine rm9_ok ht hv r8 own.bools (by kernel_rfl) ?_
 intro G9 H9 c24 r9 le9 v24
 refine rm10_ok ht hv r9 own.strings2 (by kernel_rfl) ?_
 intro G10 H10 c28 r10 le10 v28
 refine rm11_ok ht hv r10 own.abilities (by kernel_rfl) ?_
 intro G11 H11 c29 r11 le11 v29
 refine rm12_ok ht hv r11 own.flex (by kernel_rfl) ?_
 intro H12 r12
 refine rm13_ok ht hv r12 own.test5 (by kernel_rfl) ?_
 intro G13 H13 c31 r13 le13 v31
 refine rm14_ok ht hv r13 own.longs (by kernel_rfl) ?_
 intro G14 H14 c32 r14 le14 v32
 refine rm15_ok ht hv r14 own.doubles (by kernel_rfl) ?_
 intro G15 H15 c33 r15 le15 v33
 refine rm16_ok ht hv r15 own.refs (by kernel_rfl) ?_
 intro G16 H16 c35 r16 le16 v35
 refine rm17_ok ht hv r16 own.weak (by kernel_rfl) ?_
 intro G17 H17 c37 r17 le17 v37
 refine rm18_ok ht hv r17 own.strong (by kernel_rfl) ?_
 intro G18 H18 c38 r18 le18 v38
 refine rm19_ok ht hv r18 own.coOwnings (by kernel_rfl) ?_
 intro G19 H19 c40 r19 le19 v40
 refine rm20_ok ht hv r19 own.nonOwnings (by kernel_rfl) ?_
 intro G20 H20 c42 r20 le20 v42
 refine rm21_ok ht hv r20 (by kernel_rfl) hU hQ own.testTy sU own.uniqTy sQ ?_
 intro G21 H21 c7 c44 cc q31 r21 le21 v7 v44 o31 hcc n2 n3
 refine rm22_ok ht hv r21 o31 hcc n2 n3 (by kernel_rfl) hA (by kernel_rfl) (by kernel_rfl) (by kernel_rfl) own.ambTy sA ?_
 intro G22 H22 c47 r22 le22 v47
 refine rm23_ok ht hv r22 own.enums (by kernel_rfl) ?_
 intro H23 r23
 have L21:=Cut.le_trans le21 le22
 have L20:=Cut.le_trans le20 L21
 have L19:=Cut.le_trans le19 L20
 have L18:=Cut.le_trans le18 L19
 have L17:=Cut.le_trans le17 L18
 have L16:=Cut.le_trans le16 L17
 have L15:=Cut.le_trans le15 L16
 have L14:=Cut.le_trans le14 L15
 have L13:=Cut.le_trans le13 L14
 have L11:=Cut.le_trans le11 L13
 have L10:=Cut.le_trans le10 L11
 have L9:=Cut.le_trans le9 L10
 have L8:=Cut.le_trans le8 L9
 have L6:=Cut.le_trans le6 L8
 have L5:=Cut.le_trans le5 L6
 have L4:=Cut.le_trans le4 L5
 have L3:=Cut.le_trans le3 L4
 have hval:QaX G22 (rwM (.mk d tables enemy test uniq amb)) (Yk (rwD d) ⟨c0,c7,c9,c10,c11,c12,c14,c24,c28,c29,c31,c32,c33,c35,c37,c38,c40,c42,c44,c47⟩):=by
  rw[rwM,QaX]
  exact ⟨_,rfl,⟨v0.mono L3,v9.mono L4,v10.mono L5,v14.mono L9,v24.mono L10,v28.mono L11,v29.mono L13,v31.mono L14,v32.mono L15,v33.mono L16,v35.mono L17,v37.mono L18,v38.mono L19,v40.mono L20,v42.mono L21⟩,v11.mono L6,v12.mono L8,v7.mono le22,v44.mono le22,v47⟩
 refine rm24_of r23 (by kernel_rfl) (YP _ _) (QaX.one hval) ?_
 intro H' e'
 exact hR _ H' G22 e' hval
mutual
theorem Qgt:∀m:Mon,Qe2 m
 |.mk d tables enemy test uniq amb=>readStep (Qab tables) (Qab enemy) (Qab test) (Qab uniq) (Qab amb)
theorem Qab:∀ms:List Mon,∀k∈ms,Qe2 k
 |[],k,h=>by simp at h
 |m::ms,k,h=>by
  rcases List.mem_cons.1 h with h|h
  ·rw[h];exact Qgt m
  ·exact Qab ms k h
end
end Go.Proofs
namespace Go.Proofs
open Go Go.Vc
open Tryz (prog)
def noBad:Nat->Prop:=fun _=>False
theorem QcO {P:Program} {t:TypeId} {x0:Value} {B:Value->Value->Qe->(Kn)->Prop} {K:Kn} {G:Cut} {H:Qe} {et:TypeId} {es n:Nat} (hG:G.In H) (Items:Cut->Nat->List (List Value)->Prop) (h0:Items G 0 []) (hn:n<4611686018427387904) (hl:∀k:Value->Prop,Yv x0 k=k (.int .i64 (n:Nat)))
  (hB:∀i y G1 H1 items (k:Kn),i<n->Ext G H G1 H1->Cur H G1 H1 et es y items noBad->Items G1 i items->(∀y' G2 H2 items',Ext G H G2 H2->Cur H G2 H2 et es y' items' noBad->Items G2 (i+1) items'->k y' H2)->B (.int .i64 (i:Nat)) y H1 k)
  (hK:∀y G1 G2 H2 items,Ext G H G2 H2->SlV G2 es y items->Items G1 n items->G1.le G2->(items=[]->y= .slice none 0 0)->K y H2):Qdc P t x0 H B K:=by
 refine accLoop_of (n:=n) (fun i y H1=>∃G1 items,Ext G H G1 H1/\Cur H G1 H1 et es y items noBad/\Items G1 i items) ⟨G,[],Ext.refl hG,Cur.nil,h0⟩ hn hl ?_ ?_
 ·rintro i y H1 k hlt ⟨G1,items,e,c,hi⟩ hk
  exact hB i y G1 H1 items k hlt e c hi (fun y' G2 H2 items' e2 c2 h2=>hk y' H2 ⟨G2,items',e2,c2,h2⟩)
 ·rintro y H1 ⟨G1,items,e,c,hi⟩
  obtain ⟨G2,e2,sl,le,_⟩:=c.done e
  exact hK y G1 G2 H1 items e2 sl hi le c.nilOf
theorem QbA {G0:Cut} {H0:Qe} {G:Cut} {H:Qe} {et:TypeId} {es bts:Nat} {zs:Array Value} {c:Value} {items:List (List Value)} (hE:Ext G0 H0 G H) (hc:Cur H0 G H et es c items noBad) {v:Value} {it:List Value} (hv:v.cells.toList=it) (hl:it.length=es) (hone:∀x∈it,x.oneCell'=true)
  (hes:0<es) (hz:zs.size=es) (hb:0<bts) (hn:(items.length+1)*bts<=140737488355328) {k:Kn} (hk:∀c' H',Ext G0 H0 G H'->Cur H0 G H' et es c' (items++[it]) noBad->k c' H'):
  Q8 H et 1 (YV zs.toList 1) [(0,es,v)] fun y h2=>Qbs h2 et es bts zs c y k:=by
 have hvs:v.cells.size=es:=by rw[<-hl,<-hv];simp
 have hfill:YJ (YV zs.toList 1) [(0,es,v)]=some it:=by
  show (if v.cells.size=es/\0+v.cells.size<=(YV zs.toList 1).length then _ else _)=_
  have hrl:(YV zs.toList 1).length=es:=by simp[YV,hz]
  rw[if_pos ⟨hvs,by rw[hrl];omega⟩]
  show some _=_
  rw[hv,hvs,Nat.zero_add,List.drop_eq_nil_of_le (by omega)];simp
 unfold Q8
 simp only[hfill]
 have e1:=hE.push (.cells it.toArray et (0,0))
 refine (hc.push _).app e1 (y:=H.size) (yo:=0) (cells:=it.toArray) (ye:=et) (fr:=(0,0)) (it:=it) Qh (by simp[hl]) (by rw[List.drop_zero];simp[<-hl]) hone hes hb hn hz (fun _ h=>h.elim) ?_
 intro c' H' he hcur _
 exact hk c' H' he hcur
theorem QgN {F:Cut} {v:Value} {vs:List Value} {P:Program} {t:TypeId} {a b:Prop} (h:SlV F 1 v (vs.map fun x=>[x])) (ha:QaH F (.slice none 0 0) vs->a) (hb:QaH F v vs->b):Yv v fun n=>Qk P .eql t n (.int .i64 0) fun c=>IfK c a b:=by
 rw[h.len,Yt,List.length_map]
 by_cases h0:vs=[]
 ·subst h0
  show IfK (.bool true) _ _
  rw[QbS]
  exact ha ⟨Or.inl ⟨rfl,rfl⟩,fun _=>rfl⟩
 ·have hl:¬((vs.length:Nat):Int)=0:=fun hc=>h0 (List.length_eq_zero_iff.1 (by omega))
  rw[QM hl]
  exact hb ⟨h.list h0,fun hc=>absurd hc h0⟩
theorem Qja {F:Cut} {H:Qe} {v:Value} {vs:List Value} {R:Kn} (h:SlV F 1 v (vs.map fun x=>[x])) (hR:∀v',QaH F v' vs->R v' H):FnS prog 168 #[v] H R:=by
 apply w168
 unfold tp168
 exact QgN h (hR _) (hR _)
theorem items_bool {F:Cut} {H:Qe} {v:Value} {vs:List Value} {R:Kn} (h:SlV F 1 v (vs.map fun x=>[x])) (hR:∀v',QaH F v' vs->R v' H):FnS prog 169 #[v] H R:=by
 apply w169
 unfold tp168
 exact QgN h (hR _) (hR _)
theorem items_int64 {F:Cut} {H:Qe} {v:Value} {vs:List Value} {R:Kn} (h:SlV F 1 v (vs.map fun x=>[x])) (hR:∀v',QaH F v' vs->R v' H):FnS prog 171 #[v] H R:=by
 apply w171
 unfold tp168
 exact QgN h (hR _) (hR _)
theorem Qgb {F:Cut} {H:Qe} {v:Value} {vs:List Value} {R:Kn} (h:SlV F 1 v (vs.map fun x=>[x])) (hR:∀v',QaH F v' vs->R v' H):FnS prog 173 #[v] H R:=by
 apply w173
 unfold tp168
 exact QgN h (hR _) (hR _)
theorem bytesOf_ok {G:Cut} {H:Qe} (hG:G.In H) {xs:List UInt8} {R:Kn} (hR:∀G' H' v,Ext G H G' H'->QaH G' v (xs.map u8V)->R v H'):FnS prog 166 #[Yf xs] H R:=by
 apply w166
 unfold s166
 rw[BinK_streq,Qec]
 by_cases h0:xs=[]
 ·subst h0
  have e0:(([]:List UInt8)==(ByteArray.mk #[]).toList)=true:=by
   have e:(ByteArray.mk #[]).toList=[]:=Qec []
   rw[e];rfl
  rw[e0,QbS]
  exact hR G H _ (Ext.refl hG) ⟨Or.inl ⟨rfl,rfl⟩,fun _=>rfl⟩
 ·have hb:(xs==(ByteArray.mk #[]).toList)=false:=by
   have e:(ByteArray.mk #[]).toList=[]:=Qec []
   rw[e]
   cases xs with
   |nil=>exact absurd rfl h0
   |cons x xs=>rfl
  rw[hb,ZG]
  intro cap hcap
  have hcap':xs.length<=cap:=by rw[Qau]at hcap;exact hcap
  have hby:(Z2 (ByteArray.mk xs.toArray)).toList=xs.map u8V:=by simp[Z2]
  have e:=(Ext.refl hG).pushG (.cells (Z2 (ByteArray.mk xs.toArray)++Array.replicate (cap-(ByteArray.mk xs.toArray).size) (.int .u8 0)) 5 (cap,cap+1))
  refine hR _ _ _ e ⟨Or.inr ⟨H.size,0,cap,_,5,(cap,cap+1),by rw[Qau,List.length_map],Cut.upd_same,?_,?_,by rw[List.length_map];exact hcap'⟩,fun hc=>absurd (by simpa using hc) h0⟩
  ·rw[List.length_map,Array.size_append];simp[Z2]
  ·rw[List.length_map,List.drop_zero,Array.toList_append,hby,List.take_left' (by simp)]
theorem testsOf_ok {G:Cut} {H:Qe} (hG:G.In H) {l:List Qb8} {v:Value} (hv:SlV G 2 v (l.map Yw)) (hl:l.length<=50) {R:Kn} (hR:∀G' H' v,Ext G H G' H'->Qez G' v l testC->R v H'):FnS prog 167 #[v] H R:=by
 apply w167
 unfold s167 ts1
 refine QcO hG (et:=165) (es:=1) (n:=l.length) (fun F i items=>∃ptrs:List Value,items=ptrs.map (fun p=>[p])/\ptrs.length=i/\∀(j:Nat) p t,ptrs[j]?=some p->l[j]?=some t->Za F p (testC t)) ⟨[],rfl,rfl,fun j p t h=>by simp at h⟩ (by omega) (fun k=>by rw[hv.len,List.length_map]) ?_ ?_
 ·rintro i y G1 H1 items k hlt e c ⟨ptrs,rfl,hpl,hp⟩ hk
  have ha:=List.getElem?_eq_getElem hlt
  obtain ⟨b,o,cells,e',fr,h1,h2,h3,h4⟩:=(hv.mono e.le).idx e.inn (i:=i) rfl (it:=Yw l[i]) (by rw[List.getElem?_map,ha];rfl)
  unfold ts1B
  rw[h1,YI (n:=2) (vs:=Yw l[i]) (by rw[Q4 h2 2 (by omega)];exact congrArg some h4),Qy]
  rw[Yg (n:=2) (c':=(Yw l[i]).toArray) Qh rfl rfl (by decide) (by intro v hv;simp[Yw]at hv;rcases hv with rfl|rfl<;>rfl),Yq]
  rw[Qm,Ql ((Qj Qh).trans (show ((Yw l[i]).toArray)[0]?=some (Qbc l[i].a) from rfl)),Qm,Ql ((Qj Qh).trans (show ((Yw l[i]).toArray)[1]?=some (i8V l[i].b) from rfl))]
  have hf:YJ z169.toList [(0,1,Qbc l[i].a),(1,1,i8V l[i].b)]=some [Qbc l[i].a,i8V l[i].b]:=rfl
  unfold Qz
  simp only[hf]
  rw[Qy]
  have e1:=e.push (.cells (Yw l[i]).toArray 117 (0,0))
  have c1:=c.push (.cells (Yw l[i]).toArray 117 (0,0))
  generalize H1.push (.cells (Yw l[i]).toArray 117 (0,0))=H2 at *
  have e2:=e1.pushG (.cells (testC l[i]) 169 (0,0))
  have hout:=e1.inn.none (Nat.le_refl H2.size)
  have c2:Cur H (G1.upd H2.size (.cells (testC l[i]) 169 (0,0))) (H2.push (.cells (testC l[i]) 169 (0,0))) 165 1 y (ptrs.map fun p=>[p]) noBad:=
   c1.ext ((Ext.refl e1.inn).pushG _)
  refine QbA e2 c2 (it:=[ptr H2.size]) (v:=ptr H2.size) rfl rfl (by intro x hx;simp at hx;subst hx;rfl) (by decide) rfl (by decide) (by rw[List.length_map];omega) ?_
  intro c' H' e3 c3
  refine hk c' _ H' _ e3 c3 ⟨ptrs++[ptr H2.size],by simp,by simp[hpl],fun j p t hj ht=>?_⟩
  rw[List.getElem?_append]at hj
  split at hj
  ·exact (hp j p t hj ht).mono (Cut.le_upd hout)
  ·rename_i hge
   have hlt2:=Qo hj
   have:j=i:=by simp at hlt2;omega
   subst this
   have hpj:p=ptr H2.size:=by
    have:j-ptrs.length=0:=by omega
    rw[this]at hj;simpa using hj.symm
   have htj:t=l[j]:=by rw[ha]at ht;exact (Option.some.inj ht).symm
   rw[hpj,htj]
   exact ⟨H2.size,_,rfl,Cut.upd_same⟩
 ·rintro y G1 G2 H2 items e2 sl ⟨ptrs,rfl,hpl,hp⟩ hle hnil
  exact hR G2 H2 y e2 ⟨ptrs,sl.listN (fun h=>hnil (by rw[h];rfl)),hpl,fun j p t h1 h2=>(hp j p t h1 h2).mono hle⟩
theorem refsOf_ok {G:Cut} {H:Qe} (hG:G.In H) {l:List UInt64} {v:Value} (hv:SlV G 1 v (l.map Qai)) (hl:l.length<=50) {R:Kn} (hR:∀G' H' v,Ext G H G' H'->Qez G' v l refC->R v H'):FnS prog 172 #[v] H R:=by
 apply w172
 unfold s172 rf1
 refine QcO hG (et:=258) (es:=1) (n:=l.length) (fun F i items=>∃ptrs:List Value,items=ptrs.map (fun p=>[p])/\ptrs.length=i/\∀(j:Nat) p t,ptrs[j]?=some p->l[j]?=some t->Za F p (refC t)) ⟨[],rfl,rfl,fun j p t h=>by simp at h⟩ (by omega) (fun k=>by rw[hv.len,List.length_map]) ?_ ?_
 ·rintro i y G1 H1 items k hlt e c ⟨ptrs,rfl,hpl,hp⟩ hk
  have ha:=List.getElem?_eq_getElem hlt
  obtain ⟨b,o,cells,e',fr,h1,h2,h3,h4⟩:=(hv.mono e.le).idx e.inn (i:=i) rfl (it:=Qai l[i]) (by rw[List.getElem?_map,ha];rfl)
  have hcell:cells[o]?=some (Ya l[i]):=by
   have:cells.toList[o]?=some (Ya l[i]):=by
    have h5:((cells.toList.drop o).take 1)[0]?=some (Ya l[i]):=by rw[h4];rfl
    rw[List.getElem?_take]at h5
    simpa using h5
   simpa using this
  unfold rf1B
  rw[h1,Ql ((Qj h2).trans hcell)]
  have hf:YJ z277.toList [(0,1,Ya l[i])]=some [Ya l[i]]:=rfl
  unfold Qz
  simp only[hf]
  rw[Qy]
  have e2:=e.pushG (.cells (refC l[i]) 277 (0,0))
  have hout:=e.inn.none (Nat.le_refl H1.size)
  have c2:Cur H (G1.upd H1.size (.cells (refC l[i]) 277 (0,0))) (H1.push (.cells (refC l[i]) 277 (0,0))) 258 1 y (ptrs.map fun p=>[p]) noBad:=
   c.ext ((Ext.refl e.inn).pushG _)
  refine QbA e2 c2 (it:=[ptr H1.size]) (v:=ptr H1.size) rfl rfl (by intro x hx;simp at hx;subst hx;rfl) (by decide) rfl (by decide) (by rw[List.length_map];omega) ?_
  intro c' H' e3 c3
  refine hk c' _ H' _ e3 c3 ⟨ptrs++[ptr H1.size],by simp,by simp[hpl],fun j p t hj ht=>?_⟩
  rw[List.getElem?_append]at hj
  split at hj
  ·exact (hp j p t hj ht).mono (Cut.le_upd hout)
  ·rename_i hge
   have hlt2:=Qo hj
   have:j=i:=by simp at hlt2;omega
   subst this
   have hpj:p=ptr H1.size:=by
    have:j-ptrs.length=0:=by omega
    rw[this]at hj;simpa using hj.symm
   have htj:t=l[j]:=by rw[ha]at ht;exact (Option.some.inj ht).symm
   rw[hpj,htj]
   exact ⟨H1.size,_,rfl,Cut.upd_same⟩
 ·rintro y G1 G2 H2 items e2 sl ⟨ptrs,rfl,hpl,hp⟩ hle hnil
  exact hR G2 H2 y e2 ⟨ptrs,sl.listN (fun h=>hnil (by rw[h];rfl)),hpl,fun j p t h1 h2=>(hp j p t h1 h2).mono hle⟩
end Go.Proofs
namespace Go.Proofs
open Go Go.Vc
open Tryz (prog)
mutual
def toM:GM->Mon
 |.mk d pos empty tables enemy test uniq amb=>.mk {d with pos:=pos.head?,empty:=empty.head?} (Qc0 tables) (Qc0 enemy) (Qc0 test) (Qc0 uniq) (Qc0 amb)
def Qc0:List GM->List Mon
 |[]=>[]
 |g::gs=>toM g::Qc0 gs
end
theorem toMs_map:∀gs,Qc0 gs=gs.map toM
 |[]=>by rw[Qc0];rfl
 |g::gs=>by rw[Qc0,toMs_map gs];rfl
def GUn (amb:Bool) (ty:UInt8) (n:Nat):Prop:=(ty=0/\n=0)\/(ty≠0/\((amb=false/\ty=2/\n=0)\/((ty=1\/(amb=true/\(ty=2\/ty=3)))/\n=1)))
structure SmallD (d:Qbt) (pos:List ZO) (empty:List ZJ):Prop where
 npos:pos.length<=1
 nempty:empty.length<=1
 lists:d.test4.length<=50/\d.strings.length<=50/\d.bools.length<=50/\d.strings2.length<=50/\d.abilities.length<=50/\d.test5.length<=50/\d.longs.length<=50/\d.doubles.length<=50/\d.refs.length<=50/\d.weak.length<=50/\d.strong.length<=50/\d.coOwnings.length<=50/\d.nonOwnings.length<=50
 texts:d.name.length<=300/\d.inventory.length<=300/\d.nested.length<=300/\d.flex.length<=300/\d.enums.length<=300
 strings:∀x∈d.strings,x.length<=300
 strings2:∀x∈d.strings2,x.length<=300
 stat:∀s∈empty,s.id.length<=300
mutual
def Qck:GM->Prop
 |.mk d pos empty tables enemy test uniq amb=>SmallD d pos empty/\tables.length<=50/\enemy.length<=1/\GUn false d.testTy test.length/\GUn false d.uniqTy uniq.length/\GUn true d.ambTy amb.length/\Zx tables/\Zx enemy/\Zx test/\Zx uniq/\Zx amb
def Zx:List GM->Prop
 |[]=>True
 |g::gs=>Qck g/\Zx gs
end
theorem Zx.get:∀{gs:List GM},Zx gs->∀g∈gs,Qck g
 |[],_,g,h=>by simp at h
 |g'::gs,hs,g,h=>by
  rw[Zx]at hs
  rcases List.mem_cons.1 h with h|h
  ·rw[h];exact hs.1
  ·exact Zx.get hs.2 g h
def Qhy (g:GM):Prop:=∀(G:Cut) (H:Qe) (cells:List Value) (R:Kn),G.In H->QaX G g cells->Qck g->(∀G' H' v,Ext G H G' H'->MT G' v (toM g)->R v H')->FnS prog 65 #[.agg cells.toArray] H R
theorem MT.ptr {F:Cut} {v:Value} {m:Mon} (h:MT F v m):∃q,v=Proofs.ptr q:=by
 cases h with
 |mk v d c ptrs tables enemy test uniq amb obj=>obtain ⟨q,e,rfl,_⟩:=obj;exact ⟨q,rfl⟩
theorem QF {H0:Qe} {G:Cut} {H:Qe} {b:Nat} {cells:List Value} {t:TypeId} {fr:Nat×Nat} (o:Yj H0 G H b (.cells cells.toArray t fr)) {i:Nat} {v:Value} (hi:cells[i]?=some v) {k:Value->Prop} (hk:k v):Qg (ptr b) i fun a=>LdK H a k:=by
 rw[Qm,Ql ((Qj o.get).trans (by simpa using hi))]
 exact hk
theorem rng_opt {P:Program} {t:TypeId} {x1:Value} {fld:Nat} {h:Qe} {B:Value->Value->Qe->(Qe->Prop)->Prop} {K:Qe->Prop} {n:Nat} {s:Value} (hn:n<=1) (hs:∀k:Value->Prop,k s->Qg x1 fld fun a=>LdK h a k) (hl:∀k:Value->Prop,Yv s k=k (.int .i64 (n:Nat)))
  (h0:n=0->K h) (h1:n=1->∀k:Qe->Prop,(∀H',K H'->k H')->B s (.int .i64 0) h k):Qe4 P t x1 fld h B K:=by
 refine QgG (n:=n) (fun i H'=>(i=0/\H'=h)\/(i=1/\K H')) (Or.inl ⟨rfl,rfl⟩) (by omega) hs hl ?_ ?_
 ·rintro i H k hlt (⟨rfl,rfl⟩|⟨rfl,_⟩) hk
  ·exact h1 (by omega) k (fun H' hH=>hk H' (Or.inr ⟨rfl,hH⟩))
  ·omega
 ·rintro H (⟨e,rfl⟩|⟨_,hH⟩)
  ·exact h0 e
  ·exact hH
section
variable {G0:Cut} {H0:Qe} {ty:TypeId} {ob:Obj} {q1 q3:Nat} {G:Cut} {H:Qe} {cells:List Value} (rs:RS G0 H0 ty ob q1 q3 G H cells)
include rs
theorem rng_app {P:Program} {t:TypeId} {x1:Value} {sfld:Nat} {Bd:Value->Value->Qe->(Qe->Prop)->Prop} {K:Qe->Prop} {fld es:Nat} {et:TypeId} {n:Nat} {s:Value} (Items:Cut->Nat->List (List Value)->Prop) (h0:Items G 0 []) (hc:cells[fld]?=some (.slice none 0 0)) (hn:n<4611686018427387904)
  (hs:∀k:Value->Prop,k s->Qg x1 sfld fun a=>LdK H a k) (hl:∀k:Value->Prop,Yv s k=k (.int .i64 (n:Nat)))
  (hB:∀i G1 H' c cells' items (k:Qe->Prop),i<n->G.le G1->RS G0 H0 ty ob q1 q3 G1 H' cells'->cells'[fld]?=some c->Cur H0 G1 H' et es c items (badq q1 q3)->Items G1 i items->
   (∀G2 H2 c2 items2,G1.le G2->RS G0 H0 ty ob q1 q3 G2 H2 (cells'.set fld c2)->Cur H0 G2 H2 et es c2 items2 (badq q1 q3)->Items G2 (i+1) items2->k H2)->Bd s (.int .i64 (i:Nat)) H' k)
  (hk:∀G' G1 H' c items,RS G0 H0 ty ob q1 q3 G' H' (cells.set fld c)->G.le G'->SlV G' es c items->Items G1 n items->G1.le G'->(items=[]->c= .slice none 0 0)->K H'):Qe4 P t x1 sfld H Bd K:=by
 refine QgG (n:=n) (fun i H'=>∃G1 c items,G.le G1/\RS G0 H0 ty ob q1 q3 G1 H' (cells.set fld c)/\Cur H0 G1 H' et es c items (badq q1 q3)/\Items G1 i items) ⟨G,_,[],Cut.le_refl G,by rw[YT hc];exact rs,Cur.nil,h0⟩ hn hs hl ?_ ?_
 ·rintro i H' k hlt ⟨G1,c,items,hle,rs',hc',hi⟩ hk'
  refine hB i G1 H' c _ items k hlt hle rs' (Qfq hc) hc' hi ?_
  intro G2 H2 c2 items2 hle2 rs2 hc2 hi2
  exact hk' H2 ⟨G2,c2,items2,Cut.le_trans hle hle2,by rw[List.set_set]at rs2;exact rs2,hc2,hi2⟩
 ·rintro H' ⟨G1,c,items,hle,rs',hc',hi⟩
  obtain ⟨G',e',sl,le,hown⟩:=hc'.done rs'.ext
  exact hk G' G1 H' c items ⟨e',hown _ _ (Or.inl rfl) rs'.o2,hown _ _ (Or.inr rfl) rs'.o3,rs'.ne⟩ (Cut.le_trans hle le) sl hi le hc'.nilOf
theorem RS.put_obj {cs:Array Value} {t:TypeId} {fld:Nat} (hf:fld<cells.length) {k:Qe->Prop} (hk:∀G' H' v,RS G0 H0 ty ob q1 q3 G' H' (cells.set fld v)->G.le G'->Za G' v cs->k H'):
  Y5 H (.cells cs t) fun y h2=>Q3 (ptr q3) fun z=>Qg z fld fun a=>StK h2 1 a y k:=by
 rw[Qy,Qs]
 have rs1:RS G0 H0 ty ob q1 q3 (G.upd H.size (.cells cs t (0,0))) (H.push (.cells cs t (0,0))) cells:=⟨rs.ext.pushG _,rs.o2.pushG _,rs.o3.pushG _,rs.ne⟩
 refine rs1.store hf rfl ?_
 intro H2 rs2 _
 exact hk _ _ _ rs2 (Cut.le_upd (rs.ext.inn.none (Nat.le_refl _))) ⟨H.size,t,rfl,Cut.upd_same⟩
theorem RS.item {es:Nat} {s:Value} {items:List (List Value)} (hs:SlV G es s items) {i:Nat} {it:List Value} (hi:items[i]?=some it) (hone:∀x∈it,x.oneCell'=true) (h0:0<es) {z:Array Value} {t:TypeId} (hz:z.size=es) {k:Kn}
  (hk:k (ptr H.size) (H.push (.cells it.toArray t (0,0)))):
  Y1 es s (.int .i64 (i:Nat)) fun p=>LdN H es p fun x=>Y5 H (.cells z t) fun y h2=>StK h2 es y x fun h3=>k y h3:=by
 obtain ⟨b,o,cells',e',fr,h1,h2,h3,h4⟩:=hs.idx rs.ext.inn (i:=i) rfl hi
 have hl:it.length=es:=hs.1 it (List.mem_of_getElem? hi)
 rw[h1,YI (n:=es) (vs:=it) (by rw[Q4 h2 es (by omega)];exact congrArg some h4),Qy]
 rw[Yg (n:=es) (c':=it.toArray) Qh hz (by simpa using hl) h0 (by simpa using hone),Yq]
 exact hk
end
abbrev RO (G0:Cut) (H0:Qe) (vc:List Value) (q1 q3:Nat) (G:Cut) (H:Qe) (cells:List Value):Prop:=RS G0 H0 160 (.cells vc.toArray 55 (0,0)) q1 q3 G H cells
theorem RO.ld1 {G0:Cut} {H0:Qe} {vc:List Value} {q1 q3:Nat} {G:Cut} {H:Qe} {cells:List Value} (rs:RO G0 H0 vc q1 q3 G H cells) {i:Nat} {v:Value} (hi:vc[i]?=some v) {k:Value->Prop} (hk:k v):Qg (ptr q1) i fun a=>LdK H a k:=QF rs.o2 hi hk
section
variable {G0:Cut} {H0:Qe} {vc:List Value} {q1 q3:Nat} {G:Cut} {H:Qe} {cells:List Value} (rs:RO G0 H0 vc q1 q3 G H cells) {R:Kn}
include rs
theorem QfJ {l:List Value} {t:TypeId} {i:Nat} {v:Value} (hi:l[i]?=some v) {k:Value->Prop}:LdK (H.push (.cells l.toArray t (0,0))) (.pointer (some ⟨H.size,i,none⟩)) k=k v:=
 Ql ((Qj Qh).trans (by simpa using hi))
theorem ob1_ok {pos:List ZO} {s:Value} (hv:vc[0]?=some s) (hs:SlV G 7 s (pos.map Zg)) (hl:pos.length<=1) (hc:cells[0]?=some (.pointer none)) (hk:∀G' H' v,RO G0 H0 vc q1 q3 G' H' (cells.set 0 v)->G.le G'->OptAt v pos.head? (Vec3At G' v)->ob2 (ptr q1) (ptr q3) H' R):ob1 (ptr q1) (ptr q3) H R:=by
 unfold ob1
 refine rng_opt (n:=pos.length) hl (fun k hk=>rs.ld1 hv hk) (fun k=>by rw[hs.len,List.length_map]) (fun h=>?_) (fun h k hk'=>?_)
 ·have:pos=[]:=List.length_eq_zero_iff.1 h
  subst this
  exact hk G H _ (by rw[YT hc];exact rs) (Cut.le_refl _) rfl
 ·obtain ⟨v,rfl⟩:=List.length_eq_one_iff.1 h
  unfold ob1B
  refine rs.item hs (i:=0) (it:=Zg v) rfl (by intro x hx;simp[Zg]at hx;rcases hx with rfl|rfl|rfl|rfl|rfl|rfl|rfl<;>rfl) (by decide) rfl ?_
  rw[Qm,QfJ rs (v:=Zz v.x) rfl]
  refine QL (v:=QcW v.x) (fun w=>Zl) ?_
  rw[Qm,QfJ rs (v:=Zz v.y) rfl]
  refine QL (v:=QcW v.y) (fun w=>Zl) ?_
  rw[Qm,QfJ rs (v:=Zz v.z) rfl]
  refine QL (v:=QcW v.z) (fun w=>Zl) ?_
  rw[Qm,QfJ rs (v:=Ya v.t1) rfl]
  refine QL (v:=f64V v.t1) (fun w=>Qc6) ?_
  rw[Qm,QfJ rs (v:=u8n v.t2) rfl,Qm,QfJ rs (v:=Qbc v.a) rfl,Qm,QfJ rs (v:=i8V v.b) rfl]
  have rs1:=rs.push (.cells (Zg v).toArray 114 (0,0))
  generalize H.push (.cells (Zg v).toArray 114 (0,0))=H1 at *
  have hf:YJ z169.toList [(0,1,Qbc v.a),(1,1,i8V v.b)]=some [Qbc v.a,i8V v.b]:=rfl
  unfold Qz
  simp only[hf]
  rw[Qy]
  refine Qn (Qaf.push _ _).ext ?_
  have rs2:RO G0 H0 vc q1 q3 (G.upd H1.size (.cells #[Qbc v.a,i8V v.b] 169 (0,0))) (H1.push (.cells #[Qbc v.a,i8V v.b] 169 (0,0))) cells:=⟨rs1.ext.pushG _,rs1.o2.pushG _,rs1.o3.pushG _,rs1.ne⟩
  have hw:Za (G.upd H1.size (.cells #[Qbc v.a,i8V v.b] 169 (0,0))) (ptr H1.size) #[Qbc v.a,i8V v.b]:=⟨H1.size,_,rfl,Cut.upd_same⟩
  have hle:=Cut.le_upd (o:=.cells #[Qbc v.a,i8V v.b] 169 (0,0)) (rs1.ext.inn.none (Nat.le_refl H1.size))
  have hf2:YJ z167.toList [(0,1,QcW v.x),(1,1,QcW v.y),(2,1,QcW v.z),(3,1,f64V v.t1),(4,1,u8n v.t2),(5,1,ptr H1.size)]=some [QcW v.x,QcW v.y,QcW v.z,f64V v.t1,u8n v.t2,ptr H1.size]:=by kernel_rfl
  simp only[hf2]
  refine rs2.put_obj (Qo hc) ?_
  intro G' H' p rs3 hle3 hob
  refine hk' H' (hk G' H' p rs3 (Cut.le_trans hle hle3) ?_)
  exact ⟨_,hob,hw.mono hle3⟩
theorem ob4_ok {empty:List ZJ} {s:Value} (hv:vc[14]?=some s) (hs:SlV G 3 s (empty.map YL)) (hl:empty.length<=1) (hc:cells[12]?=some (.pointer none)) (hk:∀G' H' v,RO G0 H0 vc q1 q3 G' H' (cells.set 12 v)->G.le G'->OptAt v empty.head? (fun s=>Za G' v (statC s))->ob5 (ptr q1) (ptr q3) H' R):ob4 (ptr q1) (ptr q3) H R:=by
 unfold ob4
 refine rng_opt (n:=empty.length) hl (fun k hk=>rs.ld1 hv hk) (fun k=>by rw[hs.len,List.length_map]) (fun h=>?_) (fun h k hk'=>?_)
 ·have:empty=[]:=List.length_eq_zero_iff.1 h
  subst this
  exact hk G H _ (by rw[YT hc];exact rs) (Cut.le_refl _) rfl
 ·obtain ⟨v,rfl⟩:=List.length_eq_one_iff.1 h
  unfold ob4B
  refine rs.item hs (i:=0) (it:=YL v) rfl (by intro x hx;simp[YL]at hx;rcases hx with rfl|rfl|rfl<;>rfl) (by decide) rfl ?_
  rw[Qm,QfJ rs (v:=Yf v.id) rfl,Qm,QfJ rs (v:=Qdw v.val) rfl,Qm,QfJ rs (v:=u16V v.count) rfl]
  have rs1:=rs.push (.cells (YL v).toArray 120 (0,0))
  have hf:YJ z170.toList [(0,1,Yf v.id),(1,1,Qdw v.val),(2,1,u16V v.count)]=some [Yf v.id,Qdw v.val,u16V v.count]:=by kernel_rfl
  unfold Qz
  simp only[hf]
  refine rs1.put_obj (cs:=statC v) (Qo hc) ?_
  intro G' H' p rs3 hle3 hob
  exact hk' H' (hk G' H' p rs3 hle3 hob)
theorem ob3_ok {enemy:List GM} {s:Value} {items:List (List Value)} (hE:∀k∈enemy,Qhy k) (hS:Zx enemy) (hv:vc[12]?=some s) (hs:SlV G 51 s items) (hvs:Zh G enemy items) (hl:enemy.length<=1) (hc:cells[10]?=some (.pointer none))
  (hk:∀G' H' v,RO G0 H0 vc q1 q3 G' H' (cells.set 10 v)->G.le G'->((Qc0 enemy=[]/\v= .pointer none)\/∃k,Qc0 enemy=[k]/\MT G' v k)->ob4 (ptr q1) (ptr q3) H' R):ob3 (ptr q1) (ptr q3) H R:=by
 have hil:=Zh.len hvs
 unfold ob3
 refine rng_opt (n:=enemy.length) hl (fun k hk=>rs.ld1 hv hk) (fun k=>by rw[hs.len,hil]) (fun h=>?_) (fun h k hk'=>?_)
 ·have:enemy=[]:=List.length_eq_zero_iff.1 h
  subst this
  exact hk G H _ (by rw[YT hc];exact rs) (Cut.le_refl _) (Or.inl ⟨by rw[Qc0],rfl⟩)
 ·obtain ⟨g,rfl⟩:=List.length_eq_one_iff.1 h
  obtain ⟨x,rfl⟩:=List.length_eq_one_iff.1 (hil▸h)
  rw[Zh]at hvs
  unfold ob3B
  refine rs.item hs (i:=0) (it:=x) rfl (QaX.one hvs.1) (by decide) rfl ?_
  have rs1:=rs.push (.cells x.toArray 55 (0,0))
  rw[YI (n:=51) (vs:=x) (by rw[Q4 Qh 51 (by simp[hvs.1.len])];simp[<-hvs.1.len])]
  generalize H.push (.cells x.toArray 55 (0,0))=H1 at *
  refine hE g List.mem_cons_self G H1 x _ rs1.ext.inn hvs.1 (Zx.get hS g List.mem_cons_self) ?_
  intro G2 H2 v e2 hmt
  rw[Qs]
  have hvo:v.oneCell'=true:=by
   obtain ⟨q,rfl⟩:=hmt.ptr
   rfl
  refine (rs1.next e2).store (Qo hc) hvo ?_
  intro H3 rs3 _
  exact hk' H3 (hk G2 H3 v rs3 e2.le (Or.inr ⟨toM g,by rw[Qc0,Qc0],hmt⟩))
theorem ob5_ok {l:List QeJ} {s:Value} (hv:vc[29]?=some s) (hs:SlV G 2 s (l.map ZN)) (hl:l.length<=50) (hc:cells[27]?=some (.slice none 0 0)) (hk:∀G' H' v,RO G0 H0 vc q1 q3 G' H' (cells.set 27 v)->G.le G'->Qez G' v l abilC->ob6 (ptr q1) (ptr q3) H' R):ob5 (ptr q1) (ptr q3) H R:=by
 unfold ob5
 refine rng_app rs (et:=171) (es:=1) (n:=l.length) (fun F i items=>∃ptrs:List Value,items=ptrs.map (fun p=>[p])/\ptrs.length=i/\∀(j:Nat) p t,ptrs[j]?=some p->l[j]?=some t->Za F p (abilC t)) ⟨[],rfl,rfl,fun j p t h=>by simp at h⟩ hc (by omega) (fun k hk=>rs.ld1 hv hk) (fun k=>by rw[hs.len,List.length_map]) ?_ ?_
 ·rintro i G1 H' c cells' items k hlt hle rs' hc' hcur ⟨ptrs,rfl,hpl,hp⟩ hk'
  have ha:=List.getElem?_eq_getElem hlt
  unfold ob5B
  refine rs'.item (hs.mono hle) (i:=i) (it:=ZN l[i]) (by rw[List.getElem?_map,ha];rfl) (by intro x hx;simp[ZN]at hx;rcases hx with rfl|rfl<;>rfl) (by decide) rfl ?_
  have rs1:=rs'.push (.cells (ZN l[i]).toArray 123 (0,0))
  have hcur1:=hcur.push (.cells (ZN l[i]).toArray 123 (0,0))
  rw[Qs,Qm,rs1.ld hc',Qm,QfJ rs' (v:=Zz l[i].id) rfl,Qm,QfJ rs' (v:=Zz l[i].dist) rfl]
  have hf:YJ z172.toList [(0,1,Zz l[i].id),(1,1,Zz l[i].dist)]=some [Zz l[i].id,Zz l[i].dist]:=rfl
  unfold Qz
  simp only[hf]
  generalize H'.push (.cells (ZN l[i]).toArray 123 (0,0))=H1 at *
  rw[Qy]
  refine Qn (Qaf.push _ _).ext ?_
  have hout:=rs1.ext.inn.none (Nat.le_refl H1.size)
  have ex:=(Ext.refl rs1.ext.inn).pushG (.cells (abilC l[i]) 172 (0,0))
  refine (rs1.next ex).push_item (hcur1.ext ex) (v:=ptr H1.size) (it:=[ptr H1.size]) rfl rfl (by intro x hx;simp at hx;subst hx;rfl) (by decide) rfl (by decide) (by rw[List.length_map];omega) (Qo hc') ?_
  intro H2 c2 rs2 hcur2
  refine hk' _ H2 c2 _ ex.le rs2 hcur2 ⟨ptrs++[ptr H1.size],by simp,by simp[hpl],fun j p t hj ht=>?_⟩
  rw[List.getElem?_append]at hj
  split at hj
  ·exact (hp j p t hj ht).mono ex.le
  ·rename_i hge
   have hlt2:=Qo hj
   have:j=i:=by simp at hlt2;omega
   subst this
   have hpj:p=ptr H1.size:=by
    have:j-ptrs.length=0:=by omega
    rw[this]at hj;simpa using hj.symm
   have htj:t=l[j]:=by rw[ha]at ht;exact (Option.some.inj ht).symm
   rw[hpj,htj]
   exact ⟨H1.size,_,rfl,Cut.upd_same⟩
 ·rintro G' G1 H' c items rs' hle sl ⟨ptrs,rfl,hpl,hp⟩ hle1 hnil
  exact hk G' H' c rs' hle ⟨ptrs,sl.listN (fun h=>hnil (by rw[h];rfl)),hpl,fun j p t h1 h2=>(hp j p t h1 h2).mono hle1⟩
theorem ob6_ok {l:List UInt64} {s:Value} (hv:vc[33]?=some s) (hs:SlV G 1 s (l.map Qai)) (hl:l.length<=50) (hc:cells[31]?=some (.slice none 0 0)) (hk:∀G' H' v,RO G0 H0 vc q1 q3 G' H' (cells.set 31 v)->G.le G'->QaH G' v (l.map f64V)->ob7 (ptr q1) (ptr q3) H' R):ob6 (ptr q1) (ptr q3) H R:=by
 unfold ob6
 refine rng_app rs (et:=164) (es:=1) (n:=l.length) (fun F i items=>items=((l.take i).map f64V).map (fun p=>[p])) (by simp) hc (by omega) (fun k hk=>rs.ld1 hv hk) (fun k=>by rw[hs.len,List.length_map]) ?_ ?_
 ·rintro i G1 H' c cells' items k hlt hle rs' hc' hcur rfl hk'
  have ha:=List.getElem?_eq_getElem hlt
  obtain ⟨b,o,cs,e',fr,h1,h2,h3,h4⟩:=(hs.mono hle).idx rs'.ext.inn (i:=i) rfl (it:=Qai l[i]) (by rw[List.getElem?_map,ha];rfl)
  have hcell:cs[o]?=some (Ya l[i]):=by
   have:cs.toList[o]?=some (Ya l[i]):=by
    have h5:((cs.toList.drop o).take 1)[0]?=some (Ya l[i]):=by rw[h4];rfl
    rw[List.getElem?_take]at h5
    simpa using h5
   simpa using this
  unfold ob6B
  rw[h1,Ql ((Qj h2).trans hcell),Qs,Qm,rs'.ld hc']
  refine QL (v:=f64V l[i]) (fun w=>Qc6) ?_
  refine rs'.push_item hcur (v:=f64V l[i]) (it:=[f64V l[i]]) rfl rfl (by intro x hx;simp at hx;subst hx;rfl) (by decide) rfl (by decide) (by simp;omega) (Qo hc') ?_
  intro H2 c2 rs2 hcur2
  refine hk' G1 H2 c2 _ (Cut.le_refl _) rs2 hcur2 ?_
  rw[Qdf ha,List.map_append,List.map_append];rfl
 ·rintro G' G1 H' c items rs' hle sl rfl hle1 hnil
  rw[List.take_length]at sl hnil
  exact hk G' H' c rs' hle (sl.listN (fun h=>hnil (by rw[h];rfl)))
theorem ob2_ok {tables:List GM} {s:Value} {its:List (List Value)} (hT:∀k∈tables,Qhy k) (hS:Zx tables) (hl:tables.length<=50) (hv:vc[11]?=some s) (hs:SlV G 51 s its) (hvs:Zh G tables its) (hc:cells[9]?=some (.slice none 0 0))
  (hk:∀G' H' v,RO G0 H0 vc q1 q3 G' H' (cells.set 9 v)->G.le G'->(∃ptrs,QaH G' v ptrs/\ptrs.length=(Qc0 tables).length/\∀(i:Nat) p m,ptrs[i]?=some p->(Qc0 tables)[i]?=some m->MT G' p m)->ob3 (ptr q1) (ptr q3) H' R):ob2 (ptr q1) (ptr q3) H R:=by
 have hil:=Zh.len hvs
 unfold ob2
 refine rng_app rs (et:=89) (es:=1) (n:=tables.length) (fun F i items=>∃ptrs:List Value,items=ptrs.map (fun p=>[p])/\ptrs.length=i/\∀(j:Nat) p m,ptrs[j]?=some p->(Qc0 tables)[j]?=some m->MT F p m) ⟨[],rfl,rfl,fun j p t h=>by simp at h⟩ hc (by omega) (fun k hk=>rs.ld1 hv hk) (fun k=>by rw[hs.len,hil]) ?_ ?_
 ·rintro i G1 H' c cells' items k hlt hle rs' hc' hcur ⟨ptrs,rfl,hpl,hp⟩ hk'
  have ha:=List.getElem?_eq_getElem hlt
  obtain ⟨x,hx,hvx⟩:=Zh.get hvs ha
  have hvx:=hvx.mono hle
  unfold ob2B
  refine rs'.item (hs.mono hle) (i:=i) hx (QaX.one hvx) (by decide) rfl ?_
  have rs1:=rs'.push (.cells x.toArray 55 (0,0))
  have hcur1:=hcur.push (.cells x.toArray 55 (0,0))
  rw[Qs,Qm,rs1.ld hc',YI (n:=51) (vs:=x) (by rw[Q4 Qh 51 (by simp[hvx.len])];simp[<-hvx.len])]
  generalize H'.push (.cells x.toArray 55 (0,0))=H1 at *
  refine hT _ (List.mem_of_getElem? ha) G1 H1 x _ rs1.ext.inn hvx (Zx.get hS _ (List.mem_of_getElem? ha)) ?_
  intro G2 H2 v e2 hmt
  refine Qn e2.keep.ext ?_
  have hvo:v.cells.toList=[v]/\v.oneCell'=true:=by
   obtain ⟨q,rfl⟩:=hmt.ptr
   exact ⟨rfl,rfl⟩
  refine (rs1.next e2).push_item (hcur1.ext e2) (v:=v) (it:=[v]) hvo.1 rfl (by intro x hx;simp at hx;subst hx;exact hvo.2) (by decide) rfl (by decide) (by rw[List.length_map];omega) (Qo hc') ?_
  intro H3 c2 rs2 hcur2
  refine hk' G2 H3 c2 _ e2.le rs2 hcur2 ⟨ptrs++[v],by simp,by simp[hpl],fun j p m hj hm=>?_⟩
  rw[List.getElem?_append]at hj
  split at hj
  ·exact (hp j p m hj hm).mono e2.le
  ·rename_i hge
   have hlt2:=Qo hj
   have:j=i:=by simp at hlt2;omega
   subst this
   have hpj:p=v:=by
    have:j-ptrs.length=0:=by omega
    rw[this]at hj;simpa using hj.symm
   have hmj:m=toM tables[j]:=by
    rw[toMs_map,List.getElem?_map,ha]at hm;exact (Option.some.inj hm).symm
   rw[hpj,hmj]
   exact hmt
 ·rintro G' G1 H' c items rs' hle sl ⟨ptrs,rfl,hpl,hp⟩ hle1 hnil
  exact hk G' H' c rs' hle ⟨ptrs,sl.listN (fun h=>hnil (by rw[h];rfl)),by rw[hpl,toMs_map,List.length_map],fun j p t h1 h2=>(hp j p t h1 h2).mono hle1⟩
theorem ob7_ok {b:Bool} (hv:vc[34]?=some (.bool b)) (hc:cells[32]?=some (.pointer none)) (hk:∀G' H' v,RO G0 H0 vc q1 q3 G' H' (cells.set 32 v)->G.le G'->((b=false/\v= .pointer none)\/(b=true/\∃a,v= .pointer (some a)))->ob8 (ptr q1) (ptr q3) H' R):ob7 (ptr q1) (ptr q3) H R:=by
 unfold ob7
 refine Q0 (fun _ h=>∃G' v,RO G0 H0 vc q1 q3 G' h (cells.set 32 v)/\G.le G'/\((b=false/\v= .pointer none)\/(b=true/\∃a,v= .pointer (some a)))) ?_ (fun h hh=>by obtain ⟨G',v,h1,h2,h3⟩:=hh;exact hk G' h v h1 h2 h3)
 refine rs.ld1 hv ?_
 cases b
 ·rw[ZG]
  exact ⟨G,_,by rw[YT hc];exact rs,Cut.le_refl _,Or.inl ⟨rfl,rfl⟩⟩
 ·rw[QbS,QgE]
  refine rs.put_obj (Qo hc) ?_
  intro G' H' v rs2 hle hob
  obtain ⟨q,e,rfl,_⟩:=hob
  exact ⟨G',_,rs2,hle,Or.inr ⟨rfl,_,rfl⟩⟩
end
end Go.Proofs
namespace Go.Proofs
open Go Go.Vc
open Tryz (prog)
theorem str_index {P:Program} {w:World} {t:TypeId} {xs:List UInt8} {i:Nat} {b:UInt8} (ht:P.underlying t=some .string) (hb:xs[i]?=some b):(Instr.index t (Yf xs) (.int .i64 (i:Nat))).run P w= .ok (u8V b) w:=by
 have hl:=Qo hb
 have hs:=Qau xs
 rw[run_index_string w t _ _ _ ht,dif_pos ⟨by omega,by rw[hs];omega⟩]
 congr 2
 have:xs.toArray[i]?=some b:=by simpa using hb
 have h2:((ByteArray.mk xs.toArray).get i (by rw[hs];exact hl))=b:=by
  show xs.toArray[i]'_=b
  rw[Array.getElem?_eq_getElem (by simpa using hl)]at this
  exact Option.some.inj this
 have e:(ByteArray.mk xs.toArray)[((i:Nat):Int).toNat]'(by rw[hs];exact hl)=b:=h2
 simp only[Int.toNat_natCast]at e⊢
 rw[e]
theorem QfN {G:Cut} {H:Qe} (hG:G.In H) {a c s:Value} {kids:List GM} {items:List (List Value)} (hs:SlV G 51 s items) (hvs:Zh G kids items) (hK:∀k∈kids,Qhy k) (hS:Zx kids) {R:Kn}
  (hR:∀G' H' v,Ext G H G' H'->((kids=[]/\v= .pointer none)\/∃k ks,kids=k::ks/\MT G' v (toM k))->R v H'):FnS prog 176 #[.agg #[a,s,c]] H R:=by
 have hil:=Zh.len hvs
 apply w176
 unfold s176
 rw[Qy]
 have e1:=(Ext.refl hG).push (.cells #[a,s,c] 50 (0,0))
 have hn:(H.push (.cells (Value.agg #[a,s,c]).cells 50))[H.size]?=some (.cells #[a,s,c] 50 (0,0)):=Qh
 have e1:Ext G H G (H.push (.cells (Value.agg #[a,s,c]).cells 50)):=e1
 generalize H.push (.cells (Value.agg #[a,s,c]).cells 50)=H1 at *
 rw[Qm,Ql ((Qj hn).trans (show (#[a,s,c]:Array Value)[1]?=some s from rfl)),hs.len,Yt]
 cases kids with
 |nil=>
  have:items=[]:=List.length_eq_zero_iff.1 hil.symm
  subst this
  show IfK (.bool true) _ _
  rw[QbS]
  exact hR G H1 _ e1 (Or.inl ⟨rfl,rfl⟩)
 |cons k ks=>
  cases items with
  |nil=>simp at hil
  |cons x xs=>
   rw[Zh]at hvs
   have hl:¬(((x::xs).length:Nat):Int)=0:=by simp;omega
   rw[QM hl,Qm,Ql ((Qj hn).trans (show (#[a,s,c]:Array Value)[1]?=some s from rfl))]
   obtain ⟨b,o,cells',e',fr,h1,h2,h3,h4⟩:=(hs.mono e1.le).idx e1.inn (i:=0) (x:=0) rfl (it:=x) rfl
   rw[h1,YI (n:=51) (vs:=x) (by rw[Q4 h2 51 (by omega)];exact congrArg some h4)]
   refine hK k List.mem_cons_self G H1 x _ e1.inn hvs.1 (Zx.get hS k List.mem_cons_self) ?_
   intro G2 H2 v e2 hmt
   exact hR G2 H2 v (e1.trans e2) (Or.inr ⟨k,ks,rfl,hmt⟩)
theorem choiceOf_ok {G:Cut} {H:Qe} (hG:G.In H) {ty color:UInt8} {s:Value} {kids:List GM} {items:List (List Value)} (hs:SlV G 51 s items) (hvs:Zh G kids items) (hK:∀k∈kids,Qhy k) (hS:Zx kids) {R:Kn}
  (h2:ty=2->∀G' H' c,Ext G H G' H'->Za G' c #[u8n color]->R (.iface 278 c) H')
  (hR:ty≠2->∀G' H' v,Ext G H G' H'->((kids=[]/\v= .pointer none)\/∃k ks,kids=k::ks/\MT G' v (toM k))->R (.iface 89 v) H'):FnS prog 175 #[.agg #[u8n ty,s,u8n color]] H R:=by
 apply w175
 unfold s175
 rw[Qy]
 have hn:(H.push (.cells (Value.agg #[u8n ty,s,u8n color]).cells 50))[H.size]?=some (.cells #[u8n ty,s,u8n color] 50 (0,0)):=Qh
 have e1:Ext G H G (H.push (.cells (Value.agg #[u8n ty,s,u8n color]).cells 50)):=(Ext.refl hG).push _
 generalize H.push (.cells (Value.agg #[u8n ty,s,u8n color]).cells 50)=H1 at *
 rw[Qm,Ql ((Qj hn).trans (show (#[u8n ty,s,u8n color]:Array Value)[0]?=some (u8n ty) from rfl)),Yt]
 by_cases h:ty=2
 ·subst h
  rw[Yb (by decide),Qm,Ql ((Qj hn).trans (show (#[u8n 2,s,u8n color]:Array Value)[2]?=some (u8n color) from rfl))]
  have hf:YJ z280.toList [(0,1,u8n color)]=some [u8n color]:=rfl
  unfold Qz
  simp only[hf]
  rw[Qy]
  exact h2 rfl _ _ _ (e1.pushG _) ⟨H1.size,_,rfl,Cut.upd_same⟩
 ·rw[QM (fun hh=>h (UInt8.toNat_inj.1 (by simpa using Int.ofNat.inj hh))),YI (n:=3) (vs:=[u8n ty,s,u8n color]) (by rw[Q4 hn 3 (by simp)];rfl)]
  refine QfN e1.inn (hs.mono e1.le) (Zh.mono e1.le hvs) hK hS ?_
  intro G' H' v e' hv
  exact hR h G' H' v (e1.trans e') hv
theorem QcZ.mono {F G:Cut} (h:F.le G) {amb:Bool} {ty color:UInt8} {v c:Value} {kids:List Mon} (x:QcZ F amb ty color v c kids):QcZ G amb ty color v c kids:=by
 rcases x with x|⟨x0,w,x1,x2⟩
 ·exact Or.inl x
 ·refine Or.inr ⟨x0,w,x1.mono h,?_⟩
  rcases x2 with ⟨y1,y2,y3,y4,y5⟩|x2
  ·exact Or.inl ⟨y1,y2,y3,y4.mono h,y5⟩
  ·exact Or.inr x2
theorem QhV {b o n m:Nat} (h:o+n=m) {k:Value->Prop}:Qg (.pointer (some ⟨b,o,none⟩)) n k=k (.pointer (some ⟨b,m,none⟩)):=by rw[QdA,h]
theorem Qil {G:Cut} {H:Qe} (hG:G.In H) {xs:List UInt8} {R:Kn} (hR:∀G' H' a n c,Ext G H G' H'->QaH G' (.slice a n c) (xs.map u8V)->R (.slice a n c) H'):FnS prog 166 #[Yf xs] H R:=
 bytesOf_ok hG fun G' H' v e w=>by
  obtain ⟨a,n,c,rfl⟩:=w.sl
  exact hR G' H' a n c e w
theorem testsOf_sl {G:Cut} {H:Qe} (hG:G.In H) {l:List Qb8} {v:Value} (hv:SlV G 2 v (l.map Yw)) (hl:l.length<=50) {R:Kn} (hR:∀G' H' a n c,Ext G H G' H'->Qez G' (.slice a n c) l testC->R (.slice a n c) H'):FnS prog 167 #[v] H R:=
 testsOf_ok hG hv hl fun G' H' v e w=>by
  have w':=w
  obtain ⟨p,q,_⟩:=w'
  obtain ⟨a,n,c,rfl⟩:=q.sl
  exact hR G' H' a n c e w
theorem refsOf_sl {G:Cut} {H:Qe} (hG:G.In H) {l:List UInt64} {v:Value} (hv:SlV G 1 v (l.map Qai)) (hl:l.length<=50) {R:Kn} (hR:∀G' H' a n c,Ext G H G' H'->Qez G' (.slice a n c) l refC->R (.slice a n c) H'):FnS prog 172 #[v] H R:=
 refsOf_ok hG hv hl fun G' H' v e w=>by
  have w':=w
  obtain ⟨p,q,_⟩:=w'
  obtain ⟨a,n,c,rfl⟩:=q.sl
  exact hR G' H' a n c e w
theorem sl_of {F:Cut} {vs:List Value} {Q:Value->Prop} (h:∀a n c,QaH F (.slice a n c) vs->Q (.slice a n c)):∀v,QaH F v vs->Q v:=fun v w=>by
 obtain ⟨a,n,c,rfl⟩:=w.sl
 exact h a n c w
section
variable {G0:Cut} {H0:Qe} {vc:List Value} {q1 q3:Nat} {G:Cut} {H:Qe} {cells:List Value} (rs:RO G0 H0 vc q1 q3 G H cells) {R:Kn}
include rs
theorem RO.ldU {i j m:Nat} {v:Value} (hm:i+j=m) (hi:vc[m]?=some v) {k:Value->Prop} (hk:k v):Qg (ptr q1) i fun x=>Qg x j fun a=>LdK H a k:=by
 rw[Qm,QhV hm,Ql ((Qj rs.o2.get).trans (by simpa using hi))]
 exact hk
theorem RO.ldN {i n:Nat} {vs:List Value} (hi:(vc.drop i).take n=vs) (hl:i+n<=vc.length) {k:Value->Prop} (hk:k (.agg vs.toArray)):Qg (ptr q1) i fun a=>LdN H n a k:=by
 rw[Qm,YI (n:=n) (vs:=vs) (by rw[Q4 rs.o2.get n (by simpa using hl),Nat.add_zero];simpa using hi)]
 exact hk
theorem ob8_ok {d:Qbt} {kids:List GM} {s:Value} {items:List (List Value)} (hvt:vc[6]?=some (u8n d.testTy)) (hv3:(vc.drop 6).take 3=[u8n d.testTy,s,u8n d.testColor]) (hvl:6+3<=vc.length) (hs:SlV G 51 s items) (hvs:Zh G kids items) (hK:∀k∈kids,Qhy k) (hS:Zx kids) (hU:GUn false d.testTy kids.length) (hc:cells[6]?=some (.pointer none))
  (hk:∀G' H' v c,RO G0 H0 vc q1 q3 G' H' (cells.set 6 v)->G.le G'->QcZ G' false d.testTy d.testColor v c (Qc0 kids)->(∀k,k∈Qc0 kids->MT G' c k)->ob9 (ptr q1) (ptr q3) H' R):ob8 (ptr q1) (ptr q3) H R:=by
 unfold ob8
 refine Q0 (fun _ h=>∃G' v c,RO G0 H0 vc q1 q3 G' h (cells.set 6 v)/\G.le G'/\QcZ G' false d.testTy d.testColor v c (Qc0 kids)/\(∀k,k∈Qc0 kids->MT G' c k)) ?_ (fun h hh=>by obtain ⟨G',v,c,h1,h2,h3,h4⟩:=hh;exact hk G' h v c h1 h2 h3 h4)
 refine rs.ldU (m:=6) rfl hvt ?_
 rw[Yp]
 by_cases h0:d.testTy=0
 ·have hkn:kids=[]:=by
   rcases hU with ⟨_,h⟩|⟨h,_⟩
   ·exact List.length_eq_zero_iff.1 h
   ·exact absurd h0 h
  subst hkn
  rw[QM (show ¬(((d.testTy.toNat:Nat):Int)≠0) from fun hh=>hh (by rw[h0];rfl))]
  exact ⟨G,_,.pointer none,by rw[YT hc];exact rs,Cut.le_refl _,Or.inl ⟨h0,rfl,by rw[Qc0]⟩,by rw[Qc0];simp⟩
 ·have hne0:((d.testTy.toNat:Nat):Int)≠0:=fun hh=>h0 (UInt8.toNat_inj.1 (by simpa using Int.ofNat.inj hh))
  rw[Yb hne0]
  refine rs.ldU (m:=6) rfl hvt ?_
  refine rs.ldN hv3 hvl ?_
  have hU2:=hU.resolve_left (fun h=>h0 h.1)
  refine choiceOf_ok rs.ext.inn hs hvs hK hS (fun h2 G2 H2 c e2 hob=>?_) (fun h2 G2 H2 v e2 hv=>?_)
  ·have hkn:kids=[]:=by
    rcases hU2.2 with ⟨_,_,h⟩|⟨h,_⟩
    ·exact List.length_eq_zero_iff.1 h
    ·rcases h with h|⟨h,_⟩
     ·rw[h2]at h;exact absurd h (by decide)
     ·cases h
   subst hkn
   refine Qn e2.keep.ext ?_
   have hf:YJ z176.toList [(0,1,u8n d.testTy),(1,1,.iface 278 c)]=some [u8n d.testTy,.iface 278 c]:=rfl
   unfold Qz
   simp only[hf]
   refine (rs.next e2).put_obj (cs:=#[u8n d.testTy,.iface 278 c]) (Qo hc) ?_
   intro G3 H3 v rs3 hle hv
   exact ⟨G3,v,c,rs3,Cut.le_trans e2.le hle,Or.inr ⟨h0,_,hv,Or.inl ⟨rfl,h2,rfl,hob.mono hle,by rw[Qc0]⟩⟩,by rw[Qc0];simp⟩
  ·obtain ⟨k,rfl⟩:∃k,kids=[k]:=by
    rcases hU2.2 with ⟨_,h,_⟩|⟨_,h⟩
    ·exact absurd h h2
    ·exact List.length_eq_one_iff.1 h
   rcases hv with ⟨h,_⟩|⟨k',ks,h,hmt⟩
   ·cases h
   cases h
   refine Qn e2.keep.ext ?_
   have hf:YJ z176.toList [(0,1,u8n d.testTy),(1,1,.iface 89 v)]=some [u8n d.testTy,.iface 89 v]:=rfl
   unfold Qz
   simp only[hf]
   refine (rs.next e2).put_obj (cs:=#[u8n d.testTy,.iface 89 v]) (Qo hc) ?_
   intro G3 H3 y rs3 hle hy
   refine ⟨G3,y,v,rs3,Cut.le_trans e2.le hle,Or.inr ⟨h0,_,hy,Or.inr ⟨?_,rfl,toM k,by rw[Qc0,Qc0]⟩⟩,?_⟩
   ·rcases hU2.2 with ⟨_,h,_⟩|⟨h,_⟩
    ·exact absurd h h2
    ·exact h
   ·intro m hm
    rw[Qc0,Qc0]at hm
    have:m=toM k:=by simpa using hm
    rw[this];exact hmt.mono hle
theorem ob9_ok {d:Qbt} {kids:List GM} {s:Value} {items:List (List Value)} (hvt:vc[43]?=some (u8n d.uniqTy)) (hv3:(vc.drop 43).take 3=[u8n d.uniqTy,s,u8n d.uniqColor]) (hvl:43+3<=vc.length) (hs:SlV G 51 s items) (hvs:Zh G kids items) (hK:∀k∈kids,Qhy k) (hS:Zx kids) (hU:GUn false d.uniqTy kids.length) (hc:cells[41]?=some (.pointer none))
  (hk:∀G' H' v c,RO G0 H0 vc q1 q3 G' H' (cells.set 41 v)->G.le G'->QcZ G' false d.uniqTy d.uniqColor v c (Qc0 kids)->(∀k,k∈Qc0 kids->MT G' c k)->ob10 (ptr q1) (ptr q3) H' R):ob9 (ptr q1) (ptr q3) H R:=by
 unfold ob9
 refine Q0 (fun _ h=>∃G' v c,RO G0 H0 vc q1 q3 G' h (cells.set 41 v)/\G.le G'/\QcZ G' false d.uniqTy d.uniqColor v c (Qc0 kids)/\(∀k,k∈Qc0 kids->MT G' c k)) ?_ (fun h hh=>by obtain ⟨G',v,c,h1,h2,h3,h4⟩:=hh;exact hk G' h v c h1 h2 h3 h4)
 refine rs.ldU (m:=43) rfl hvt ?_
 rw[Yp]
 by_cases h0:d.uniqTy=0
 ·have hkn:kids=[]:=by
   rcases hU with ⟨_,h⟩|⟨h,_⟩
   ·exact List.length_eq_zero_iff.1 h
   ·exact absurd h0 h
  subst hkn
  rw[QM (show ¬(((d.uniqTy.toNat:Nat):Int)≠0) from fun hh=>hh (by rw[h0];rfl))]
  exact ⟨G,_,.pointer none,by rw[YT hc];exact rs,Cut.le_refl _,Or.inl ⟨h0,rfl,by rw[Qc0]⟩,by rw[Qc0];simp⟩
 ·have hne0:((d.uniqTy.toNat:Nat):Int)≠0:=fun hh=>h0 (UInt8.toNat_inj.1 (by simpa using Int.ofNat.inj hh))
  rw[Yb hne0]
  refine rs.ldU (m:=43) rfl hvt ?_
  refine rs.ldN hv3 hvl ?_
  have hU2:=hU.resolve_left (fun h=>h0 h.1)
  refine choiceOf_ok rs.ext.inn hs hvs hK hS (fun h2 G2 H2 c e2 hob=>?_) (fun h2 G2 H2 v e2 hv=>?_)
  ·have hkn:kids=[]:=by
    rcases hU2.2 with ⟨_,_,h⟩|⟨h,_⟩
    ·exact List.length_eq_zero_iff.1 h
    ·rcases h with h|⟨h,_⟩
     ·rw[h2]at h;exact absurd h (by decide)
     ·cases h
   subst hkn
   refine Qn e2.keep.ext ?_
   have hf:YJ z179.toList [(0,1,u8n d.uniqTy),(1,1,.iface 278 c)]=some [u8n d.uniqTy,.iface 278 c]:=rfl
   unfold Qz
   simp only[hf]
   refine (rs.next e2).put_obj (cs:=#[u8n d.uniqTy,.iface 278 c]) (Qo hc) ?_
   intro G3 H3 v rs3 hle hv
   exact ⟨G3,v,c,rs3,Cut.le_trans e2.le hle,Or.inr ⟨h0,_,hv,Or.inl ⟨rfl,h2,rfl,hob.mono hle,by rw[Qc0]⟩⟩,by rw[Qc0];simp⟩
  ·obtain ⟨k,rfl⟩:∃k,kids=[k]:=by
    rcases hU2.2 with ⟨_,h,_⟩|⟨_,h⟩
    ·exact absurd h h2
    ·exact List.length_eq_one_iff.1 h
   rcases hv with ⟨h,_⟩|⟨k',ks,h,hmt⟩
   ·cases h
   cases h
   refine Qn e2.keep.ext ?_
   have hf:YJ z179.toList [(0,1,u8n d.uniqTy),(1,1,.iface 89 v)]=some [u8n d.uniqTy,.iface 89 v]:=rfl
   unfold Qz
   simp only[hf]
   refine (rs.next e2).put_obj (cs:=#[u8n d.uniqTy,.iface 89 v]) (Qo hc) ?_
   intro G3 H3 y rs3 hle hy
   refine ⟨G3,y,v,rs3,Cut.le_trans e2.le hle,Or.inr ⟨h0,_,hy,Or.inr ⟨?_,rfl,toM k,by rw[Qc0,Qc0]⟩⟩,?_⟩
   ·rcases hU2.2 with ⟨_,h,_⟩|⟨h,_⟩
    ·exact absurd h h2
    ·exact h
   ·intro m hm
    rw[Qc0,Qc0]at hm
    have:m=toM k:=by simpa using hm
    rw[this];exact hmt.mono hle
theorem ob10_ok {d:Qbt} {kids:List GM} {s:Value} {items:List (List Value)} (hvt:vc[46]?=some (u8n d.ambTy)) (hv3:(vc.drop 46).take 3=[u8n d.ambTy,s,u8n d.ambColor]) (hvl:46+3<=vc.length) (hs:SlV G 51 s items) (hvs:Zh G kids items) (hK:∀k∈kids,Qhy k) (hS:Zx kids) (hU:GUn true d.ambTy kids.length) (hc:cells[42]?=some (.pointer none))
  (hk:∀G' H' v c,RO G0 H0 vc q1 q3 G' H' (cells.set 42 v)->G.le G'->QcZ G' true d.ambTy d.ambColor v c (Qc0 kids)->(∀k,k∈Qc0 kids->MT G' c k)->ob11 (ptr q1) (ptr q3) H' R):ob10 (ptr q1) (ptr q3) H R:=by
 unfold ob10
 refine Q0 (fun _ h=>∃G' v c,RO G0 H0 vc q1 q3 G' h (cells.set 42 v)/\G.le G'/\QcZ G' true d.ambTy d.ambColor v c (Qc0 kids)/\(∀k,k∈Qc0 kids->MT G' c k)) ?_ (fun h hh=>by obtain ⟨G',v,c,h1,h2,h3,h4⟩:=hh;exact hk G' h v c h1 h2 h3 h4)
 refine rs.ldU (m:=46) rfl hvt ?_
 rw[Yp]
 by_cases h0:d.ambTy=0
 ·have hkn:kids=[]:=by
   rcases hU with ⟨_,h⟩|⟨h,_⟩
   ·exact List.length_eq_zero_iff.1 h
   ·exact absurd h0 h
  subst hkn
  rw[QM (show ¬(((d.ambTy.toNat:Nat):Int)≠0) from fun hh=>hh (by rw[h0];rfl))]
  exact ⟨G,_,.pointer none,by rw[YT hc];exact rs,Cut.le_refl _,Or.inl ⟨h0,rfl,by rw[Qc0]⟩,by rw[Qc0];simp⟩
 ·have hne0:((d.ambTy.toNat:Nat):Int)≠0:=fun hh=>h0 (UInt8.toNat_inj.1 (by simpa using Int.ofNat.inj hh))
  rw[Yb hne0]
  refine rs.ldU (m:=46) rfl hvt ?_
  refine rs.ldN hv3 hvl ?_
  have hU2:=hU.resolve_left (fun h=>h0 h.1)
  refine QfN rs.ext.inn hs hvs hK hS (fun G2 H2 v e2 hv=>?_)
  obtain ⟨k,rfl⟩:∃k,kids=[k]:=by
   rcases hU2.2 with ⟨h,_,_⟩|⟨_,h⟩
   ·cases h
   ·exact List.length_eq_one_iff.1 h
  rcases hv with ⟨h,_⟩|⟨k',ks,h,hmt⟩
  ·cases h
  cases h
  refine Qn e2.keep.ext ?_
  have hf:YJ z182.toList [(0,1,u8n d.ambTy),(1,1,.iface 89 v)]=some [u8n d.ambTy,.iface 89 v]:=rfl
  unfold Qz
  simp only[hf]
  refine (rs.next e2).put_obj (cs:=#[u8n d.ambTy,.iface 89 v]) (Qo hc) ?_
  intro G3 H3 y rs3 hle hy
  refine ⟨G3,y,v,rs3,Cut.le_trans e2.le hle,Or.inr ⟨h0,_,hy,Or.inr ⟨?_,rfl,toM k,by rw[Qc0,Qc0]⟩⟩,?_⟩
  ·rcases hU2.2 with ⟨h,_,_⟩|⟨h,_⟩
   ·cases h
   ·exact h
  ·intro m hm
   rw[Qc0,Qc0]at hm
   have:m=toM k:=by simpa using hm
   rw[this];exact hmt.mono hle
theorem ob11_ok {xs:List UInt8} (hv:vc[49]?=some (Yf xs)) (hl:xs.length<=300) (hc:cells[43]?=some (.slice none 0 0)) (hk:∀G' H' v,RO G0 H0 vc q1 q3 G' H' (cells.set 43 v)->G.le G'->QaH G' v (xs.map u8V)->R (ptr q3) H'):ob11 (ptr q1) (ptr q3) H R:=by
 unfold ob11
 refine Q0 (fun _ h=>∃G' v,RO G0 H0 vc q1 q3 G' h (cells.set 43 v)/\G.le G'/\QaH G' v (xs.map u8V)) ?_ (fun _ h hh=>by obtain ⟨G',v,h1,h2,h3⟩:=hh;exact hk G' h v h1 h2 h3)
 refine ⟨fun m vs H'=>∃i c,vs=[.int .i64 (i:Nat)]/\i+m=xs.length/\RO G0 H0 vc q1 q3 G H' (cells.set 43 c)/\Cur H0 G H' 145 1 c (((xs.take i).map u8V).map fun p=>[p]) (badq q1 q3),⟨xs.length,0,_,rfl,by omega,by rw[YT hc];exact rs,by rw[List.take_zero];exact Cur.nil⟩,?_⟩
 rintro m x H' ⟨i,c,hx,him,rs',hcur⟩
 cases hx
 refine rs'.ld1 hv ?_
 rw[Qdo,Qau,Yr]
 by_cases hlt:i<xs.length
 ·have ha:=List.getElem?_eq_getElem hlt
  rw[Yb (by omega),Qs,Qm,rs'.ld (Qfq hc)]
  refine rs'.ld1 hv ?_
  rw[PureK_of (fun w=>str_index (by kernel_rfl) ha)]
  refine rs'.push_item hcur (v:=u8V xs[i]) (it:=[u8V xs[i]]) rfl rfl (by intro x hx;simp at hx;subst hx;rfl) (by decide) rfl (by decide) (by simp;omega) (by simpa using Qo hc) ?_
  intro H2 c2 rs2 hcur2
  rw[QA,wrap_i64 (by omega) (by omega)]
  rw[List.set_set]at rs2
  refine ⟨m-1,by omega,i+1,c2,by simp,by omega,rs2,?_⟩
  rw[Qdf ha,List.map_append,List.map_append];exact hcur2
 ·rw[QM (by omega)]
  have:i=xs.length:=by omega
  subst this
  rw[List.take_length]at hcur
  obtain ⟨G',e',sl,le,hown⟩:=hcur.done rs'.ext
  exact ⟨G',c,⟨e',hown _ _ (Or.inl rfl) rs'.o2,hown _ _ (Or.inr rfl) rs'.o3,rs'.ne⟩,le,sl.listN (fun h=>hcur.nilOf (by rw[h];rfl))⟩
end
def obCells (d:Qbt) (inv test4 strings nested bools strings2 flex test5 longs refs weak strong coOwnings nonOwnings:Value):List Value:=
 [.pointer none,Qbc d.mana,Qbc d.hp,Yf d.name,inv,u8n d.color,.pointer none,test4,strings,.slice none 0 0,.pointer none,nested,.pointer none,.bool d.bool,
  Qfl d.s32,Zz d.u32,Qdw d.s64,Ya d.u64,Qfl d.s32a,Zz d.u32a,Qdw d.s64a,Ya d.u64a,bools,QcW d.f,QcW d.f2,QcW d.f3,strings2,.slice none 0 0,flex,test5,
  longs,.slice none 0 0,.pointer none,refs,Ya d.singleWeak,weak,strong,Ya d.coOwning,coOwnings,Ya d.nonOwning,nonOwnings,.pointer none,.pointer none,.slice none 0 0,i8V d.signedEnum]
theorem fill_obj (d:Qbt) (ainv:Option Addr) (ninv cinv:Nat) (atest4:Option Addr) (ntest4 ctest4:Nat) (astrings:Option Addr) (nstrings cstrings:Nat) (anested:Option Addr) (nnested cnested:Nat) (abools:Option Addr) (nbools cbools:Nat) (astrings2:Option Addr) (nstrings2 cstrings2:Nat) (aflex:Option Addr) (nflex cflex:Nat) (atest5:Option Addr) (ntest5 ctest5:Nat) (alongs:Option Addr) (nlongs clongs:Nat) (arefs:Option Addr) (nrefs crefs:Nat) (aweak:Option Addr) (nweak cweak:Nat) (astrong:Option Addr) (nstrong cstrong:Nat) (acoOwnings:Option Addr) (ncoOwnings ccoOwnings:Nat) (anonOwnings:Option Addr) (nnonOwnings cnonOwnings:Nat):YJ z160.toList [(1,1,Qbc d.mana),(2,1,Qbc d.hp),(3,1,Yf d.name),(4,1,Value.slice ainv ninv cinv),(5,1,u8n d.color),(7,1,Value.slice atest4 ntest4 ctest4),(8,1,Value.slice astrings nstrings cstrings),(11,1,Value.slice anested nnested cnested),(13,1,.bool d.bool),(14,1,Qfl d.s32),(15,1,Zz d.u32),(16,1,Qdw d.s64),(17,1,Ya d.u64),(18,1,Qfl d.s32a),(19,1,Zz d.u32a),(20,1,Qdw d.s64a),(21,1,Ya d.u64a),(22,1,Value.slice abools nbools cbools),(23,1,QcW d.f),(24,1,QcW d.f2),(25,1,QcW d.f3),(26,1,Value.slice astrings2 nstrings2 cstrings2),(28,1,Value.slice aflex nflex cflex),(29,1,Value.slice atest5 ntest5 ctest5),(30,1,Value.slice alongs nlongs clongs),(33,1,Value.slice arefs nrefs crefs),(34,1,Ya d.singleWeak),(35,1,Value.slice aweak nweak cweak),(36,1,Value.slice astrong nstrong cstrong),(37,1,Ya d.coOwning),(38,1,Value.slice acoOwnings ncoOwnings ccoOwnings),(39,1,Ya d.nonOwning),(40,1,Value.slice anonOwnings nnonOwnings cnonOwnings),(44,1,i8V d.signedEnum)]=some (obCells d (.slice ainv ninv cinv) (.slice atest4 ntest4 ctest4) (.slice astrings nstrings cstrings) (.slice anested nnested cnested) (.slice abools nbools cbools) (.slice astrings2 nstrings2 cstrings2) (.slice aflex nflex cflex) (.slice atest5 ntest5 ctest5) (.slice alongs nlongs clongs) (.slice arefs nrefs crefs) (.slice aweak nweak cweak) (.slice astrong nstrong cstrong) (.slice acoOwnings ncoOwnings ccoOwnings) (.slice anonOwnings nnonOwnings cnonOwnings)):=by kernel_rfl
set_option maxHeartbeats 1000000 in
theorem objStep {d:Qbt} {pos:List ZO} {empty:List ZJ} {tables enemy test uniq amb:List GM} (hT:∀k∈tables,Qhy k) (hE:∀k∈enemy,Qhy k) (hU:∀k∈test,Qhy k) (hQ:∀k∈uniq,Qhy k) (hA:∀k∈amb,Qhy k):Qhy (.mk d pos empty tables enemy test uniq amb):=by
 intro G H cells R hG hv hsm hR
 rw[QaX]at hv
 obtain ⟨c,rfl,g,⟨iT,sT,vT⟩,⟨iE,sE,vE⟩,⟨iU,sU,vU⟩,⟨iQ,sQ,vQ⟩,⟨iA,sA,vA⟩⟩:=hv
 rw[Qck]at hsm
 obtain ⟨sd,nT,nE,gU,gQ,gA,mT,mE,mU,mQ,mA⟩:=hsm
 obtain ⟨l1,l2,l3,l4,l5,l6,l7,l8,l9,l10,l11,l12,l13⟩:=sd.lists
 apply w65
 unfold s65
 rw[Qy]
 have e:=Ext.refl hG
 have o1:Yj H G (H.push (.cells (Value.agg (Yk d c).toArray).cells 55)) H.size (.cells (Yk d c).toArray 55 (0,0)):=Yj.fresh e _
 have e:=e.push (.cells (Value.agg (Yk d c).toArray).cells 55)
 generalize H.push (.cells (Value.agg (Yk d c).toArray).cells 55)=H1 at *
 refine QF o1 (i:=1) (v:=Qbc d.mana) rfl ?_
 refine QF o1 (i:=2) (v:=Qbc d.hp) rfl ?_
 refine QF o1 (i:=3) (v:=Yf d.name) rfl ?_
 refine QF o1 (i:=4) (v:=Yf d.inventory) rfl ?_
 refine QF o1 (i:=5) (v:=u8n d.color) rfl ?_
 refine QF o1 (i:=9) (v:=c.test4) rfl ?_
 refine QF o1 (i:=10) (v:=c.strings) rfl ?_
 refine QF o1 (i:=13) (v:=Yf d.nested) rfl ?_
 refine QF o1 (i:=15) (v:=.bool d.bool) rfl ?_
 refine QF o1 (i:=16) (v:=Qfl d.s32) rfl ?_
 refine QF o1 (i:=17) (v:=Zz d.u32) rfl ?_
 refine QF o1 (i:=18) (v:=Qdw d.s64) rfl ?_
 refine QF o1 (i:=19) (v:=Ya d.u64) rfl ?_
 refine QF o1 (i:=20) (v:=Qfl d.s32a) rfl ?_
 refine QF o1 (i:=21) (v:=Zz d.u32a) rfl ?_
 refine QF o1 (i:=22) (v:=Qdw d.s64a) rfl ?_
 refine QF o1 (i:=23) (v:=Ya d.u64a) rfl ?_
 refine QF o1 (i:=24) (v:=c.bools) rfl ?_
 refine QF o1 (i:=25) (v:=Zz d.f) rfl ?_
 refine QF o1 (i:=26) (v:=Zz d.f2) rfl ?_
 refine QF o1 (i:=27) (v:=Zz d.f3) rfl ?_
 refine QF o1 (i:=28) (v:=c.strings2) rfl ?_
 refine QF o1 (i:=30) (v:=Yf d.flex) rfl ?_
 refine QF o1 (i:=31) (v:=c.test5) rfl ?_
 refine QF o1 (i:=32) (v:=c.longs) rfl ?_
 refine QF o1 (i:=35) (v:=c.refs) rfl ?_
 refine QF o1 (i:=36) (v:=Ya d.singleWeak) rfl ?_
 refine QF o1 (i:=37) (v:=c.weak) rfl ?_
 refine QF o1 (i:=38) (v:=c.strong) rfl ?_
 refine QF o1 (i:=39) (v:=Ya d.coOwning) rfl ?_
 refine QF o1 (i:=40) (v:=c.coOwnings) rfl ?_
 refine QF o1 (i:=41) (v:=Ya d.nonOwning) rfl ?_
 refine QF o1 (i:=42) (v:=c.nonOwnings) rfl ?_
 refine QF o1 (i:=50) (v:=i8V d.signedEnum) rfl ?_
 refine Qil e.inn (xs:=d.inventory) ?_
 intro Ginv Hinv ainv ninv cinv e2 winv
 refine Qn e2.keep.ext ?_
 have e:=e.trans e2
 have o1:=o1.ext e2
 have leinv:=e2.le
 refine testsOf_sl e.inn (g.test4.mono e.le) l1 ?_
 intro Gtest4 Htest4 atest4 ntest4 ctest4 e2 wtest4
 refine Qn e2.keep.ext ?_
 have e:=e.trans e2
 have o1:=o1.ext e2
 have letest4:=e2.le
 refine Qja (vs:=d.strings.map Yf) (by have:=g.strings.mono e.le;rw[List.map_map];exact this) (sl_of ?_)
 intro astrings nstrings cstrings wstrings
 rw[Qb]
 refine Qil e.inn (xs:=d.nested) ?_
 intro Gnested Hnested anested nnested cnested e2 wnested
 refine Qn e2.keep.ext ?_
 have e:=e.trans e2
 have o1:=o1.ext e2
 have lenested:=e2.le
 refine items_bool (vs:=d.bools.map Value.bool) (by have:=g.bools.mono e.le;rw[List.map_map];exact this) (sl_of ?_)
 intro abools nbools cbools wbools
 rw[Qb]
 refine QL (v:=QcW d.f) (fun w=>Zl) ?_
 refine QL (v:=QcW d.f2) (fun w=>Zl) ?_
 refine QL (v:=QcW d.f3) (fun w=>Zl) ?_
 refine Qja (vs:=d.strings2.map Yf) (by have:=g.strings2.mono e.le;rw[List.map_map];exact this) (sl_of ?_)
 intro astrings2 nstrings2 cstrings2 wstrings2
 rw[Qb]
 refine Qil e.inn (xs:=d.flex) ?_
 intro Gflex Hflex aflex nflex cflex e2 wflex
 refine Qn e2.keep.ext ?_
 have e:=e.trans e2
 have o1:=o1.ext e2
 have leflex:=e2.le
 refine testsOf_sl e.inn (g.test5.mono e.le) l6 ?_
 intro Gtest5 Htest5 atest5 ntest5 ctest5 e2 wtest5
 refine Qn e2.keep.ext ?_
 have e:=e.trans e2
 have o1:=o1.ext e2
 have letest5:=e2.le
 refine items_int64 (vs:=d.longs.map Qdw) (by have:=g.longs.mono e.le;rw[List.map_map];exact this) (sl_of ?_)
 intro alongs nlongs clongs wlongs
 rw[Qb]
 refine refsOf_sl e.inn (g.refs.mono e.le) l9 ?_
 intro Grefs Hrefs arefs nrefs crefs e2 wrefs
 refine Qn e2.keep.ext ?_
 have e:=e.trans e2
 have o1:=o1.ext e2
 have lerefs:=e2.le
 refine Qgb (vs:=d.weak.map Ya) (by have:=g.weak.mono e.le;rw[List.map_map];exact this) (sl_of ?_)
 intro aweak nweak cweak wweak
 rw[Qb]
 refine refsOf_sl e.inn (g.strong.mono e.le) l11 ?_
 intro Gstrong Hstrong astrong nstrong cstrong e2 wstrong
 refine Qn e2.keep.ext ?_
 have e:=e.trans e2
 have o1:=o1.ext e2
 have lestrong:=e2.le
 refine Qgb (vs:=d.coOwnings.map Ya) (by have:=g.coOwnings.mono e.le;rw[List.map_map];exact this) (sl_of ?_)
 intro acoOwnings ncoOwnings ccoOwnings wcoOwnings
 rw[Qb]
 refine Qgb (vs:=d.nonOwnings.map Ya) (by have:=g.nonOwnings.mono e.le;rw[List.map_map];exact this) (sl_of ?_)
 intro anonOwnings nnonOwnings cnonOwnings wnonOwnings
 rw[Qb]
 have hf:=fill_obj d ainv ninv cinv atest4 ntest4 ctest4 astrings nstrings cstrings anested nnested cnested abools nbools cbools astrings2 nstrings2 cstrings2 aflex nflex cflex atest5 ntest5 ctest5 alongs nlongs clongs arefs nrefs crefs aweak nweak cweak astrong nstrong cstrong acoOwnings ncoOwnings ccoOwnings anonOwnings nnonOwnings cnonOwnings
 unfold Qz
 simp only[hf]
 rw[Qy]
 have hne:=o1.ne
 have o3:=Yj.fresh e (.cells (obCells d (.slice ainv ninv cinv) (.slice atest4 ntest4 ctest4) (.slice astrings nstrings cstrings) (.slice anested nnested cnested) (.slice abools nbools cbools) (.slice astrings2 nstrings2 cstrings2) (.slice aflex nflex cflex) (.slice atest5 ntest5 ctest5) (.slice alongs nlongs clongs) (.slice arefs nrefs crefs) (.slice aweak nweak cweak) (.slice astrong nstrong cstrong) (.slice acoOwnings ncoOwnings ccoOwnings) (.slice anonOwnings nnonOwnings cnonOwnings)).toArray 160 (0,0))
 have rs:RO G H (Yk d c) H.size Hstrong.size Gstrong (Hstrong.push (.cells (obCells d (.slice ainv ninv cinv) (.slice atest4 ntest4 ctest4) (.slice astrings nstrings cstrings) (.slice anested nnested cnested) (.slice abools nbools cbools) (.slice astrings2 nstrings2 cstrings2) (.slice aflex nflex cflex) (.slice atest5 ntest5 ctest5) (.slice alongs nlongs clongs) (.slice arefs nrefs crefs) (.slice aweak nweak cweak) (.slice astrong nstrong cstrong) (.slice acoOwnings ncoOwnings ccoOwnings) (.slice anonOwnings nnonOwnings cnonOwnings)).toArray 160 (0,0))) (obCells d (.slice ainv ninv cinv) (.slice atest4 ntest4 ctest4) (.slice astrings nstrings cstrings) (.slice anested nnested cnested) (.slice abools nbools cbools) (.slice astrings2 nstrings2 cstrings2) (.slice aflex nflex cflex) (.slice atest5 ntest5 ctest5) (.slice alongs nlongs clongs) (.slice arefs nrefs crefs) (.slice aweak nweak cweak) (.slice astrong nstrong cstrong) (.slice acoOwnings ncoOwnings ccoOwnings) (.slice anonOwnings nnonOwnings cnonOwnings)):=⟨e.push _,o1.push _,o3,hne⟩
 refine ob1_ok rs (s:=c.pos) rfl (g.pos.mono rs.ext.le) sd.npos rfl ?_
 intro G1 H1' v0 r1 le1 f0
 refine ob2_ok r1 hT mT nT (s:=c.tables) rfl (sT.mono r1.ext.le) (Zh.mono r1.ext.le vT) rfl ?_
 intro G2 H2 v9 r2 le2 f9
 refine ob3_ok r2 hE mE (s:=c.enemy) rfl (sE.mono r2.ext.le) (Zh.mono r2.ext.le vE) nE rfl ?_
 intro G3 H3 v10 r3 le3 f10
 refine ob4_ok r3 (s:=c.empty) rfl (g.empty.mono r3.ext.le) sd.nempty rfl ?_
 intro G4 H4 v12 r4 le4 f12
 refine ob5_ok r4 (s:=c.abil) rfl (g.abil.mono r4.ext.le) l5 rfl ?_
 intro G5 H5 v27 r5 le5 f27
 refine ob6_ok r5 (s:=c.doubles) rfl (g.doubles.mono r5.ext.le) l8 rfl ?_
 intro G6 H6 v31 r6 le6 f31
 refine ob7_ok r6 (b:=d.parent) rfl rfl ?_
 intro G7 H7 v32 r7 le7 f32
 refine ob8_ok r7 (d:=d) (s:=c.test) rfl rfl (by rw[YP];decide) (sU.mono r7.ext.le) (Zh.mono r7.ext.le vU) hU mU gU rfl ?_
 intro G8 H8 v6 cU r8 le8 f6 k6
 refine ob9_ok r8 (d:=d) (s:=c.uniq) rfl rfl (by rw[YP];decide) (sQ.mono r8.ext.le) (Zh.mono r8.ext.le vQ) hQ mQ gQ rfl ?_
 intro G9 H9 v41 cQ r9 le9 f41 k41
 refine ob10_ok r9 (d:=d) (s:=c.amb) rfl rfl (by rw[YP];decide) (sA.mono r9.ext.le) (Zh.mono r9.ext.le vA) hA mA gA rfl ?_
 intro G10 H10 v42 cA r10 le10 f42 k42
 refine ob11_ok r10 (xs:=d.enums) rfl sd.texts.2.2.2.2 rfl ?_
 intro G11 H11 v43 r11 le11 f43
 have L11:=Cut.le_refl G11
 have L10:G10.le G11:=Cut.le_trans le11 L11
 have L9:G9.le G11:=Cut.le_trans le10 L10
 have L8:G8.le G11:=Cut.le_trans le9 L9
 have L7:G7.le G11:=Cut.le_trans le8 L8
 have L6:G6.le G11:=Cut.le_trans le7 L7
 have L5:G5.le G11:=Cut.le_trans le6 L6
 have L4:G4.le G11:=Cut.le_trans le5 L5
 have L3:G3.le G11:=Cut.le_trans le4 L4
 have L2:G2.le G11:=Cut.le_trans le3 L3
 have L1:G1.le G11:=Cut.le_trans le2 L2
 have Lstrong:Gstrong.le G11:=Cut.le_trans le1 L1
 have Lrefs:Grefs.le G11:=Cut.le_trans lestrong Lstrong
 have Ltest5:Gtest5.le G11:=Cut.le_trans lerefs Lrefs
 have Lflex:Gflex.le G11:=Cut.le_trans letest5 Ltest5
 have Lnested:Gnested.le G11:=Cut.le_trans leflex Lflex
 have Ltest4:Gtest4.le G11:=Cut.le_trans lenested Lnested
 have Linv:Ginv.le G11:=Cut.le_trans letest4 Ltest4
 obtain ⟨ptrs,f91,f92,f93⟩:=f9
 have hle:G11.le (G11.upd Hstrong.size (.cells (mtCells {d with pos:=pos.head?,empty:=empty.head?} ⟨v0,.slice ainv ninv cinv,v6,.slice atest4 ntest4 ctest4,.slice astrings nstrings cstrings,v9,v10,.slice anested nnested cnested,v12,.slice abools nbools cbools,.slice astrings2 nstrings2 cstrings2,v27,.slice aflex nflex cflex,.slice atest5 ntest5 ctest5,.slice alongs nlongs clongs,v31,v32,.slice arefs nrefs crefs,.slice aweak nweak cweak,.slice astrong nstrong cstrong,.slice acoOwnings ncoOwnings ccoOwnings,.slice anonOwnings nnonOwnings cnonOwnings,v41,v42,v43,cU,cQ,cA⟩) 160 (0,0))):=Cut.le_upd r11.o3.out
 have hin:(G11.upd Hstrong.size (.cells (mtCells {d with pos:=pos.head?,empty:=empty.head?} ⟨v0,.slice ainv ninv cinv,v6,.slice atest4 ntest4 ctest4,.slice astrings nstrings cstrings,v9,v10,.slice anested nnested cnested,v12,.slice abools nbools cbools,.slice astrings2 nstrings2 cstrings2,v27,.slice aflex nflex cflex,.slice atest5 ntest5 ctest5,.slice alongs nlongs clongs,v31,v32,.slice arefs nrefs crefs,.slice aweak nweak cweak,.slice astrong nstrong cstrong,.slice acoOwnings ncoOwnings ccoOwnings,.slice anonOwnings nnonOwnings cnonOwnings,v41,v42,v43,cU,cQ,cA⟩) 160 (0,0))) Hstrong.size=some _:=Cut.upd_same
 have hext:=r11.ext.add r11.o3.get r11.o3.out r11.o3.new
 refine hR _ H11 (ptr Hstrong.size) hext ?_
 rw[toM]
 refine MT.mk _ _ ⟨v0,.slice ainv ninv cinv,v6,.slice atest4 ntest4 ctest4,.slice astrings nstrings cstrings,v9,v10,.slice anested nnested cnested,v12,.slice abools nbools cbools,.slice astrings2 nstrings2 cstrings2,v27,.slice aflex nflex cflex,.slice atest5 ntest5 ctest5,.slice alongs nlongs clongs,v31,v32,.slice arefs nrefs crefs,.slice aweak nweak cweak,.slice astrong nstrong cstrong,.slice acoOwnings ncoOwnings ccoOwnings,.slice anonOwnings nnonOwnings cnonOwnings,v41,v42,v43,cU,cQ,cA⟩ ptrs _ _ _ _ _ ⟨_,_,rfl,hin⟩ ?_ (f91.mono (Cut.le_trans L2 hle)) f92 (fun i p m h1 h2=>(f93 i p m h1 h2).mono (Cut.le_trans L2 hle)) ?_ (fun k hk=>(k6 k hk).mono (Cut.le_trans L8 hle)) (fun k hk=>(k41 k hk).mono (Cut.le_trans L9 hle)) (fun k hk=>(k42 k hk).mono (Cut.le_trans L10 hle))
 ·have PM:∀{α:Type} {F F':Cut} {v:Value} {l:List α} {cc:α->Array Value},F.le F'->Qez F v l cc->Qez F' v l cc:=fun h x=>by
   obtain ⟨p,x1,x2,x3⟩:=x
   exact ⟨p,x1.mono h,x2,fun i a b h1 h2=>(x3 i a b h1 h2).mono h⟩
  exact {
   pos:=by
    cases hp:pos.head? with
    |none=>rw[hp]at f0;exact f0
    |some v=>rw[hp]at f0;obtain ⟨w,x1,x2⟩:=f0;exact ⟨w,x1.mono (Cut.le_trans L1 hle),x2.mono (Cut.le_trans L1 hle)⟩
   inv:=winv.mono (Cut.le_trans Linv hle)
   test:=f6.mono (Cut.le_trans L8 hle)
   test4:=PM (Cut.le_trans Ltest4 hle) wtest4
   strings:=wstrings.mono (Cut.le_trans Ltest4 hle)
   enemy:=by
    rcases f10 with ⟨x1,x2⟩|⟨k,x1,_⟩
    ·exact Or.inl ⟨x1,x2⟩
    ·exact Or.inr ⟨k,x1⟩
   nested:=wnested.mono (Cut.le_trans Lnested hle)
   empty:=by
    cases hp:empty.head? with
    |none=>rw[hp]at f12;exact f12
    |some v=>rw[hp]at f12;exact Za.mono (Cut.le_trans L4 hle) f12
   bools:=wbools.mono (Cut.le_trans Lnested hle)
   strings2:=wstrings2.mono (Cut.le_trans Lnested hle)
   abil:=PM (Cut.le_trans L5 hle) f27
   flex:=wflex.mono (Cut.le_trans Lflex hle)
   test5:=PM (Cut.le_trans Ltest5 hle) wtest5
   longs:=wlongs.mono (Cut.le_trans Ltest5 hle)
   doubles:=f31.mono (Cut.le_trans L6 hle)
   parent:=f32
   refs:=PM (Cut.le_trans Lrefs hle) wrefs
   weak:=wweak.mono (Cut.le_trans Lrefs hle)
   strong:=PM (Cut.le_trans Lstrong hle) wstrong
   coOwnings:=wcoOwnings.mono (Cut.le_trans Lstrong hle)
   nonOwnings:=wnonOwnings.mono (Cut.le_trans Lstrong hle)
   uniq:=f41.mono (Cut.le_trans L9 hle)
   amb:=f42.mono (Cut.le_trans L10 hle)
   enums:=f43.mono (Cut.le_trans L11 hle)
  }
 ·intro k hk
  rcases f10 with ⟨x1,_⟩|⟨k',x1,x2⟩
  ·rw[x1]at hk;simp at hk
  ·rw[x1]at hk
   have:k=k':=by simpa using hk
   rw[this];exact x2.mono (Cut.le_trans L3 hle)
mutual
theorem QiV:∀g:GM,Qhy g
 |.mk d pos empty tables enemy test uniq amb=>objStep (QbC tables) (QbC enemy) (QbC test) (QbC uniq) (QbC amb)
theorem QbC:∀gs:List GM,∀k∈gs,Qhy k
 |[],k,h=>by simp at h
 |g::gs,k,h=>by
  rcases List.mem_cons.1 h with h|h
  ·rw[h];exact QiV g
  ·exact QbC gs k h
end
end Go.Proofs
namespace Go.Proofs
open Go Go.Vc
open Tryz (prog)
theorem catch_idle (p:Addr) (w:World) (x:Value) (hc:w.cell? p=some x) (hz:w.frozen? p=false):
  CallsD prog 72 #[.pointer (some p)] .returning w fun e u' w'=>e= .returned (.tuple #[])/\u'= .returning/\w'=w.setCell p (.bool false):=by
 refine callsD_of_wpS Tryz.func72 rfl fun c₀ cs hu=>?_
 apply wpS_region
 simp[wpOpsS,go_sem,recoverD,hu,Tryz.ntmps72,hc,hz,bodyPostS,results,Tryz.results72]
 cases c₀
 simp_all[bodyPostS,results,Tryz.results72]
theorem setB_same {H:Qe} {b:Nat} {o:Obj} (h:H[b]?=some o):setB H b o=H:=by
 apply Array.ext_getElem?
 intro j
 simp only[setB,Array.getElem?_setIfInBounds]
 split
 ·rename_i e
  subst e
  have:=Y3 h
  rw[if_pos this,h]
 ·rfl
theorem setCell_same {w:World} {b:Nat} {v:Value} {t:TypeId} {fr:Nat×Nat} (h:w.heap[b]?=some (.cells #[v] t fr)):w.setCell ⟨b,0,none⟩ v=w:=by
 have h1:setH w.heap ⟨b,0,none⟩ v=w.heap:=by
  rw[setH_blk h]
  have:(#[v]:Array Value).setIfInBounds 0 v=#[v]:=rfl
  rw[this,setB_same h]
 have h2:=Qj0 w ⟨b,0,none⟩ v
 rw[h1]at h2
 have h3:w.setCell ⟨b,0,none⟩ v={w with heap:=(w.setCell ⟨b,0,none⟩ v).heap}:=rfl
 rw[h3,h2]
theorem thrown_walk {F:FuncId} {cap:Array Value} {w:World} {R:Ending->World->Prop}
  (hi:∀w:World,(callFunc F cap).run prog w= .ok (.enter F cap) w)
  (hf:Calls prog F cap (w.alloc (.cells #[.bool false] 4)) fun e w'=>e= .returned (.tuple #[])/\w'.heap[w.heap.size]?=some (.cells #[.bool false] 4 (0,0))/\R (.returned (.bool false)) w'):
  Calls prog 28 #[.func (.func F) #[] cap] w R:=by
 have hmf:∀(fn:Fn) (first cap:Array Value) (w:World),(Instr.makeFunc fn first cap).run prog w= .ok (.func fn first cap) w:=fun _ _ _ _=>rfl
 go_enter_defers Tryz.func28,Tryz.ntmps28
 apply wp_seq
 apply wp_region
 simp[wpOps,go_sem,Exit.then,Oper.wp]
 refine Or.inl ?_
 apply wp_seq
 apply wp_region
 simp[wpOps,go_sem,Exit.then,Oper.wp,hmf]
 refine Or.inl (Or.inl ?_)
 apply wp_seq
 apply wp_region
 simp[wpOps,go_sem,Exit.then,Oper.wp]
 refine Or.inl (Or.inl ?_)
 rw[hi,Oper.upon_enter]
 refine hf.mono ?_
 rintro e w' ⟨rfl,hb,hR⟩
 have hid:=setCell_same hb
 have hc:w'.cell? ⟨w.heap.size,0,none⟩=some (.bool false):=(cell?_eq w' _).trans (Qj hb)
 have hz:w'.frozen? ⟨w.heap.size,0,none⟩=false:=by rw[frozen?_eq,frozenH_blk hb];rfl
 show Code.wp prog _ _ _ w'
 apply wp_seq
 apply wp_region
 simp[wpOps,go_sem,Exit.then,Oper.wp,Act.put,hc,hz,hid]
 refine Or.inl ?_
 apply wp_ret
 show Leaves _ _ _ _ _ _ _
 refine leaves_cons (f:=72) (args:=#[.pointer (some ⟨w.heap.size,0,none⟩)]) (by simp) (by simp[go_sem]) ?_
 refine (catch_idle ⟨w.heap.size,0,none⟩ _ (.bool false) hc hz).mono ?_
 rintro e u' w'' ⟨rfl,rfl,rfl⟩
 simp[Leaves,settle,results,Tryz.results28,go_sem,hid,hc]
 exact hR
theorem thrown_ok {F:FuncId} {cap:Array Value} {H:Qe} {R:Kn} (hF:cal F=true)
  (hf:FnS prog F cap (H.push (.cells #[.bool false] 4 (0,0))) fun v H'=>v= .tuple #[]/\H'[H.size]?=some (.cells #[.bool false] 4 (0,0))/\R (.bool false) H'):
  FnS prog 28 #[.func (.func F) #[] cap] H R:=by
 intro w hw
 subst hw
 refine thrown_walk (fun w=>hcal F hF cap w) ?_
 refine (hf (w.alloc (.cells #[.bool false] 4)) rfl).mono ?_
 rintro e w' ⟨v,rfl,⟨rfl,h1,h2⟩,he⟩
 exact ⟨rfl,h1,_,rfl,h2,⟨he.1,he.2.1,he.2.2⟩⟩
end Go.Proofs
