/- WHAT IS PROVED: the given statement of FnMonsterAgain, whatever the input: this is part 13 of 13. No conditions. -/
import Derived.Test.YtjfnlghdpijgeaaGreatX12
import Derived.Test.YtjfnlghdpijgeaaGreatRows
import Derived.ProofKit
set_option linter.all false
namespace Go.Proofs
open Go Go.Vc
open Tryz (prog)
theorem YX {F:Cut} {es:Nat} {v:Value} {items:List (List Value)} (h:SlV F es v items):∃s:Option Addr×Nat×Nat,v= .slice s.1 s.2.1 s.2.2:=by
 rcases h.2 with ⟨a,c,rfl,_⟩|⟨b,o,c,cells,e,fr,rfl,_⟩
 ·exact ⟨⟨a,0,c⟩,rfl⟩
 ·exact ⟨⟨_,_,c⟩,rfl⟩
theorem sl_b2s {F:Cut} {H:Qe} (hF:F.In H) {v:Value} {xs:List UInt8} (h:SlV F 1 v (xs.map bytI)) {k:Value->Prop} (hk:k (Yx xs)):QiO H v k:=by
 rcases h.2 with ⟨a,c,rfl,h2⟩|⟨b,o,c,cells,e,fr,rfl,h2,h3,h4,h5⟩
 ·have:xs=[]:=by simpa using h2
  subst this
  cases a with
  |none=>exact hk
  |some a=>exact B2SK_of (xs:=[]) rfl hk
 ·rw[List.length_map,Nat.mul_one]at h3 h4
  refine B2SK_of (xs:=xs) ?_ hk
  rw[List.length_map,Q0 (hF _ _ h2) _ (by omega),Nat.add_zero,h4]
  clear h h2 h3 h4 h5 hk
  congr 1
  induction xs with
  |nil=>rfl
  |cons x xs ih=>rw[List.map_cons,List.map_cons,List.flatten_cons,ih];rfl
theorem TAssK_hit {t:TypeId} {z v:Value} {k:Value->Prop}:Qjb t true z (.iface t v) k=k (.tuple #[v,.bool true]):=by
 unfold Qjb;simp only[if_true]
theorem TAssK_miss {t u:TypeId} {z v:Value} {k:Value->Prop} (h:u≠t):Qjb t true z (.iface u v) k=k (.tuple #[z,.bool false]):=by
 unfold Qjb;simp only[if_neg h,true_and]
theorem Qc5 {F:Cut} {H:Qe} (hF:F.In H) {v:Value} {cells:Array Value} {i:Nat} {x:Value} (o:YR F v cells) (hi:cells[i]?=some x) {k:Value->Prop} (hk:k x):QaB v i H k:=o.ld hF x hi hk
theorem PtrS.len {α:Type} {P:α->Cut->Value->Prop} {l:List α} {F:Cut} {v:Value} (h:PtrS P l F v) {k:Value->Prop}:YQ v k=k (.int .i64 (l.length:Nat)):=by
 obtain ⟨vs,h1,h2,_⟩:=h
 rw[h1.len,List.length_map,h2]
theorem PtrS.item {α:Type} {P:α->Cut->Value->Prop} {l:List α} {F:Cut} {v:Value} (h:PtrS P l F v) {H:Qe} (hF:F.In H) {i:Nat} {a:α} (ha:l[i]?=some a) {k:Value->Prop} (hk:∀x,P a F x->k x):Y7 1 v (.int .i64 (i:Nat)) fun p=>LdK H p k:=by
 obtain ⟨vs,h1,h2,h3⟩:=h
 have hl:=Qo ha
 have hv:=List.getElem?_eq_getElem (l:=vs) (i:=i) (by omega)
 obtain ⟨b,o,cells,e,fr,g1,g2,g3,g4⟩:=h1.idx hF (i:=i) rfl (it:=[vs[i]]) (by rw[List.getElem?_map,hv];rfl)
 have hc:cells[o]?=some vs[i]:=by
  have:(cells.toList.drop o)[0]?=some vs[i]:=by
   have e1:((cells.toList.drop o).take 1)[0]?=some vs[i]:=by rw[g4];rfl
   rwa [List.getElem?_take,if_pos (by decide)]at e1
  rwa [List.getElem?_drop,Nat.add_zero,Array.getElem?_toList]at this
 rw[g1,Ql ((Qj g2).trans hc)]
 exact hk _ (h3 i _ a hv ha)
theorem tf_ok {G:Cut} {H:Qe} (hG:G.In H) {l:List Qbf} {v:Value} (hv:PtrS (ItP Yg) l G v) (hl:l.length<=50) {R:Kn} (hR:∀G' H' v',Ext G H G' H'->SlV G' 2 v' (l.map Yg)->R v' H'):FnS prog 169 #[v] H R:=by
 apply w169
 unfold s169 tf1
 refine Qaq hG (et:=81) (es:=2) (n:=l.length) (fun F i items=>items=(l.take i).map Yg) (by simp) (by omega) (fun k=>hv.len) ?_ ?_
 ·rintro i y G1 H1 items k hlt e c rfl hk
  have ha:=List.getElem?_eq_getElem hlt
  unfold tf1B
  refine (hv.mono ItP.mono e.le).item e.inn ha fun x hx=>?_
  refine hx.ld e.inn (i:=0) (Qbh _) rfl ?_
  refine hx.ld e.inn (i:=1) (i8V _) rfl ?_
  refine ZY (cs:=Yg l[i]) (by kernel_rfl) ?_
  refine Qap e c (v:=.agg (Yg l[i]).toArray) (it:=Yg l[i]) rfl rfl (by intro x hx;simp only[Yg,List.mem_cons,List.not_mem_nil,or_false]at hx;rcases hx with rfl|rfl<;>rfl) (by decide) rfl (by decide) (by rw[List.length_map,List.length_take];omega) ?_
  intro c' H' e4 c4
  exact hk c' _ H' _ e4 c4 (Y8 ha).symm
 ·rintro y G1 G2 H2 items e2 sl rfl hle hnil
  rw[List.take_length]at sl
  exact hR G2 H2 y e2 sl
theorem df_ok {G:Cut} {H:Qe} (hG:G.In H) {l:List UInt64} {v:Value} (hv:PtrS (ItP Qbb) l G v) (hl:l.length<=50) {R:Kn} (hR:∀G' H' v',Ext G H G' H'->SlV G' 1 v' (l.map Qbb)->R v' H'):FnS prog 171 #[v] H R:=by
 apply w171
 unfold s171 df1
 refine Qaq hG (et:=31) (es:=1) (n:=l.length) (fun F i items=>items=(l.take i).map Qbb) (by simp) (by omega) (fun k=>hv.len) ?_ ?_
 ·rintro i y G1 H1 items k hlt e c rfl hk
  have ha:=List.getElem?_eq_getElem hlt
  unfold df1B
  refine (hv.mono ItP.mono e.le).item e.inn ha fun x hx=>?_
  refine hx.ld e.inn (i:=0) (YY _) rfl ?_
  refine Qap e c (v:=YY l[i]) (it:=Qbb l[i]) rfl rfl (by intro x hx;simp only[Qbb,List.mem_cons,List.not_mem_nil,or_false]at hx;subst hx;rfl) (by decide) rfl (by decide) (by rw[List.length_map,List.length_take];omega) ?_
  intro c' H' e4 c4
  exact hk c' _ H' _ e4 c4 (Y8 ha).symm
 ·rintro y G1 G2 H2 items e2 sl rfl hle hnil
  rw[List.take_length]at sl
  exact hR G2 H2 y e2 sl
def QhZ (g:GM):Prop:=∀(G:Cut) (H:Qe) (v:Value) (R:Kn),G.In H->ObjM g G v->(∀G' H' x,Ext G H G' H'->Qb3 G' g x->R (.agg x.toArray) H')->FnS prog 39 #[v] H R
theorem Qfz {ty color:UInt8} {kids:List GM} {x:Value} {G:Cut} {H:Qe} (hG:G.In H) (hK:∀k∈kids,QhZ k) {R:Kn}
  (h:(kids=[]/\∃y,x= .iface 261 y/\YR G y #[u8n color])\/(color=0/\∃y,x= .iface 66 y/\QdB kids G y))
  (hR:∀G' H' c,Ext G H G' H'->Qba G' kids c->R (.agg #[u8n ty,c,u8n color]) H'):FnS prog 173 #[u8n ty,x] H R:=by
 apply w173
 unfold s173
 rw[Q3]
 have e1:=(Ext.refl hG).push (.cells z46 46)
 have o4:=Yj.fresh (Ext.refl hG) (.cells z46 46)
 generalize H.push (.cells z46 46)=H1 at *
 refine ZY (fill_choice ty) ?_
 rw[Q3]
 have o5:=Yj.fresh e1 (.cells z46 46)
 have hne:=o4.ne
 have o4:=o4.push (.cells z46 46)
 have e2:=e1.push (.cells z46 46)
 generalize H1.push (.cells z46 46)=H2 at *
 generalize H1.size=q5 at *
 generalize H.size=q4 at *
 rw[Ye (n:=3) (c':=[u8n ty,.slice none 0 0,.int .u8 0].toArray) o5.get rfl rfl (by decide) (by intro v hv;simp at hv;rcases hv with rfl|rfl|rfl<;>rfl)]
 have rs:RS G H 46 (.cells z46 46 (0,0)) q4 q5 G (setB H2 q5 (.cells [u8n ty,.slice none 0 0,.int .u8 0].toArray 46 (0,0))) [u8n ty,.slice none 0 0,.int .u8 0]:=⟨e2.set o5.out o5.new _,o4.set_ne hne _,o5.set _,hne⟩
 generalize setB H2 q5 (.cells [u8n ty,.slice none 0 0,.int .u8 0].toArray 46 (0,0))=H3 at *
 refine Q8 (fun _ h=>∃G' c,RS G H 46 (.cells z46 46 (0,0)) q4 q5 G' h [u8n ty,c,u8n color]/\Qba G' kids c) ?_ ?_
 ·rcases h with ⟨rfl,y,rfl,oy⟩|⟨rfl,y,rfl,oy⟩
  ·rw[TAssK_miss (by decide),QfL,Qfp,Qao,TAssK_hit,QfL,Qfp,QcN]
   refine Qc5 rs.ext.inn (oy.mono rs.ext.le) (i:=0) rfl ?_
   refine rs.store (i:=2) (ltb rfl) rfl fun H4 r4 _=>⟨G,_,r4,[],SlV.nil _ _,by rw[Zb];trivial⟩
  ·rw[TAssK_hit,QfL,Qfp,QcN]
   cases kids with
   |nil=>rw[QdB]at oy;exact oy.elim
   |cons g gs=>
    rw[QdB]at oy
    obtain ⟨rfl,og⟩:=oy
    refine hK g List.mem_cons_self G H3 y _ rs.ext.inn og fun G4 H4 c e4 hv=>?_
    refine (rs.next e4).put_item (fld:=1) (v:=.agg c.toArray) (it:=c) rfl hv.len rfl (ltb rfl) fun G' H' s r5 hle sl=>⟨G',s,r5,[c],sl,by rw[Zb];exact ⟨hv.mono hle,by rw[Zb];trivial⟩⟩
 ·rintro h' ⟨G',c,r,hv⟩
  refine r.fin (n:=3) rfl rfl (by decide) ?_ fun H' e'=>hR G' H' c e' hv
  intro v hvm
  obtain ⟨i,sl,_⟩:=hv
  simp at hvm
  rcases hvm with rfl|rfl|rfl
  ·rfl
  ·exact sl.one
  ·rfl
end Go.Proofs
namespace Go.Proofs
open Go Go.Vc
open Tryz (prog)
theorem BuildSK_mono {H:Qe} {et n:Nat} {zs:List Value} {ps:List (Nat×Nat×Value)} {k k':Kn} (h:QN H et n zs ps k) (hk:∀y h',k y h'->k' y h'):QN H et n zs ps k':=by
 unfold QN at h⊢
 split at h
 ·exact hk _ _ h
 ·exact h
section
variable {G0:Cut} {H0:Qe} {q2 q3:Nat} {G:Cut} {H:Qe} {cells:List Value} (rs:RM G0 H0 q2 q3 G H cells) {F:Cut} (hF:F.le G) {x0:Value} {oc:Array Value} (o:YR F x0 oc) {K:Qe->Prop}
include rs hF o
theorem mo2_ok {x:Value} (hx:oc[0]?=some x) {pos:List Qav} (hp:OptO VecO pos F x) (hc:cells[0]?=some (.slice none 0 0)) (hk:∀G' H' c,RM G0 H0 q2 q3 G' H' (cells.set 0 c)->G.le G'->SlV G' 7 c (pos.map YS)->K H'):mo2 x0 (ptr q3) H K:=by
 unfold mo2
 refine Q8 (fun _ h=>∃G' c,RM G0 H0 q2 q3 G' h (cells.set 0 c)/\G.le G'/\SlV G' 7 c (pos.map YS)) ?_ (fun _ h hh=>by obtain ⟨G',c,h1,h2,h3⟩:=hh;exact hk G' h c h1 h2 h3)
 refine Qc5 rs.ext.inn (o.mono hF) hx ?_
 rcases hp with ⟨rfl,rfl⟩|⟨v,rfl,⟨a,rfl⟩,t,o1,o2⟩
 ·rw[QQ (by kernel_rfl)]
  show IfK (.bool false) _ _
  rw[Qao]
  exact ⟨G,_,by rw[YU hc];exact rs,Cut.le_refl _,SlV.nil _ _⟩
 ·rw[QQ (by kernel_rfl)]
  show IfK (.bool true) _ _
  rw[QcN]
  have p1:=o1.mono hF
  have p2:=o2.mono hF
  obtain ⟨qx,ex,hxe,hgx⟩:=p1
  obtain ⟨qt,et,rfl,hgt⟩:=p2
  cases hxe
  have oX:∀{G' H'},G.le G'->Cut.In G' H'->∀{i y},(#[QcV v.x,QcV v.y,QcV v.z,f64V v.t1,u8n v.t2,ptr qt]:Array Value)[i]?=some y->∀k:Value->Prop,LdK H' (.pointer (some ⟨qx,i,none⟩)) k=k y:=fun {G' H'} hl hi {i y} hy k=>Ql ((Qj (hi _ _ (hl _ _ hgx))).trans hy)
  have oT:∀{G' H'},G.le G'->Cut.In G' H'->∀{i y},(#[Qbh v.a,i8V v.b]:Array Value)[i]?=some y->∀k:Value->Prop,LdK H' (.pointer (some ⟨qt,i,none⟩)) k=k y:=fun {G' H'} hl hi {i y} hy k=>Ql ((Qj (hi _ _ (hl _ _ hgt))).trans hy)
  have gX:∀{G' H'},G.le G'->Cut.In G' H'->∀{i y},(#[QcV v.x,QcV v.y,QcV v.z,f64V v.t1,u8n v.t2,ptr qt]:Array Value)[i]?=some y->∀k:Value->Prop,k y->QaB (.pointer (some ⟨qx,0,none⟩)) i H' k:=fun {G' H'} hl hi {i y} hy k h=>by unfold QaB;rw[Qt,Qu,oX hl hi hy];exact h
  have gT:∀{G' H'},G.le G'->Cut.In G' H'->∀{i y},(#[Qbh v.a,i8V v.b]:Array Value)[i]?=some y->∀k:Value->Prop,k y->QaB (.pointer (some ⟨qt,0,none⟩)) i H' k:=fun {G' H'} hl hi {i y} hy k h=>by unfold QaB;rw[Qt,Qu,oT hl hi hy];exact h
  refine Q8 (fun vs h=>∃q5,vs=[ptr q5]/\RM G0 H0 q2 q3 G h cells/\Yj H0 G h q5 (.cells [Zs v.x,Zs v.y,Zs v.z,YY v.t1,u8n v.t2,.int .i16 0,.int .i8 0].toArray 76 (0,0))/\q5≠q2/\q5≠q3) ?_ ?_
  ·refine gX (Cut.le_refl G) rs.ext.inn (i:=0) (y:=QcV v.x) rfl _ ?_
   refine QH (fun w=>Qk) ?_
   refine gX (Cut.le_refl G) rs.ext.inn (i:=1) (y:=QcV v.y) rfl _ ?_
   refine QH (fun w=>Qk) ?_
   refine gX (Cut.le_refl G) rs.ext.inn (i:=2) (y:=QcV v.z) rfl _ ?_
   refine QH (fun w=>Qk) ?_
   refine gX (Cut.le_refl G) rs.ext.inn (i:=3) (y:=f64V v.t1) rfl _ ?_
   refine QH (fun w=>Qbk) ?_
   refine gX (Cut.le_refl G) rs.ext.inn (i:=4) (y:=u8n v.t2) rfl _ ?_
   refine ZY (cs:=[Zs v.x,Zs v.y,Zs v.z,YY v.t1,u8n v.t2,.int .i16 0,.int .i8 0]) (by kernel_rfl) ?_
   rw[Q3]
   refine Qw (Qai.push _ _).ext ?_
   have o5:=Yj.fresh rs.ext (.cells z76 76)
   have r1:=rs.push (.cells z76 76)
   rw[Ye (n:=7) (c':=[Zs v.x,Zs v.y,Zs v.z,YY v.t1,u8n v.t2,.int .i16 0,.int .i8 0].toArray) Qg rfl rfl (by decide) (by intro x hx;simp at hx;rcases hx with rfl|rfl|rfl|rfl|rfl|rfl|rfl<;>rfl)]
   exact ⟨H.size,rfl,⟨r1.ext.set o5.out o5.new _,r1.o2.set_ne (rs.o2.ne) _,r1.o3.set_ne (rs.o3.ne) _,rs.ne⟩,o5.set _,Ne.symm rs.o2.ne,Ne.symm rs.o3.ne⟩
  ·rintro x5 h29 ⟨q5,e5,r5,o5,n2,n3⟩
   cases e5
   refine Q8 (fun _ h=>RM G0 H0 q2 q3 G h cells/\Yj H0 G h q5 (.cells (YS v).toArray 76 (0,0))) ?_ ?_
   ·refine gX (Cut.le_refl G) r5.ext.inn (i:=5) (y:=ptr qt) rfl _ ?_
    rw[QQ (by kernel_rfl)]
    show IfK (.bool true) _ _
    rw[QcN]
    refine gX (Cut.le_refl G) r5.ext.inn (i:=5) (y:=ptr qt) rfl _ ?_
    refine gT (Cut.le_refl G) r5.ext.inn (i:=0) (y:=Qbh v.a) rfl _ ?_
    have st:∀{h:Qe} {c:List Value} {i:Nat} {y:Value} {kp:Qe->Prop},RM G0 H0 q2 q3 G h cells->Yj H0 G h q5 (.cells c.toArray 76 (0,0))->i<c.length->y.oneCell'=true->(∀h',RM G0 H0 q2 q3 G h' cells->Yj H0 G h' q5 (.cells (c.set i y).toArray 76 (0,0))->kp h')->StK h 1 (.pointer (some ⟨q5,i,none⟩)) y kp:=fun {h c i y kp} r o hi hy hk=>by
     rw[Qbe o.get (by simpa using hi) (by simp) hy]
     have e:c.toArray.setIfInBounds i y=(c.set i y).toArray:=by simp
     rw[e]
     exact hk _ ⟨r.ext.set o.out o.new _,r.o2.set_ne (Ne.symm n2) _,r.o3.set_ne (Ne.symm n3) _,r.ne⟩ (o.set _)
    simp only[↓Qt,↓Qu]
    refine ⟨?_,?_⟩
    ·rw[oX (Cut.le_refl G) r5.ext.inn (i:=5) (y:=ptr qt) rfl,Qa]
     simp only[↓Qt,↓Qu]
     refine ⟨?_,?_⟩
     ·rw[oT (Cut.le_refl G) r5.ext.inn (i:=1) (y:=i8V v.b) rfl,Qa]
      refine st r5 o5 (by simp) rfl fun h30 r6 o6=>?_
      refine st r6 o6 (by simp) rfl fun h31 r7 o7=>?_
      exact ⟨r7,o7⟩
     ·refine st r5 o5 (by simp) rfl fun h30 r6 o6=>?_
      rw[oT (Cut.le_refl G) r6.ext.inn (i:=1) (y:=i8V v.b) rfl]
      refine st r6 o6 (by simp) rfl fun h31 r7 o7=>?_
      exact ⟨r7,o7⟩
    ·refine st r5 o5 (by simp) rfl fun h30 r6 o6=>?_
     rw[oX (Cut.le_refl G) r6.ext.inn (i:=5) (y:=ptr qt) rfl]
     refine gT (Cut.le_refl G) r6.ext.inn (i:=1) (y:=i8V v.b) rfl _ ?_
     refine st r6 o6 (by simp) rfl fun h31 r7 o7=>?_
     exact ⟨r7,o7⟩
   ·rintro h32 ⟨r7,o7⟩
    rw[Y0 (n:=7) (vs:=YS v) (by rw[Q0 o7.get 7 (by simp[YS])];rfl)]
    refine r7.put_item (v:=.agg (YS v).toArray) (it:=YS v) rfl rfl rfl (Qo hc) ?_
    intro G' H' c rs3 hle sl
    exact ⟨G',c,rs3,hle,sl⟩
theorem mo3_ok {x:Value} {vs:List Value} {tables:List GM} (hx:oc[9]?=some x) (hs:SlV F 1 x (vs.map fun y=>[y])) (hL:QiZ tables F vs) (hM:∀g∈tables,QhZ g) (hl:tables.length<=50) (hc:cells[11]?=some (.slice none 0 0)) (hk:∀G' H' c,RM G0 H0 q2 q3 G' H' (cells.set 11 c)->G.le G'->Qba G' tables c->K H'):mo3 x0 (ptr q3) H K:=by
 have hlen:∀{ts:List GM} {ws:List Value},QiZ ts F ws->ws.length=ts.length:=fun {ts}=>by
  induction ts with
  |nil=>intro ws h;cases ws with
   |nil=>rfl
   |cons=>simp only[QiZ]at h
  |cons t ts ih=>intro ws h;cases ws with
   |nil=>simp only[QiZ]at h
   |cons y ys=>rw[QiZ]at h;simp[ih h.2]
 have hget:∀{ts:List GM} {ws:List Value},QiZ ts F ws->∀(i:Nat) y,ws[i]?=some y->∃g,ts[i]?=some g/\ObjM g F y:=fun {ts}=>by
  induction ts with
  |nil=>intro ws h i y hy;cases ws with
   |nil=>simp at hy
   |cons=>simp only[QiZ]at h
  |cons t ts ih=>intro ws h i y hy;cases ws with
   |nil=>simp only[QiZ]at h
   |cons z zs=>
    rw[QiZ]at h
    cases i with
    |zero=>
     have:z=y:=by simpa using hy
     subst this
     exact ⟨t,rfl,h.1⟩
    |succ i=>
     obtain ⟨g,h1,h2⟩:=ih h.2 i y (by simpa using hy)
     exact ⟨g,by simpa using h1,h2⟩
 have hvl:=hlen hL
 unfold mo3
 refine rngF_of (G:=F) (fun i H'=>∃G1 c items,G.le G1/\RM G0 H0 q2 q3 G1 H' (cells.set 11 c)/\Cur H0 G1 H' 51 51 c items (badq q2 q3)/\Zb G1 (tables.take i) items) ⟨G,_,[],Cut.le_refl G,by rw[YU hc];exact rs,Cur.nil,by rw[List.take_zero,Zb];trivial⟩
  (fun k h=>Qc5 rs.ext.inn (o.mono hF) hx h) hs (fun i H' ⟨G1,c,items,h1,h2,_⟩ b y h=>h2.ext.inn b y (h1 _ _ (hF _ _ h))) (by omega) ?_ ?_
 ·rintro i y H' k hi ⟨G1,c,items,hle,r,hcur,hv⟩ hk'
  obtain ⟨g,hg,og⟩:=hget hL i y hi
  have hil:items.length=i:=by
   have:=Zb.len hv
   have hlt:=Qo hg
   rw[<-this,List.length_take];omega
  have hc':=Qgn (v:=c) hc
  rw[Qu,r.ld hc']
  refine hM g (List.mem_of_getElem? hg) G1 H' y _ r.ext.inn (ObjM.mono _ _ _ _ (Cut.le_trans hF hle) og) fun G2 H2 z e2 hz=>?_
  refine Qw e2.keep.ext ?_
  refine (r.next e2).push_item (hcur.ext e2) (v:=.agg z.toArray) (it:=z) rfl hz.len (Qb3.one hz) (by decide) rfl (by decide) (by have:=Qo hg;omega) (Qo hc') ?_
  intro H3 c3 r3 hcur3
  refine hk' H3 ⟨G2,c3,_,Cut.le_trans hle e2.le,by rw[List.set_set]at r3;exact r3,hcur3,?_⟩
  rw[Qd6 hg]
  exact Zb.snoc (Zb.mono e2.le hv) hz
 ·rintro H' ⟨G1,c,items,hle,r,hcur,hv⟩
  obtain ⟨G2,e2,sl,le2,hown⟩:=hcur.done r.ext
  refine hk G2 H' c ⟨e2,hown _ _ (Or.inl rfl) r.o2,hown _ _ (Or.inr rfl) r.o3,r.ne⟩ (Cut.le_trans hle le2) ⟨items,sl,?_⟩
  rw[hvl,List.take_length]at hv
  exact Zb.mono le2 hv
theorem mo4_ok {x:Value} {enemy:List GM} (hx:oc[10]?=some x) (hE:(enemy=[]/\x= .pointer none)\/QdB enemy F x) (hM:∀g∈enemy,QhZ g) (hc:cells[12]?=some (.slice none 0 0)) (hk:∀G' H' c,RM G0 H0 q2 q3 G' H' (cells.set 12 c)->G.le G'->Qba G' enemy c->K H'):mo4 x0 (ptr q3) H K:=by
 unfold mo4
 refine Q8 (fun _ h=>∃G' c,RM G0 H0 q2 q3 G' h (cells.set 12 c)/\G.le G'/\Qba G' enemy c) ?_ (fun h hh=>by obtain ⟨G',c,h1,h2,h3⟩:=hh;exact hk G' h c h1 h2 h3)
 refine Qc5 rs.ext.inn (o.mono hF) hx ?_
 rcases hE with ⟨rfl,rfl⟩|hE
 ·rw[QQ (by kernel_rfl)]
  show IfK (.bool false) _ _
  rw[Qao]
  exact ⟨G,_,by rw[YU hc];exact rs,Cut.le_refl _,[],SlV.nil _ _,by rw[Zb];trivial⟩
 ·cases enemy with
  |nil=>rw[QdB]at hE;exact hE.elim
  |cons g gs=>
   rw[QdB]at hE
   obtain ⟨rfl,og⟩:=hE
   obtain ⟨qx,rfl⟩:=og.ptr
   rw[QQ (by kernel_rfl)]
   show IfK (.bool true) _ _
   rw[QcN]
   refine Qc5 rs.ext.inn (o.mono hF) hx ?_
   refine hM g List.mem_cons_self G H _ _ rs.ext.inn (ObjM.mono _ _ _ _ hF og) fun G2 H2 z e2 hz=>?_
   refine (rs.next e2).put_item (v:=.agg z.toArray) (it:=z) rfl hz.len rfl (Qo hc) fun G' H' c r3 hle sl=>⟨G',c,r3,Cut.le_trans e2.le hle,[z],sl,by rw[Zb];exact ⟨hz.mono hle,by rw[Zb];trivial⟩⟩
theorem mo5_ok {x:Value} {empty:List Qan} (hx:oc[12]?=some x) (hp:OptO (ItP Y3) empty F x) (hc:cells[14]?=some (.slice none 0 0)) (hk:∀G' H' c,RM G0 H0 q2 q3 G' H' (cells.set 14 c)->G.le G'->SlV G' 3 c (empty.map Y3)->K H'):mo5 x0 (ptr q3) H K:=by
 unfold mo5
 refine Q8 (fun _ h=>∃G' c,RM G0 H0 q2 q3 G' h (cells.set 14 c)/\G.le G'/\SlV G' 3 c (empty.map Y3)) ?_ (fun _ h hh=>by obtain ⟨G',c,h1,h2,h3⟩:=hh;exact hk G' h c h1 h2 h3)
 refine Qc5 rs.ext.inn (o.mono hF) hx ?_
 rcases hp with ⟨rfl,rfl⟩|⟨s,rfl,⟨a,rfl⟩,o1⟩
 ·rw[QQ (by kernel_rfl)]
  show IfK (.bool false) _ _
  rw[Qao]
  exact ⟨G,_,by rw[YU hc];exact rs,Cut.le_refl _,SlV.nil _ _⟩
 ·rw[QQ (by kernel_rfl)]
  show IfK (.bool true) _ _
  rw[QcN]
  have p1:=YR.mono hF o1
  refine Qc5 rs.ext.inn p1 (i:=0) rfl ?_
  refine Qc5 rs.ext.inn p1 (i:=1) rfl ?_
  refine Qc5 rs.ext.inn p1 (i:=2) rfl ?_
  refine ZY (fill_stat s) ?_
  refine rs.put_item (v:=.agg (Y3 s).toArray) (it:=Y3 s) rfl rfl rfl (Qo hc) fun G' H' c r3 hle sl=>⟨G',c,r3,hle,sl⟩
theorem mo6_ok {x:Value} {l:List Qe7} (hx:oc[27]?=some x) (hs:PtrS (ItP Ze) l F x) (hl:l.length<=50) (hc:cells[29]?=some (.slice none 0 0)) (hk:∀G' H' c,RM G0 H0 q2 q3 G' H' (cells.set 29 c)->G.le G'->SlV G' 2 c (l.map Ze)->K H'):mo6 x0 (ptr q3) H K:=by
 obtain ⟨vs,h1,h2,h3⟩:=hs
 unfold mo6
 refine rngF_of (G:=F) (fun i H'=>∃c,RM G0 H0 q2 q3 G H' (cells.set 29 c)/\Cur H0 G H' 94 2 c ((l.take i).map Ze) (badq q2 q3)) ⟨_,by rw[YU hc];exact rs,Cur.nil⟩
  (fun k h=>Qc5 rs.ext.inn (o.mono hF) hx h) h1 (fun i H' ⟨c,h4,_⟩ b y h=>h4.ext.inn b y (hF _ _ h)) (by omega) ?_ ?_
 ·rintro i y H' k hi ⟨c,r,hcur⟩ hk'
  have ha:=List.getElem?_eq_getElem (l:=l) (i:=i) (by have:=Qo hi;omega)
  have hc':=Qgn (v:=c) hc
  have p1:=YR.mono hF (h3 i y _ hi ha)
  rw[Qu,r.ld hc']
  refine Qc5 r.ext.inn p1 (i:=0) rfl ?_
  refine Qc5 r.ext.inn p1 (i:=1) rfl ?_
  refine ZY (cs:=Ze (l[i]'(Qo ha))) (by kernel_rfl) ?_
  refine r.push_item hcur (v:=.agg (Ze (l[i]'(Qo ha))).toArray) (it:=Ze (l[i]'(Qo ha))) rfl rfl (by intro x hx;simp only[Ze,List.mem_cons,List.not_mem_nil,or_false]at hx;rcases hx with rfl|rfl<;>rfl) (by decide) rfl (by decide) (by rw[List.length_map,List.length_take];omega) (Qo hc') ?_
  intro H3 c3 r3 hcur3
  exact hk' H3 ⟨c3,by rw[List.set_set]at r3;exact r3,by rw[Y8 ha];exact hcur3⟩
 ·rintro H' ⟨c,r,hcur⟩
  obtain ⟨G2,e2,sl,le2,hown⟩:=hcur.done r.ext
  rw[h2,List.take_length]at sl
  exact hk G2 H' c ⟨e2,hown _ _ (Or.inl rfl) r.o2,hown _ _ (Or.inr rfl) r.o3,r.ne⟩ le2 sl
theorem mo7_ok {x:Value} {l:List UInt64} (hx:oc[31]?=some x) (hs:SlV F 1 x (l.map f64I)) (hl:l.length<=50) (hc:cells[33]?=some (.slice none 0 0)) (hk:∀G' H' c,RM G0 H0 q2 q3 G' H' (cells.set 33 c)->G.le G'->SlV G' 1 c (l.map Qbb)->K H'):mo7 x0 (ptr q3) H K:=by
 unfold mo7
 refine rngF_of (G:=F) (vs:=l.map fun x=>f64V x) (fun i H'=>∃c,RM G0 H0 q2 q3 G H' (cells.set 33 c)/\Cur H0 G H' 31 1 c ((l.take i).map Qbb) (badq q2 q3)) ⟨_,by rw[YU hc];exact rs,Cur.nil⟩
  (fun k h=>Qc5 rs.ext.inn (o.mono hF) hx h) (by rw[List.map_map];exact hs) (fun i H' ⟨c,h4,_⟩ b y h=>h4.ext.inn b y (hF _ _ h)) (by rw[List.length_map];omega) ?_ ?_
 ·rintro i y H' k hi ⟨c,r,hcur⟩ hk'
  rw[List.getElem?_map]at hi
  cases ha:l[i]? with
  |none=>rw[ha]at hi;cases hi
  |some a=>
   rw[ha]at hi
   have:f64V a=y:=Option.some.inj hi
   subst this
   have hc':=Qgn (v:=c) hc
   rw[Qu,r.ld hc']
   refine QH (fun w=>Qbk) ?_
   refine r.push_item hcur (v:=YY a) (it:=Qbb a) rfl rfl (by intro x hx;simp only[Qbb,List.mem_cons,List.not_mem_nil,or_false]at hx;subst hx;rfl) (by decide) rfl (by decide) (by rw[List.length_map,List.length_take];have:=Qo ha;omega) (Qo hc') ?_
   intro H3 c3 r3 hcur3
   exact hk' H3 ⟨c3,by rw[List.set_set]at r3;exact r3,by rw[Y8 ha];exact hcur3⟩
 ·rintro H' ⟨c,r,hcur⟩
  obtain ⟨G2,e2,sl,le2,hown⟩:=hcur.done r.ext
  rw[List.length_map,List.take_length]at sl
  exact hk G2 H' c ⟨e2,hown _ _ (Or.inl rfl) r.o2,hown _ _ (Or.inr rfl) r.o3,r.ne⟩ le2 sl
theorem mo8_ok {x:Value} {ty color:UInt8} {kids:List GM} (hx:oc[6]?=some x) (hu:UniO false ty color (kids=[]) (QdB kids) F x) (hM:∀g∈kids,QhZ g) (h0:cells[6]?=some (.int .u8 0)) (h1:cells[7]?=some (.slice none 0 0)) (h2:cells[8]?=some (.int .u8 0))
  (hk:∀G' H' c,RM G0 H0 q2 q3 G' H' (((cells.set 6 (u8n ty)).set (6+1) c).set (6+2) (u8n color))->G.le G'->Qba G' kids c->K H'):mo8 x0 (ptr q3) H K:=by
 unfold mo8
 refine Q8 (fun _ h=>∃G' c,RM G0 H0 q2 q3 G' h (((cells.set 6 (u8n ty)).set (6+1) c).set (6+2) (u8n color))/\G.le G'/\Qba G' kids c) ?_ (fun h hh=>by obtain ⟨G',c,h1,h2,h3⟩:=hh;exact hk G' h c h1 h2 h3)
 refine Qc5 rs.ext.inn (o.mono hF) hx ?_
 rcases hu with ⟨rfl,rfl,rfl,rfl⟩|⟨hty,y,o1,hu⟩
 ·rw[QQ (by kernel_rfl)]
  show IfK (.bool false) _ _
  rw[Qao]
  refine ⟨G,.slice none 0 0,?_,Cut.le_refl _,[],SlV.nil _ _,by rw[Zb];trivial⟩
  have e1:cells.set 6 (u8n 0)=cells:=YU h0
  have e2:cells.set (6+1) (.slice none 0 0)=cells:=YU h1
  have e3:cells.set (6+2) (u8n 0)=cells:=YU h2
  rw[e1,e2,e3];exact rs
 ·obtain ⟨a,rfl⟩:=objPtr o1
  rw[QQ (by kernel_rfl)]
  show IfK (.bool true) _ _
  rw[QcN]
  have p1:=YR.mono hF o1
  refine Qc5 rs.ext.inn (o.mono hF) hx ?_
  refine Qc5 rs.ext.inn p1 (i:=0) rfl ?_
  refine Qc5 rs.ext.inn (o.mono hF) hx ?_
  refine Qc5 rs.ext.inn p1 (i:=1) rfl ?_
  refine Qfz (ty:=ty) (color:=color) (kids:=kids) rs.ext.inn hM ?_ fun G2 H2 c e2 hv=>?_
  ·rcases hu with ⟨_,_,hn,z,rfl,oz⟩|⟨_,hcol,z,rfl,oz⟩
   ·exact Or.inl ⟨hn,z,rfl,oz.mono hF⟩
   ·exact Or.inr ⟨hcol,z,rfl,QdB.mono _ _ _ _ hF oz⟩
  ·have hone:c.oneCell'=true:=by obtain ⟨i,sl,_⟩:=hv;exact sl.one
   refine (rs.next e2).store3 (by have:=Qo h2;omega) rfl hone rfl fun H3 r3 _=>⟨G2,c,r3,e2.le,hv⟩
theorem mo9_ok {x:Value} {ty color:UInt8} {kids:List GM} (hx:oc[41]?=some x) (hu:UniO false ty color (kids=[]) (QdB kids) F x) (hM:∀g∈kids,QhZ g) (h0:cells[43]?=some (.int .u8 0)) (h1:cells[44]?=some (.slice none 0 0)) (h2:cells[45]?=some (.int .u8 0))
  (hk:∀G' H' c,RM G0 H0 q2 q3 G' H' (((cells.set 43 (u8n ty)).set (43+1) c).set (43+2) (u8n color))->G.le G'->Qba G' kids c->K H'):mo9 x0 (ptr q3) H K:=by
 unfold mo9
 refine Q8 (fun _ h=>∃G' c,RM G0 H0 q2 q3 G' h (((cells.set 43 (u8n ty)).set (43+1) c).set (43+2) (u8n color))/\G.le G'/\Qba G' kids c) ?_ (fun h hh=>by obtain ⟨G',c,h1,h2,h3⟩:=hh;exact hk G' h c h1 h2 h3)
 refine Qc5 rs.ext.inn (o.mono hF) hx ?_
 rcases hu with ⟨rfl,rfl,rfl,rfl⟩|⟨hty,y,o1,hu⟩
 ·rw[QQ (by kernel_rfl)]
  show IfK (.bool false) _ _
  rw[Qao]
  refine ⟨G,.slice none 0 0,?_,Cut.le_refl _,[],SlV.nil _ _,by rw[Zb];trivial⟩
  have e1:cells.set 43 (u8n 0)=cells:=YU h0
  have e2:cells.set (43+1) (.slice none 0 0)=cells:=YU h1
  have e3:cells.set (43+2) (u8n 0)=cells:=YU h2
  rw[e1,e2,e3];exact rs
 ·obtain ⟨a,rfl⟩:=objPtr o1
  rw[QQ (by kernel_rfl)]
  show IfK (.bool true) _ _
  rw[QcN]
  have p1:=YR.mono hF o1
  refine Qc5 rs.ext.inn (o.mono hF) hx ?_
  refine Qc5 rs.ext.inn p1 (i:=0) rfl ?_
  refine Qc5 rs.ext.inn (o.mono hF) hx ?_
  refine Qc5 rs.ext.inn p1 (i:=1) rfl ?_
  refine Qfz (ty:=ty) (color:=color) (kids:=kids) rs.ext.inn hM ?_ fun G2 H2 c e2 hv=>?_
  ·rcases hu with ⟨_,_,hn,z,rfl,oz⟩|⟨_,hcol,z,rfl,oz⟩
   ·exact Or.inl ⟨hn,z,rfl,oz.mono hF⟩
   ·exact Or.inr ⟨hcol,z,rfl,QdB.mono _ _ _ _ hF oz⟩
  ·have hone:c.oneCell'=true:=by obtain ⟨i,sl,_⟩:=hv;exact sl.one
   refine (rs.next e2).store3 (by have:=Qo h2;omega) rfl hone rfl fun H3 r3 _=>⟨G2,c,r3,e2.le,hv⟩
theorem mo10_ok {x:Value} {ty color:UInt8} {kids:List GM} (hx:oc[42]?=some x) (hu:UniO true ty color (kids=[]) (QdB kids) F x) (hM:∀g∈kids,QhZ g) (h0:cells[46]?=some (.int .u8 0)) (h1:cells[47]?=some (.slice none 0 0)) (h2:cells[48]?=some (.int .u8 0))
  (hk:∀G' H' c,RM G0 H0 q2 q3 G' H' (((cells.set 46 (u8n ty)).set (46+1) c).set (46+2) (u8n color))->G.le G'->Qba G' kids c->K H'):mo10 x0 (ptr q3) H K:=by
 unfold mo10
 refine Q8 (fun _ h=>∃G' c,RM G0 H0 q2 q3 G' h (((cells.set 46 (u8n ty)).set (46+1) c).set (46+2) (u8n color))/\G.le G'/\Qba G' kids c) ?_ (fun h hh=>by obtain ⟨G',c,h1,h2,h3⟩:=hh;exact hk G' h c h1 h2 h3)
 refine Qc5 rs.ext.inn (o.mono hF) hx ?_
 rcases hu with ⟨rfl,rfl,rfl,rfl⟩|⟨hty,y,o1,hu⟩
 ·rw[QQ (by kernel_rfl)]
  show IfK (.bool false) _ _
  rw[Qao]
  refine ⟨G,.slice none 0 0,?_,Cut.le_refl _,[],SlV.nil _ _,by rw[Zb];trivial⟩
  have e1:cells.set 46 (u8n 0)=cells:=YU h0
  have e2:cells.set (46+1) (.slice none 0 0)=cells:=YU h1
  have e3:cells.set (46+2) (u8n 0)=cells:=YU h2
  rw[e1,e2,e3];exact rs
 ·obtain ⟨a,rfl⟩:=objPtr o1
  rw[QQ (by kernel_rfl)]
  show IfK (.bool true) _ _
  rw[QcN]
  have p1:=YR.mono hF o1
  refine Qc5 rs.ext.inn (o.mono hF) hx ?_
  refine Qc5 rs.ext.inn p1 (i:=0) rfl ?_
  refine Qc5 rs.ext.inn (o.mono hF) hx ?_
  refine Qc5 rs.ext.inn p1 (i:=1) rfl ?_
  refine Qfz (ty:=ty) (color:=color) (kids:=kids) rs.ext.inn hM ?_ fun G2 H2 c e2 hv=>?_
  ·rcases hu with ⟨_,_,hn,z,rfl,oz⟩|⟨_,hcol,z,rfl,oz⟩
   ·exact Or.inl ⟨hn,z,rfl,oz.mono hF⟩
   ·exact Or.inr ⟨hcol,z,rfl,QdB.mono _ _ _ _ hF oz⟩
  ·have hone:c.oneCell'=true:=by obtain ⟨i,sl,_⟩:=hv;exact sl.one
   refine (rs.next e2).store3 (by have:=Qo h2;omega) rfl hone rfl fun H3 r3 _=>⟨G2,c,r3,e2.le,hv⟩
theorem mo11_ok {x:Value} {l:List UInt8} (hx:oc[43]?=some x) (hs:SlV F 1 x (l.map bytI)) (hl:l.length<4611686018427387904) (hc:cells[49]?=some (Yx [])) (hk:∀H',RM G0 H0 q2 q3 G H' (cells.set 49 (Yx l))->K H'):mo11 x0 (ptr q3) H K:=by
 unfold mo11
 refine rngF_of (G:=F) (vs:=l.map u8n) (fun i H'=>RM G0 H0 q2 q3 G H' (cells.set 49 (Yx (l.take i)))) (by rw[List.take_zero,YU hc];exact rs)
  (fun k h=>Qc5 rs.ext.inn (o.mono hF) hx h) (by rw[List.map_map];exact hs) (fun i H' h4 b y h=>h4.ext.inn b y (hF _ _ h)) (by rw[List.length_map];omega) ?_ ?_
 ·rintro i y H' k hi r hk'
  rw[List.getElem?_map]at hi
  cases ha:l[i]? with
  |none=>rw[ha]at hi;cases hi
  |some a=>
   rw[ha]at hi
   have:u8n a=y:=Option.some.inj hi
   subst this
   have hc':=Qgn (v:=Yx (l.take i)) hc
   rw[Qu,r.ld hc']
   refine BuildSK_mono (r.push_byte (b:=a) rfl (by rw[List.length_take];omega) (Qo hc') fun H3 r3=>hk' H3 ?_) (fun _ _ h=>h.2)
   rw[List.set_set]at r3
   rw[List.take_add_one,ha];exact r3
 ·intro H' r
  rw[List.length_map,List.take_length]at r
  exact hk H' r
end
end Go.Proofs
namespace Go.Proofs
open Go Go.Vc
open Tryz (prog)
def Qgr (d:Qbg) (v9 v10 v24 v28 v31 v32 v35 v37 v38 v40 v42:Value):List Value:=
 [.slice none 0 0,Qbh d.mana,Qbh d.hp,Yx d.name,Yx d.inventory,u8n d.color,.int .u8 0,.slice none 0 0,.int .u8 0,v9,v10,.slice none 0 0,.slice none 0 0,Yx d.nested,.slice none 0 0,.bool d.bool,Qf5 d.s32,Zs d.u32,Qdi d.s64,YY d.u64,Qf5 d.s32a,Zs d.u32a,Qdi d.s64a,YY d.u64a,v24,Zs d.f,Zs d.f2,Zs d.f3,v28,.slice none 0 0,Yx d.flex,v31,v32,.slice none 0 0,.bool d.parent,v35,YY d.singleWeak,v37,v38,YY d.coOwning,v40,YY d.nonOwning,v42,.int .u8 0,.slice none 0 0,.int .u8 0,.int .u8 0,.slice none 0 0,.int .u8 0,Yx [],i8V d.signedEnum]
set_option maxHeartbeats 4000000 in
theorem fill_mo (d:Qbg) (sv9 sv10 sv24 sv28 sv31 sv32 sv35 sv37 sv38 sv40 sv42:Option Addr×Nat×Nat):Z3 z51.toList [(1,1,(Qbh d.mana)),(2,1,(Qbh d.hp)),(3,1,(Yx d.name)),(4,1,(Yx d.inventory)),(5,1,(u8n d.color)),(9,1,(.slice sv9.1 sv9.2.1 sv9.2.2)),(10,1,(.slice sv10.1 sv10.2.1 sv10.2.2)),(13,1,(Yx d.nested)),(15,1,(.bool d.bool)),(16,1,(Qf5 d.s32)),(17,1,(Zs d.u32)),(18,1,(Qdi d.s64)),(19,1,(YY d.u64)),(20,1,(Qf5 d.s32a)),(21,1,(Zs d.u32a)),(22,1,(Qdi d.s64a)),(23,1,(YY d.u64a)),(24,1,(.slice sv24.1 sv24.2.1 sv24.2.2)),(25,1,(Zs d.f)),(26,1,(Zs d.f2)),(27,1,(Zs d.f3)),(28,1,(.slice sv28.1 sv28.2.1 sv28.2.2)),(30,1,(Yx d.flex)),(31,1,(.slice sv31.1 sv31.2.1 sv31.2.2)),(32,1,(.slice sv32.1 sv32.2.1 sv32.2.2)),(35,1,(.slice sv35.1 sv35.2.1 sv35.2.2)),(36,1,(YY d.singleWeak)),(37,1,(.slice sv37.1 sv37.2.1 sv37.2.2)),(38,1,(.slice sv38.1 sv38.2.1 sv38.2.2)),(39,1,(YY d.coOwning)),(40,1,(.slice sv40.1 sv40.2.1 sv40.2.2)),(41,1,(YY d.nonOwning)),(42,1,(.slice sv42.1 sv42.2.1 sv42.2.2)),(50,1,(i8V d.signedEnum)),(34,1,(.bool d.parent))]=some (Qgr d (.slice sv9.1 sv9.2.1 sv9.2.2) (.slice sv10.1 sv10.2.1 sv10.2.2) (.slice sv24.1 sv24.2.1 sv24.2.2) (.slice sv28.1 sv28.2.1 sv28.2.2) (.slice sv31.1 sv31.2.1 sv31.2.2) (.slice sv32.1 sv32.2.1 sv32.2.2) (.slice sv35.1 sv35.2.1 sv35.2.2) (.slice sv37.1 sv37.2.1 sv37.2.2) (.slice sv38.1 sv38.2.1 sv38.2.2) (.slice sv40.1 sv40.2.1 sv40.2.2) (.slice sv42.1 sv42.2.1 sv42.2.2)):=by kernel_rfl
theorem moB_of {d:Qbg} {v9 v10 v24 v28 v31 v32 v35 v37 v38 v40 v42:Value} (hv9:∃s:Option Addr×Nat×Nat,v9= .slice s.1 s.2.1 s.2.2) (hv10:∃s:Option Addr×Nat×Nat,v10= .slice s.1 s.2.1 s.2.2) (hv24:∃s:Option Addr×Nat×Nat,v24= .slice s.1 s.2.1 s.2.2) (hv28:∃s:Option Addr×Nat×Nat,v28= .slice s.1 s.2.1 s.2.2) (hv31:∃s:Option Addr×Nat×Nat,v31= .slice s.1 s.2.1 s.2.2) (hv32:∃s:Option Addr×Nat×Nat,v32= .slice s.1 s.2.1 s.2.2) (hv35:∃s:Option Addr×Nat×Nat,v35= .slice s.1 s.2.1 s.2.2) (hv37:∃s:Option Addr×Nat×Nat,v37= .slice s.1 s.2.1 s.2.2) (hv38:∃s:Option Addr×Nat×Nat,v38= .slice s.1 s.2.1 s.2.2) (hv40:∃s:Option Addr×Nat×Nat,v40= .slice s.1 s.2.1 s.2.2) (hv42:∃s:Option Addr×Nat×Nat,v42= .slice s.1 s.2.1 s.2.2) {K:Value->Prop} (hk:K (.agg (Qgr d v9 v10 v24 v28 v31 v32 v35 v37 v38 v40 v42).toArray)):
  moB (Qbh d.mana) (Qbh d.hp) (Yx d.name) (Yx d.inventory) (u8n d.color) v9 v10 (Yx d.nested) (.bool d.bool) (Qf5 d.s32) (Zs d.u32) (Qdi d.s64) (YY d.u64) (Qf5 d.s32a) (Zs d.u32a) (Qdi d.s64a) (YY d.u64a) v24 (Zs d.f) (Zs d.f2) (Zs d.f3) v28 (Yx d.flex) v31 v32 v35 (YY d.singleWeak) v37 v38 (YY d.coOwning) v40 (YY d.nonOwning) v42 (i8V d.signedEnum) (.bool d.parent) K:=by
 refine hv9.elim fun sv9 ev9=>?_
 refine hv10.elim fun sv10 ev10=>?_
 refine hv24.elim fun sv24 ev24=>?_
 refine hv28.elim fun sv28 ev28=>?_
 refine hv31.elim fun sv31 ev31=>?_
 refine hv32.elim fun sv32 ev32=>?_
 refine hv35.elim fun sv35 ev35=>?_
 refine hv37.elim fun sv37 ev37=>?_
 refine hv38.elim fun sv38 ev38=>?_
 refine hv40.elim fun sv40 ev40=>?_
 refine hv42.elim fun sv42 ev42=>?_
 subst ev9 ev10 ev24 ev28 ev31 ev32 ev35 ev37 ev38 ev40 ev42
 have h:=fill_mo d sv9 sv10 sv24 sv28 sv31 sv32 sv35 sv37 sv38 sv40 sv42
 unfold moB QB
 simp only[h]
 exact hk
theorem moCells_one {d:Qbg} {v9 v10 v24 v28 v31 v32 v35 v37 v38 v40 v42:Value} (hv9:∃s:Option Addr×Nat×Nat,v9= .slice s.1 s.2.1 s.2.2) (hv10:∃s:Option Addr×Nat×Nat,v10= .slice s.1 s.2.1 s.2.2) (hv24:∃s:Option Addr×Nat×Nat,v24= .slice s.1 s.2.1 s.2.2) (hv28:∃s:Option Addr×Nat×Nat,v28= .slice s.1 s.2.1 s.2.2) (hv31:∃s:Option Addr×Nat×Nat,v31= .slice s.1 s.2.1 s.2.2) (hv32:∃s:Option Addr×Nat×Nat,v32= .slice s.1 s.2.1 s.2.2) (hv35:∃s:Option Addr×Nat×Nat,v35= .slice s.1 s.2.1 s.2.2) (hv37:∃s:Option Addr×Nat×Nat,v37= .slice s.1 s.2.1 s.2.2) (hv38:∃s:Option Addr×Nat×Nat,v38= .slice s.1 s.2.1 s.2.2) (hv40:∃s:Option Addr×Nat×Nat,v40= .slice s.1 s.2.1 s.2.2) (hv42:∃s:Option Addr×Nat×Nat,v42= .slice s.1 s.2.1 s.2.2):∀v∈(Qgr d v9 v10 v24 v28 v31 v32 v35 v37 v38 v40 v42).toArray.toList,v.oneCell'=true:=by
 obtain ⟨sv9,rfl⟩:=hv9
 obtain ⟨sv10,rfl⟩:=hv10
 obtain ⟨sv24,rfl⟩:=hv24
 obtain ⟨sv28,rfl⟩:=hv28
 obtain ⟨sv31,rfl⟩:=hv31
 obtain ⟨sv32,rfl⟩:=hv32
 obtain ⟨sv35,rfl⟩:=hv35
 obtain ⟨sv37,rfl⟩:=hv37
 obtain ⟨sv38,rfl⟩:=hv38
 obtain ⟨sv40,rfl⟩:=hv40
 obtain ⟨sv42,rfl⟩:=hv42
 intro v hv
 simp only[Qgr,List.mem_cons,List.not_mem_nil,or_false]at hv
 rcases hv with rfl|rfl|rfl|rfl|rfl|rfl|rfl|rfl|rfl|rfl|rfl|rfl|rfl|rfl|rfl|rfl|rfl|rfl|rfl|rfl|rfl|rfl|rfl|rfl|rfl|rfl|rfl|rfl|rfl|rfl|rfl|rfl|rfl|rfl|rfl|rfl|rfl|rfl|rfl|rfl|rfl|rfl|rfl|rfl|rfl|rfl|rfl|rfl|rfl|rfl|rfl<;>rfl
set_option maxHeartbeats 1000000 in
theorem mo1_ok {G:Cut} {H:Qe} (hG:G.In H) {x0:Value} {d:Qbg} {pos:List Qav} {empty:List Qan} {c:OV} (o:YR G x0 (oCells d c).toArray) (od:OD G d pos empty c) (l4:d.test4.length<=50) (l5:d.test5.length<=50) (lr:d.refs.length<=50) (ls:d.strong.length<=50) {K:Kn}
  (hk:∀G' H' q3 v9 v31 v35 v38,RM G H H.size q3 G' H' (Qgr d v9 c.strings c.bools c.strings2 v31 c.longs v35 c.weak v38 c.coOwnings c.nonOwnings)->G.le G'->SlV G' 2 v9 (d.test4.map Yg)->SlV G' 2 v31 (d.test5.map Yg)->SlV G' 1 v35 (d.refs.map Qbb)->SlV G' 1 v38 (d.strong.map Qbb)->K (ptr q3) H'):
  mo1 x0 (H.push (.cells z51 51)) K:=by
 obtain ⟨pa,ep,hpa⟩:=od.parent
 have hp:(!pa.isNone)=d.parent:=by rw[<-hpa];cases pa<;>rfl
 have e:=(Ext.refl hG).push (.cells z51 51)
 have o2:=Yj.fresh (Ext.refl hG) (.cells z51 51)
 generalize H.push (.cells z51 51)=H1 at *
 unfold mo1
 refine Q8 (fun vs h=>∃G' q3 v9 v31 v35 v38,vs=[ptr q3]/\RM G H H.size q3 G' h (Qgr d v9 c.strings c.bools c.strings2 v31 c.longs v35 c.weak v38 c.coOwnings c.nonOwnings)/\G.le G'/\SlV G' 2 v9 (d.test4.map Yg)/\SlV G' 2 v31 (d.test5.map Yg)/\SlV G' 1 v35 (d.refs.map Qbb)/\SlV G' 1 v38 (d.strong.map Qbb)) ?_
  (fun x h hh=>by obtain ⟨G',q3,v9,v31,v35,v38,h0,h1,h2,h3,h4,h5,h6⟩:=hh;cases h0;exact hk G' h q3 v9 v31 v35 v38 h1 h2 h3 h4 h5 h6)
 have fin:∀{G' H' q3 v9 v31 v35 v38} {kp:Qe->Prop},Ext G H G' H'->Yj H G' H' H.size (.cells z51 51 (0,0))->Yj H G' H' q3 (.cells z51 51 (0,0))->H.size≠q3->SlV G' 2 v9 (d.test4.map Yg)->SlV G' 2 v31 (d.test5.map Yg)->SlV G' 1 v35 (d.refs.map Qbb)->SlV G' 1 v38 (d.strong.map Qbb)->
   (∀h,RM G H H.size q3 G' h (Qgr d v9 c.strings c.bools c.strings2 v31 c.longs v35 c.weak v38 c.coOwnings c.nonOwnings)->kp h)->StK H' 51 (ptr q3) (.agg (Qgr d v9 c.strings c.bools c.strings2 v31 c.longs v35 c.weak v38 c.coOwnings c.nonOwnings).toArray) kp:=fun {G' H' q3 v9 v31 v35 v38 kp} e o2 o3 hne f9 f31 f35 f38 hP=>by
  rw[Ye (n:=51) o3.get rfl rfl (by decide) (moCells_one (YX f9) (YX od.strings) (YX od.bools) (YX od.strings2) (YX f31) (YX od.longs) (YX f35) (YX od.weak) (YX f38) (YX od.coOwnings) (YX od.nonOwnings))]
  exact hP _ ⟨e.set o3.out o3.new _,o2.set_ne hne _,o3.set _,hne⟩
 refine Qc5 e.inn o (i:=1) (x:=Qbh d.mana) rfl ?_
 refine Qc5 e.inn o (i:=2) (x:=Qbh d.hp) rfl ?_
 refine Qc5 e.inn o (i:=3) (x:=Yx d.name) rfl ?_
 refine Qc5 e.inn o (i:=4) (x:=c.inventory) rfl ?_
 refine sl_b2s e.inn od.inventory ?_
 refine Qc5 e.inn o (i:=5) (x:=u8n d.color) rfl ?_
 refine Qc5 e.inn o (i:=7) (x:=c.test4) rfl ?_
 refine Qc5 e.inn o (i:=8) (x:=c.strings) rfl ?_
 refine Qc5 e.inn o (i:=11) (x:=c.nested) rfl ?_
 refine sl_b2s e.inn od.nested ?_
 refine Qc5 e.inn o (i:=13) (x:=.bool d.bool) rfl ?_
 refine Qc5 e.inn o (i:=14) (x:=Qf5 d.s32) rfl ?_
 refine Qc5 e.inn o (i:=15) (x:=Zs d.u32) rfl ?_
 refine Qc5 e.inn o (i:=16) (x:=Qdi d.s64) rfl ?_
 refine Qc5 e.inn o (i:=17) (x:=YY d.u64) rfl ?_
 refine Qc5 e.inn o (i:=18) (x:=Qf5 d.s32a) rfl ?_
 refine Qc5 e.inn o (i:=19) (x:=Zs d.u32a) rfl ?_
 refine Qc5 e.inn o (i:=20) (x:=Qdi d.s64a) rfl ?_
 refine Qc5 e.inn o (i:=21) (x:=YY d.u64a) rfl ?_
 refine Qc5 e.inn o (i:=22) (x:=c.bools) rfl ?_
 refine Qc5 e.inn o (i:=23) (x:=QcV d.f) rfl ?_
 refine Qc5 e.inn o (i:=24) (x:=QcV d.f2) rfl ?_
 refine Qc5 e.inn o (i:=25) (x:=QcV d.f3) rfl ?_
 refine Qc5 e.inn o (i:=26) (x:=c.strings2) rfl ?_
 refine Qc5 e.inn o (i:=28) (x:=c.flex) rfl ?_
 refine sl_b2s e.inn od.flex ?_
 refine Qc5 e.inn o (i:=29) (x:=c.test5) rfl ?_
 refine Qc5 e.inn o (i:=30) (x:=c.longs) rfl ?_
 refine Qc5 e.inn o (i:=33) (x:=c.refs) rfl ?_
 refine Qc5 e.inn o (i:=34) (x:=YY d.singleWeak) rfl ?_
 refine Qc5 e.inn o (i:=35) (x:=c.weak) rfl ?_
 refine Qc5 e.inn o (i:=36) (x:=c.strong) rfl ?_
 refine Qc5 e.inn o (i:=37) (x:=YY d.coOwning) rfl ?_
 refine Qc5 e.inn o (i:=38) (x:=c.coOwnings) rfl ?_
 refine Qc5 e.inn o (i:=39) (x:=YY d.nonOwning) rfl ?_
 refine Qc5 e.inn o (i:=40) (x:=c.nonOwnings) rfl ?_
 refine Qc5 e.inn o (i:=44) (x:=i8V d.signedEnum) rfl ?_
 refine Qc5 e.inn o (i:=32) (x:=c.parent) rfl ?_
 rw[ep,QQ (by kernel_rfl),hp]
 refine ⟨?_,?_⟩
 ·refine tf_ok e.inn (od.test4.mono ItP.mono e.le) l4 fun G2 H2 v9 x f9=>?_
  have e:=e.trans x
  have o2:=o2.ext x
  refine Qw x.keep.ext ?_
  refine QH (fun w=>Qk) ?_
  refine QH (fun w=>Qk) ?_
  refine QH (fun w=>Qk) ?_
  refine ⟨?_,?_⟩
  ·refine tf_ok e.inn (od.test5.mono ItP.mono e.le) l5 fun G3 H3 v31 x f31=>?_
   have e:=e.trans x
   have o2:=o2.ext x
   have f9:=f9.mono x.le
   refine Qw x.keep.ext ?_
   refine ⟨?_,?_⟩
   ·refine df_ok e.inn (od.refs.mono ItP.mono e.le) lr fun G4 H4 v35 x f35=>?_
    have e:=e.trans x
    have o2:=o2.ext x
    have f9:=f9.mono x.le
    have f31:=f31.mono x.le
    refine Qw x.keep.ext ?_
    refine ⟨?_,?_⟩
    ·refine df_ok e.inn (od.strong.mono ItP.mono e.le) ls fun G5 H5 v38 x f38=>?_
     have e:=e.trans x
     have o2:=o2.ext x
     have f9:=f9.mono x.le
     have f31:=f31.mono x.le
     have f35:=f35.mono x.le
     refine Qw x.keep.ext ?_
     refine moB_of (YX f9) (YX od.strings) (YX od.bools) (YX od.strings2) (YX f31) (YX od.longs) (YX f35) (YX od.weak) (YX f38) (YX od.coOwnings) (YX od.nonOwnings) ?_
     rw[Q3]
     refine Qw (Qai.push _ _).ext ?_
     have o3:=Yj.fresh e (.cells z51 51)
     have hne:=o2.ne
     have o2:=o2.push (.cells z51 51)
     have e:=e.push (.cells z51 51)
     exact fin e o2 o3 hne f9 f31 f35 f38 fun h r=>⟨_,_,_,_,_,_,rfl,r,e.le,f9,f31,f35,f38⟩
    ·rw[Q3]
     refine Qw (Qai.push _ _).ext ?_
     have o3:=Yj.fresh e (.cells z51 51)
     have hne:=o2.ne
     have o2:=o2.push (.cells z51 51)
     have e:=e.push (.cells z51 51)
     generalize H4.push (.cells z51 51)=q3h at *
     generalize H4.size=q3 at *
     refine df_ok e.inn (od.strong.mono ItP.mono e.le) ls fun G5 H5 v38 x f38=>?_
     have e:=e.trans x
     have o2:=o2.ext x
     have o3:=o3.ext x
     have f9:=f9.mono x.le
     have f31:=f31.mono x.le
     have f35:=f35.mono x.le
     refine Qw x.keep.ext ?_
     refine moB_of (YX f9) (YX od.strings) (YX od.bools) (YX od.strings2) (YX f31) (YX od.longs) (YX f35) (YX od.weak) (YX f38) (YX od.coOwnings) (YX od.nonOwnings) ?_
     exact fin e o2 o3 hne f9 f31 f35 f38 fun h r=>⟨_,_,_,_,_,_,rfl,r,e.le,f9,f31,f35,f38⟩
   ·rw[Q3]
    refine Qw (Qai.push _ _).ext ?_
    have o3:=Yj.fresh e (.cells z51 51)
    have hne:=o2.ne
    have o2:=o2.push (.cells z51 51)
    have e:=e.push (.cells z51 51)
    generalize H3.push (.cells z51 51)=q3h at *
    generalize H3.size=q3 at *
    refine df_ok e.inn (od.refs.mono ItP.mono e.le) lr fun G4 H4 v35 x f35=>?_
    have e:=e.trans x
    have o2:=o2.ext x
    have o3:=o3.ext x
    have f9:=f9.mono x.le
    have f31:=f31.mono x.le
    refine Qw x.keep.ext ?_
    refine df_ok e.inn (od.strong.mono ItP.mono e.le) ls fun G5 H5 v38 x f38=>?_
    have e:=e.trans x
    have o2:=o2.ext x
    have o3:=o3.ext x
    have f9:=f9.mono x.le
    have f31:=f31.mono x.le
    have f35:=f35.mono x.le
    refine Qw x.keep.ext ?_
    refine moB_of (YX f9) (YX od.strings) (YX od.bools) (YX od.strings2) (YX f31) (YX od.longs) (YX f35) (YX od.weak) (YX f38) (YX od.coOwnings) (YX od.nonOwnings) ?_
    exact fin e o2 o3 hne f9 f31 f35 f38 fun h r=>⟨_,_,_,_,_,_,rfl,r,e.le,f9,f31,f35,f38⟩
  ·rw[Q3]
   refine Qw (Qai.push _ _).ext ?_
   have o3:=Yj.fresh e (.cells z51 51)
   have hne:=o2.ne
   have o2:=o2.push (.cells z51 51)
   have e:=e.push (.cells z51 51)
   generalize H2.push (.cells z51 51)=q3h at *
   generalize H2.size=q3 at *
   refine tf_ok e.inn (od.test5.mono ItP.mono e.le) l5 fun G3 H3 v31 x f31=>?_
   have e:=e.trans x
   have o2:=o2.ext x
   have o3:=o3.ext x
   have f9:=f9.mono x.le
   refine Qw x.keep.ext ?_
   refine df_ok e.inn (od.refs.mono ItP.mono e.le) lr fun G4 H4 v35 x f35=>?_
   have e:=e.trans x
   have o2:=o2.ext x
   have o3:=o3.ext x
   have f9:=f9.mono x.le
   have f31:=f31.mono x.le
   refine Qw x.keep.ext ?_
   refine df_ok e.inn (od.strong.mono ItP.mono e.le) ls fun G5 H5 v38 x f38=>?_
   have e:=e.trans x
   have o2:=o2.ext x
   have o3:=o3.ext x
   have f9:=f9.mono x.le
   have f31:=f31.mono x.le
   have f35:=f35.mono x.le
   refine Qw x.keep.ext ?_
   refine moB_of (YX f9) (YX od.strings) (YX od.bools) (YX od.strings2) (YX f31) (YX od.longs) (YX f35) (YX od.weak) (YX f38) (YX od.coOwnings) (YX od.nonOwnings) ?_
   exact fin e o2 o3 hne f9 f31 f35 f38 fun h r=>⟨_,_,_,_,_,_,rfl,r,e.le,f9,f31,f35,f38⟩
 ·rw[Q3]
  refine Qw (Qai.push _ _).ext ?_
  have o3:=Yj.fresh e (.cells z51 51)
  have hne:=o2.ne
  have o2:=o2.push (.cells z51 51)
  have e:=e.push (.cells z51 51)
  generalize H1.push (.cells z51 51)=q3h at *
  generalize H1.size=q3 at *
  refine tf_ok e.inn (od.test4.mono ItP.mono e.le) l4 fun G2 H2 v9 x f9=>?_
  have e:=e.trans x
  have o2:=o2.ext x
  have o3:=o3.ext x
  refine Qw x.keep.ext ?_
  refine QH (fun w=>Qk) ?_
  refine QH (fun w=>Qk) ?_
  refine QH (fun w=>Qk) ?_
  refine tf_ok e.inn (od.test5.mono ItP.mono e.le) l5 fun G3 H3 v31 x f31=>?_
  have e:=e.trans x
  have o2:=o2.ext x
  have o3:=o3.ext x
  have f9:=f9.mono x.le
  refine Qw x.keep.ext ?_
  refine df_ok e.inn (od.refs.mono ItP.mono e.le) lr fun G4 H4 v35 x f35=>?_
  have e:=e.trans x
  have o2:=o2.ext x
  have o3:=o3.ext x
  have f9:=f9.mono x.le
  have f31:=f31.mono x.le
  refine Qw x.keep.ext ?_
  refine df_ok e.inn (od.strong.mono ItP.mono e.le) ls fun G5 H5 v38 x f38=>?_
  have e:=e.trans x
  have o2:=o2.ext x
  have o3:=o3.ext x
  have f9:=f9.mono x.le
  have f31:=f31.mono x.le
  have f35:=f35.mono x.le
  refine Qw x.keep.ext ?_
  refine moB_of (YX f9) (YX od.strings) (YX od.bools) (YX od.strings2) (YX f31) (YX od.longs) (YX f35) (YX od.weak) (YX f38) (YX od.coOwnings) (YX od.nonOwnings) ?_
  exact fin e o2 o3 hne f9 f31 f35 f38 fun h r=>⟨_,_,_,_,_,_,rfl,r,e.le,f9,f31,f35,f38⟩
theorem Qb3.of_cells {F:Cut} {g:GM} {x y:List Value} (h:Qb3 F g x) (e:y=x):Qb3 F g y:=e▸h
theorem mo_fin {G0:Cut} {H0:Qe} {q2 q3:Nat} {G:Cut} {H:Qe} {cells cells2:List Value} (rs:RM G0 H0 q2 q3 G H cells) {R:Kn} (he:cells=cells2) (hl:cells2.length=51) (hone:∀v∈cells2,v.oneCell'=true) (hR:∀H',Ext G0 H0 G H'->R (.agg cells2.toArray) H'):
  LdN H 51 (ptr q3) fun x=>StK H 51 (ptr q2) x fun h=>LdN h 51 (ptr q2) fun r=>R r h:=by
 subst he
 exact rs.fin hl rfl (by decide) hone hR
set_option maxHeartbeats 1000000 in
theorem mofStep {d:Qbg} {pos:List Qav} {empty:List Qan} {tables enemy test uniq amb:List GM} (hT:∀k∈tables,QhZ k) (hE:∀k∈enemy,QhZ k) (hU:∀k∈test,QhZ k) (hQ:∀k∈uniq,QhZ k) (hA:∀k∈amb,QhZ k) (hl:LenM (.mk d pos empty tables enemy test uniq amb)) (hen:d.enums.length<4611686018427387904):QhZ (.mk d pos empty tables enemy test uniq amb):=by
 intro G H v R hG ho hR
 rw[ObjM]at ho
 obtain ⟨c,o,od,⟨vs,sT,oT⟩,oE,oU,oQ,oA⟩:=ho
 rw[LenM]at hl
 obtain ⟨⟨_,_,n4,nab,n5,nT,_⟩,⟨_,_,_,_,nd,nr,_,ns,_⟩,_⟩:=hl
 apply w39
 unfold s39
 rw[Q3]
 refine mo1_ok hG o od n4 n5 nr ns ?_
 intro G1 H1 q3 v9 v31 v35 v38 r1 le1 s9 s31 s35 s38
 refine mo2_ok r1 le1 o rfl od.pos (by kernel_rfl) fun G2 H2 c0 r2 le2 s0=>?_
 have L2:=Cut.le_trans le1 le2
 refine mo3_ok r2 L2 o rfl sT oT hT nT (by kernel_rfl) fun G3 H3 c11 r3 le3 s11=>?_
 have L3:=Cut.le_trans L2 le3
 refine mo4_ok r3 L3 o rfl oE hE (by kernel_rfl) fun G4 H4 c12 r4 le4 s12=>?_
 have L4:=Cut.le_trans L3 le4
 refine mo5_ok r4 L4 o rfl od.empty (by kernel_rfl) fun G5 H5 c14 r5 le5 s14=>?_
 have L5:=Cut.le_trans L4 le5
 refine mo6_ok r5 L5 o rfl od.abil nab (by kernel_rfl) fun G6 H6 c29 r6 le6 s29=>?_
 have L6:=Cut.le_trans L5 le6
 refine mo7_ok r6 L6 o rfl od.doubles nd (by kernel_rfl) fun G7 H7 c33 r7 le7 s33=>?_
 have L7:=Cut.le_trans L6 le7
 refine mo8_ok r7 L7 o rfl oU hU (by kernel_rfl) (by kernel_rfl) (by kernel_rfl) fun G8 H8 c7 r8 le8 s7=>?_
 have L8:=Cut.le_trans L7 le8
 refine mo9_ok r8 L8 o rfl oQ hQ (by kernel_rfl) (by kernel_rfl) (by kernel_rfl) fun G9 H9 c44 r9 le9 s44=>?_
 have L9:=Cut.le_trans L8 le9
 refine mo10_ok r9 L9 o rfl oA hA (by kernel_rfl) (by kernel_rfl) (by kernel_rfl) fun G10 H10 c47 r10 le10 s47=>?_
 refine mo11_ok r10 (Cut.le_trans L9 le10) o rfl od.enums hen (by kernel_rfl) fun H11 r11=>?_
 have M10:=le10
 have M9:=Cut.le_trans le9 M10
 have M8:=Cut.le_trans le8 M9
 have M7:=Cut.le_trans le7 M8
 have M6:=Cut.le_trans le6 M7
 have M5:=Cut.le_trans le5 M6
 have M4:=Cut.le_trans le4 M5
 have M3:=Cut.le_trans le3 M4
 have M2:=Cut.le_trans le2 M3
 have M1:=Cut.le_trans le1 M2
 have hval:Qb3 G10 (.mk d pos empty tables enemy test uniq amb) (Yu d ⟨c0,c7,v9,c.strings,c11,c12,c14,c.bools,c.strings2,c29,v31,c.longs,c33,v35,c.weak,v38,c.coOwnings,c.nonOwnings,c44,c47⟩):=by
  rw[Qb3]
  exact ⟨_,rfl,⟨s0.mono M3,s9.mono M2,od.strings.mono M1,s14.mono M6,od.bools.mono M1,od.strings2.mono M1,s29.mono M7,s31.mono M2,od.longs.mono M1,s33.mono M8,s35.mono M2,od.weak.mono M1,s38.mono M2,od.coOwnings.mono M1,od.nonOwnings.mono M1⟩,s11.mono M4,s12.mono M5,s7.mono M9,s44.mono M10,s47⟩
 exact mo_fin r11 (by kernel_rfl) (YF _ _) (Qb3.one hval) fun H' e'=>hR G10 H' _ e' hval
mutual
def EnM:GM->Prop
 |.mk d pos empty tables enemy test uniq amb=>d.enums.length<4611686018427387904/\EnL tables/\EnL enemy/\EnL test/\EnL uniq/\EnL amb
def EnL:List GM->Prop
 |[]=>True
 |g::gs=>EnM g/\EnL gs
end
mutual
theorem Qia:∀g:GM,LenM g->EnM g->QhZ g
 |.mk d pos empty tables enemy test uniq amb,hl,he=>by
  have hl':=hl
  rw[LenM]at hl'
  rw[EnM]at he
  obtain ⟨_,_,l1,l2,l3,l4,l5⟩:=hl'
  obtain ⟨e0,e1,e2,e3,e4,e5⟩:=he
  exact mofStep (QaY tables l1 e1) (QaY enemy l2 e2) (QaY test l3 e3) (QaY uniq l4 e4) (QaY amb l5 e5) hl e0
theorem QaY:∀gs:List GM,Qi2 gs->EnL gs->∀k∈gs,QhZ k
 |[],_,_,k,h=>by simp at h
 |g::gs,hs,he,k,h=>by
  rw[Qi2]at hs
  rw[EnL]at he
  rcases List.mem_cons.1 h with h|h
  ·rw[h];exact Qia g hs.1 he.1
  ·exact QaY gs hs.2 he.2 k h
end
end Go.Proofs
namespace Go.Proofs
open Go Go.Vc
open Tryz (prog)
theorem tyU {amb:Bool} {ty:UInt8} {n:Nat} (h:GUn amb ty n):ty<=3:=by
 rcases h with ⟨rfl,_⟩|⟨_,⟨_,rfl,_⟩|⟨h,_⟩⟩
 ·decide
 ·decide
 ·rcases h with rfl|⟨_,rfl|rfl⟩<;>decide
mutual
theorem tyM:∀{g:GM},QbJ g->TyM (toM g)
 |.mk d pos empty tables enemy test uniq amb,h=>by
  rw[QbJ]at h
  obtain ⟨_,_,_,u1,u2,u3,c1,c2,c3,c4,c5⟩:=h
  rw[toM,TyM]
  exact ⟨tyU u1,tyU u2,tyU u3,tyL c1,tyL c2,tyL c3,tyL c4,tyL c5⟩
theorem tyL:∀{gs:List GM},Zj gs->TyL (QbG gs)
 |[],_=>by rw[QbG,TyL];trivial
 |g::gs,h=>by
  rw[Zj]at h
  rw[QbG,TyL]
  exact ⟨tyM h.1,tyL h.2⟩
end
theorem en1:∀{ms:List Mon},EnL (rdMs ms)->EnL (rd1 ms)
 |[],_=>by rw[rd1,EnL];trivial
 |m::ms,h=>by
  rw[rdMs,EnL]at h
  rw[rd1,EnL,EnL]
  exact ⟨h.1,trivial⟩
theorem enU {amb:Bool} {ty:UInt8} {gs:List GM} (h:EnL gs):EnL (rdU amb ty gs):=by
 unfold rdU
 split
 ·rw[EnL];trivial
 ·exact h
mutual
theorem enM:∀{g:GM},QbJ g->EnM (rdM (toM g))
 |.mk d pos empty tables enemy test uniq amb,h=>by
  rw[QbJ]at h
  obtain ⟨h1,_,_,_,_,_,c1,c2,c3,c4,c5⟩:=h
  rw[toM,rdM,EnM]
  exact ⟨by have:=h1.texts;show d.enums.length<_;omega,enL c1,en1 (enL c2),enU (en1 (enL c3)),enU (en1 (enL c4)),enU (en1 (enL c5))⟩
theorem enL:∀{gs:List GM},Zj gs->EnL (rdMs (QbG gs))
 |[],_=>by rw[QbG,rdMs,EnL];trivial
 |g::gs,h=>by
  rw[Zj]at h
  rw[QbG,rdMs,EnL]
  exact ⟨enM h.1,enL h.2⟩
end
theorem Qj9 {bs:List UInt8} {m:Mon} (hr:RootRw bs m) (hty:TyM m) (hln:LenM (rwM m)) (hen:EnM (rwM m)) (hl:bs.length<2147483648) {G:Cut} {H:Qe} (hG:G.In H) {R:Kn} (hR:∀G' H' cells,Ext G H G' H'->Qb3 G' (rwM m) cells->R (.tuple #[.agg cells.toArray,.bool true]) H'):
  FnS prog 9 #[Yx bs] H R:=by
 apply w9
 unfold tp9
 rw[Q3,Q3]
 have e:=Ext.refl hG
 have o1:Yj H G (H.push (.cells (Yx bs).cells 9)) H.size (.cells #[Yx bs] 9 (0,0)):=Yj.fresh e _
 have e:=e.push (.cells (Yx bs).cells 9)
 generalize H.push (.cells (Yx bs).cells 9)=H1 at *
 have n1:=o1.ne
 have o2:=Yj.fresh e (.cells z51 51)
 have o1:=o1.push (.cells z51 51)
 have e:=e.push (.cells z51 51)
 generalize H1.push (.cells z51 51)=H2 at *
 refine thrown_ok (by kernel_rfl) ?_
 have n2:=o2.ne
 have o3:=Yj.fresh e (.cells #[.bool false] 4 (0,0))
 have o1:=o1.push (.cells #[.bool false] 4 (0,0))
 have o2:=o2.push (.cells #[.bool false] 4 (0,0))
 have e:=e.push (.cells #[.bool false] 4 (0,0))
 generalize H2.push (.cells #[.bool false] 4 (0,0))=H3 at *
 apply w38
 unfold s38
 rw[Ql ((Qj o1.get).trans (show (#[Yx bs]:Array Value)[0]?=some _ from rfl))]
 refine slice_ok hl ?_
 have u:U8s (H3.push (.cells (u8c bs) 5 (0,0))) H3.size 0 bs:=fun i hi=>by
  rw[Qj Qg,Nat.zero_add]
  unfold u8c byteN
  simp[hi,List.getD]
 have n3:=o3.ne
 have o1:=o1.pushG (.cells (u8c bs) 5 (0,0))
 have o2:=o2.pushG (.cells (u8c bs) 5 (0,0))
 have o3:=o3.pushG (.cells (u8c bs) 5 (0,0))
 have hB:BufG (G.upd H3.size (.cells (u8c bs) 5 (0,0))) H3.size bs:=⟨_,_,_,Cut.upd_same,by unfold u8c;simp⟩
 have e:=e.pushG (.cells (u8c bs) 5 (0,0))
 generalize G.upd H3.size (.cells (u8c bs) 5 (0,0))=G4 at *
 generalize H3.push (.cells (u8c bs) 5 (0,0))=H4 at *
 have hlen:=hr.len
 have hle:=hr.le
 refine root_ok u hlen hl hle ?_
 have t:Tab (H4.push (.cells #[bsl H3.size 0 bs.length bs.length,.int .u32 (le4 bs 0:Nat)] 210)) H4.size H3.size bs (le4 bs 0):=⟨Qj Qg,Qj Qg,QeO (Qai.push _ _).ext u,hl,hle⟩
 have o1:=o1.push (.cells #[bsl H3.size 0 bs.length bs.length,.int .u32 (le4 bs 0:Nat)] 210)
 have o2:=o2.push (.cells #[bsl H3.size 0 bs.length bs.length,.int .u32 (le4 bs 0:Nat)] 210)
 have o3:=o3.push (.cells #[bsl H3.size 0 bs.length bs.length,.int .u32 (le4 bs 0:Nat)] 210)
 have e:=e.push (.cells #[bsl H3.size 0 bs.length bs.length,.int .u32 (le4 bs 0:Nat)] 210)
 generalize H4.push (.cells #[bsl H3.size 0 bs.length bs.length,.int .u32 (le4 bs 0:Nat)] 210)=H5 at *
 obtain ⟨A,hrd⟩:=hr.rd
 refine unpack_all m hty A _ _ _ bs G4 H5 _ t hB e.inn hrd ?_
 intro x H5' G5 e5 _ hob
 have o1:=o1.ext e5
 have o2:=o2.ext e5
 have o3:=o3.ext e5
 have e:=e.trans e5
 refine Qia (rwM m) hln hen G5 H5' x _ e.inn hob ?_
 intro G6 H6 cells e6 hv
 have o1:=o1.ext e6
 have o2:=o2.ext e6
 have o3:=o3.ext e6
 have e:=e.trans e6
 have hvl:=hv.len
 have hone:=Qb3.one hv
 rw[Ye (n:=51) (c':=cells.toArray) o2.get rfl (by simp[hvl]) (by decide) (by simpa using hone)]
 have e:=e.set o2.out o2.new (.cells cells.toArray 51 (0,0))
 have o3:=o3.set_ne (Ne.symm n2) (.cells cells.toArray 51 (0,0))
 have o2:=o2.set (.cells cells.toArray 51 (0,0))
 generalize setB H6 H1.size (.cells cells.toArray 51 (0,0))=H7 at *
 refine ⟨rfl,o3.get,?_⟩
 rw[Ym]
 show ZM prog (Op.unary .not (.bool true)) _
 rw[Ym]
 show IfK (.bool false) _ _
 rw[Qao,Y0 (n:=51) (vs:=cells) (by rw[Q0 o2.get 51 (by simp[hvl])];simp[<-hvl]),Ye (n:=51) (c':=cells.toArray) o2.get (by simp[hvl]) (by simp[hvl]) (by decide) (by simpa using hone)]
 have e:=e.set o2.out o2.new (.cells cells.toArray 51 (0,0))
 have o2:=o2.set (.cells cells.toArray 51 (0,0))
 rw[Y0 (n:=51) (vs:=cells) (by rw[Q0 o2.get 51 (by simp[hvl])];simp[<-hvl])]
 exact hR _ _ _ e hv
mutual
theorem ty_fl:∀{m:Mon},TyM m->TyM (flM m)
 |.mk d tables enemy test uniq amb,h=>by
  rw[TyM]at h
  rw[flM,TyM]
  obtain ⟨h1,h2,h3,c1,c2,c3,c4,c5⟩:=h
  exact ⟨h1,h2,h3,tys_fl c1,tys_fl c2,tys_fl c3,tys_fl c4,tys_fl c5⟩
theorem tys_fl:∀{ms:List Mon},TyL ms->TyL (Qj1 ms)
 |[],_=>by rw[Qj1,TyL];trivial
 |m::ms,h=>by
  rw[TyL]at h
  rw[Qj1,TyL]
  exact ⟨ty_fl h.1,tys_fl h.2⟩
end
theorem QfY {bs:List UInt8} {m:Mon} (hr:RootRd bs m) (hty:TyM m) (hln:LenM (rdM m)) (hen:EnM (rdM m)) (hl:bs.length<2147483648) {G:Cut} {H:Qe} (hG:G.In H) {R:Kn} (hR:∀G' H' cells,Ext G H G' H'->Qb3 G' (rdM m) cells->R (.tuple #[.agg cells.toArray,.bool true]) H'):
  FnS prog 9 #[Yx bs] H R:=Qj9 hr.weak (ty_fl hty) (by rw[rw_fl];exact hln) (by rw[rw_fl];exact hen) hl hG (by rw[rw_fl];exact hR)
end Go.Proofs
namespace Go.Proofs
open Go Go.Vc
open Tryz (prog)
mutual
theorem read0_clean:∀{g:GM},Qef g->Qef (Qfd g)
 |.mk d pos empty tables enemy test uniq amb,h=>by
  rw[Qef]at h
  obtain ⟨h1,h2,h3,h4,c1,c2,c3,c4,c5⟩:=h
  rw[Qfd,Qef]
  simp only[QeX]
  exact ⟨⟨h1.npos,h1.nempty,h1.lists,h1.texts,h1.strings,h1.strings2,h1.stat⟩,h2,h3,h4,Qcm c1,Qcm c2,Qcm c3,Qcm c4,Qcm c5⟩
theorem Qcm:∀{gs:List GM},YV gs->YV (ZO gs)
 |[],_=>by rw[ZO,YV];trivial
 |g::gs,h=>by
  rw[YV]at h
  rw[ZO,YV]
  exact ⟨read0_clean h.1,Qcm h.2⟩
end
mutual
theorem read0_norm:∀{g:GM},NormM g->NormM (Qfd g)
 |.mk d pos empty tables enemy test uniq amb,h=>by
  rw[NormM]at h
  obtain ⟨h1,c1,c2,c3,c4,c5⟩:=h
  rw[Qfd,NormM]
  exact ⟨h1,Qd9 c1,Qd9 c2,Qd9 c3,Qd9 c4,Qd9 c5⟩
theorem Qd9:∀{gs:List GM},Qgd gs->Qgd (ZO gs)
 |[],_=>by rw[ZO,Qgd];trivial
 |g::gs,h=>by
  rw[Qgd]at h
  rw[ZO,Qgd]
  exact ⟨read0_norm h.1,Qd9 h.2⟩
end
theorem negZ_negZ (x:UInt32):negZ (negZ x)=negZ x:=by
 unfold negZ
 by_cases h:x=2147483648
 ·rw[if_pos h];rfl
 ·rw[if_neg h,if_neg h]
mutual
theorem read0_read0:∀g:GM,Qfd (Qfd g)=Qfd g
 |.mk d pos empty tables enemy test uniq amb=>by
  rw[Qfd,Qfd,QbD tables,QbD enemy,QbD test,QbD uniq,QbD amb]
  simp only[negZ_negZ]
theorem QbD:∀gs:List GM,ZO (ZO gs)=ZO gs
 |[]=>by rw[ZO,ZO]
 |g::gs=>by rw[ZO,ZO,read0_read0 g,QbD gs]
end
mutual
theorem cnt_read0:∀g:GM,cntM (Qfd g)=cntM g
 |.mk d pos empty tables enemy test uniq amb=>by
  rw[Qfd,cntM,cntM,QdY tables,QdY enemy,QdY test,QdY uniq,QdY amb]
theorem QdY:∀gs:List GM,cntL (ZO gs)=cntL gs
 |[]=>by rw[ZO]
 |g::gs=>by rw[ZO,cntL,cntL,cnt_read0 g,QdY gs]
end
set_option maxHeartbeats 1000000 in
theorem QiC {g:GM} {cells:List Value} {G:Cut} {H:Qe} {R:Kn} (hG:G.In H) (hv:Qb3 G g cells) (hN:NormM g) (hR:∀H',Qai H H'->R (.bool true) H'):FnS prog 3 #[.agg cells.toArray] H R:=by
 apply w3
 unfold s3
 rw[Q3]
 have e:=Ext.refl hG
 have o:Yj H G (H.push (.cells (Value.agg cells.toArray).cells 38)) H.size (.cells cells.toArray 38 (0,0)):=Yj.fresh e _
 have e:=e.push (.cells (Value.agg cells.toArray).cells 38)
 generalize H.push (.cells (Value.agg cells.toArray).cells 38)=H1 at *
 have ld:∀{H':Qe} {G':Cut},Yj H G' H' H.size (.cells cells.toArray 38 (0,0))->∀k:Value->Prop,LdN H' 51 (ptr H.size) k=k (.agg cells.toArray):=fun o k=>Y0 (n:=51) (vs:=cells) (by rw[Q0 o.get 51 (by simp[hv.len])];simp[<-hv.len])
 rw[ld o]
 refine fits3_ok e.inn hv fun b H2 e2=>?_
 have e:=e.trans e2
 have o:=o.ext e2
 clear e2
 rw[Ym]
 refine Qa1 (fun _=>hR _ e.keep) fun _=>?_
 rw[ld o]
 refine monsterClean_ok e.inn hv fun b H3 e3 hcl=>?_
 have e:=e.trans e3
 have o:=o.ext e3
 clear e3
 rw[Ym]
 have aw:FnS prog 6 #[] H3 fun x19 h6=>R x19 h6:=awake_ok (In.keep hG e.keep) fun H'' k'=>hR _ (e.keep.trans k')
 cases b
 ·rw[Bool.not_false,QcN]
  exact aw
 obtain ⟨hc,hcnt⟩:=hcl rfl
 clear hcl aw
 rw[Bool.not_true,Qao,ld o]
 have hs:=hc.small
 have hL:=hs.len
 refine To_all g G H3 cells _ e.inn hv hL ?_
 intro G4 H4 cells4 e4 hv4
 have k4:=e.keep.trans e4.keep
 obtain ⟨h1,h2,h3⟩:=QiE hs hcnt
 refine QeB (n:=0) e4.inn hv4 hs h1 (by decide) ?_
 intro H5 k5
 rw[Qfp,QfL]
 refine QfY h2 (tyM hs) (by rw[QhT hc hN];exact QgP hL) (enM hs) h3 (In.keep e4.inn k5) ?_
 intro G6 H6 cells6 e6 hv6
 rw[QhT hc hN]at hv6
 have hL6:=QgP hL
 have k6:=(k4.trans k5).trans e6.keep
 have hc':=read0_clean hc
 have hN':=read0_norm hN
 have hs':=hc'.small
 obtain ⟨h1',h2',h3'⟩:=QiE hs' (by rw[cnt_read0];exact hcnt)
 rw[Qfp,QfL,Q3]
 have e7:=(Ext.refl e6.inn).push (.cells z51 51)
 have o7:=Yj.fresh (Ext.refl e6.inn) (.cells z51 51)
 generalize H6.push (.cells z51 51)=H7 at *
 rw[Ye (n:=51) (c':=cells6.toArray) o7.get rfl (by simpa using hv6.len) (by decide) (by simpa using Qb3.one hv6)]
 have e8:=e7.set o7.out o7.new (.cells cells6.toArray 51)
 have o8:=o7.set (.cells cells6.toArray 51)
 generalize setB H7 H6.size (.cells cells6.toArray 51)=H8 at *
 have ld6:∀{H':Qe} {G':Cut},Yj H6 G' H' H6.size (.cells cells6.toArray 51 (0,0))->∀k:Value->Prop,LdN H' 51 (ptr H6.size) k=k (.agg cells6.toArray):=fun o k=>Y0 (n:=51) (vs:=cells6) (by rw[Q0 o.get 51 (by simp[hv6.len])];simp[<-hv6.len])
 rw[ld6 o8]
 refine QeB (n:=0) e8.inn hv6 hs' h1' (by decide) ?_
 intro H9 k9
 rw[Qfp,QfL]
 refine QfY h2' (tyM hs') (by rw[QhT hc' hN'];exact QgP hs'.len) (enM hs') h3' (In.keep e8.inn k9) ?_
 intro G10 H10 cells10 e10 hv10
 rw[QhT hc' hN',read0_read0]at hv10
 have o10:Yj H6 G10 H10 H6.size (.cells cells6.toArray 51 (0,0)):=Yj.ext ⟨k9 _ _ o8.get,o8.out,o8.new⟩ e10
 have k10:=((k6.trans e8.keep).trans k9).trans e10.keep
 have hv6':=hv6.mono e10.le
 rw[Qfp,QfL,Q3]
 have e11:=(Ext.refl e10.inn).push (.cells z51 51)
 have o11:=Yj.fresh (Ext.refl e10.inn) (.cells z51 51)
 generalize H10.push (.cells z51 51)=H11 at *
 rw[Ye (n:=51) (c':=cells10.toArray) o11.get rfl (by simpa using hv10.len) (by decide) (by simpa using Qb3.one hv10)]
 have o12a:=(o10.ext e11).set_ne (b':=H10.size) (by have:=YB o10.get;omega) (.cells cells10.toArray 51)
 have e12:=e11.set o11.out o11.new (.cells cells10.toArray 51)
 have o12:=o11.set (.cells cells10.toArray 51)
 generalize setB H11 H10.size (.cells cells10.toArray 51)=H12 at *
 simp only[Yb,Yr]
 have ld12:∀k:Value->Prop,LdN H12 51 (ptr H10.size) k=k (.agg cells10.toArray):=fun k=>Y0 (n:=51) (vs:=cells10) (by rw[Q0 o12.get 51 (by simp[hv10.len])];simp[<-hv10.len])
 simp only[ld12,ld6 o12a]
 refine Of_all (Qfd g) G10 H12 cells6 _ e12.inn hv6' hL6 ?_
 intro G13 H13 cells13 e13 hv13
 refine Qw e13.keep.ext ?_
 refine Of_all (Qfd g) G13 H13 cells10 _ e13.inn (hv10.mono e13.le) hL6 ?_
 intro G14 H14 cells14 e14 hv14
 refine same_all (Qfd g) G14 H14 cells13 cells14 _ e14.inn (hv13.mono e14.le) hv14 hL6 ?_
 intro H15 e15
 simp only[Yr,Yb]
 have k15:=(((k10.trans e12.keep).trans e13.keep).trans e14.keep).trans e15.keep
 exact awake_ok (In.keep hG k15) fun H16 k16=>hR _ (k15.trans k16)
end Go.Proofs
namespace Go.Proofs.YtjfnlghdpijgeaaGreat
open Go Go.Vc Go.Proofs Go.ChangeShapes Go.WideShapes Go.ChangeAt Go.RowKit
theorem own:ownKnob Tryz.prog.godebug=none:=by kernel_rfl
theorem laidOut:laidOutB Tryz.prog=true:=by kernel_rfl
theorem undM:Tryz.prog.underlying 38=some (.struct (Tryz.prog.fieldsOf 38)):=by kernel_rfl
set_option maxRecDepth 100000 in
theorem lifted (os:Os) (started:os.Started) (H:Type) (enc:TypeId×Value->H):
  ReturnsInHanded {} Tryz.checked os 3 .any (Rows.fnMonsterAgainSpec.pre6 enc Tryz.prog Tryz.f3 Rows.fnMonsterAgainRow.domain false) (Rows.fnMonsterAgainSpec.post enc Tryz.prog Tryz.f3 false true false false):=by
 refine returnsInHanded_of_change (C:=Tryz.checked) own started (by kernel_rfl) Tryz.func3
  (ChangeSpec.witness6 (enc:=enc) (C:=Tryz.checked) false ⟨#[],#[.agg z38],[]⟩ 8 (by kernel_rfl) (by kernel_rfl) (by kernel_rfl) (by kernel_rfl)) ?_
 intro W base args ds gs before hval0 hW hcnd _
 have hval:∀(j:Nat) t v,Tryz.f3.params[j]?=some t->args[j]?=some v->Value.okWide Tryz.prog W .any base t v:=hval0
 have hW':=hW
 obtain ⟨p,q,hA0,hV,rfl,hfz,hnd⟩:=hW
 have hA:DataW.TrodAll enc Tryz.prog W 0 (fun _=>true) true Tryz.f3.params.toList args.toList ds p:=hA0
 rw[Tryz.params3]at hA hval
 obtain ⟨v0,d0,rfl,rfl,h0⟩:=trodAll_one hA
 obtain ⟨rfl,rfl⟩:=trodVars_none hV
 have h0k:=h0
 clear hA0 hval0
 simp only[List.append_nil]at hW'
 have hlt:∀x∈p,x.block<W.heap.size:=fun x hx=>by simpa using hW'.lt x (by simpa using hx)
 have ha:∀W':World,Below W.heap.size W W'->DataW.Trod enc Tryz.prog W' 0 (fun b=>decide (b<W.heap.size)) true 38 v0 d0 p:=
  fun W' hn=>Below.trod laidOut (by kernel_rfl) (of_decide_eq_true (by kernel_rfl)) h0k hn hlt
 obtain ⟨cells,rfl,_⟩:=okWide_struct undM (hval 0 38 v0 rfl rfl)
 obtain ⟨fuel,hf⟩:=h0
 obtain ⟨g,hN,hv⟩:=rd_all (E:=H) (enc:=enc) (w:=W) (base:=0) (spare:=fun _=>true) (held:=true) fuel _ _ hf
 have hv:Qb3 (Cut.of W.heap) g cells.toList:=hv
 have main:=QiC (R:=fun v H'=>v= .bool true/\Qai W.heap H') (Cut.of_in W.heap) hv hN (fun H' hk=>⟨rfl,hk⟩)
 refine (main W rfl).mono fun e W' ⟨v,he,⟨hvt,hkeep⟩,henv⟩=>?_
 subst he;subst hvt
 have hnx:Below W.heap.size W W':=⟨henv.2.1,henv.1,henv.2.2,hkeep.size,fun i hi=>by
  rw[Array.getElem?_eq_getElem hi]
  exact hkeep i _ (Array.getElem?_eq_getElem hi)⟩
 exact ⟨_,rfl,⟨_,_,_,[],_,[],hW',trodAll_mk1 (shut_bool (by kernel_rfl) true),trodAll_mk1 (ha _ hnx),rfl,hnx.frame _,fun h=>by cases h⟩⟩
end Go.Proofs.YtjfnlghdpijgeaaGreat
namespace Go.Proofs.YtjfnlghdpijgeaaGreat
open Go Go.Vc Go.Proofs Go.ChangeShapes Go.WideShapes Go.ChangeAt Go.RowKit
theorem limb1:Tryz.prog.inPlace 3=["math.Float32frombits", "math.Float64frombits", "math.Float64bits", "math.Float32bits"]:=by kernel_rfl
theorem limb2:Tryz.prog.unfollowed 3=true:=by kernel_rfl
theorem limb3:Tryz.prog.recurses 3=true:=by kernel_rfl
theorem limb4:Tryz.prog.varsNamed 3=[]:=by kernel_rfl
theorem closed:joinedFacts Tryz.prog 3 Tryz.f3 Rows.fnMonsterAgainSpec Rows.fnMonsterAgainRow=true:=by
 unfold joinedFacts
 rw[limb1,limb2,limb3,limb4]
 kernel_rfl
theorem named:Tryz.prog.funcNamed "pub-tablature/laws.FnMonsterAgain" =some 3:=by kernel_rfl
theorem FnMonsterAgain_holds:Rows.FnMonsterAgainSaid:=
 OpenClaim.holds_of_wide 3 Tryz.f3 rfl rfl rfl rfl rfl rfl rfl ⟨rfl,rfl,rfl,rfl,rfl⟩ rfl rfl rfl rfl rfl named Tryz.func3 closed
  (of_decide_eq_true (by kernel_rfl)) (by unfold Func.isWrapper;first|(rw[if_pos (by decide+kernel)];kernel_rfl)|(rw[if_neg (by decide+kernel)];exact ⟨rfl,rfl⟩))
  (fun os started H enc _=>lifted os started H enc)
end Go.Proofs.YtjfnlghdpijgeaaGreat
