/- WHAT IS PROVED: the given statement of FnMonsterMutated, whatever the input: this is part 5 of 14. No conditions. -/
import Derived.Test.YticijlffkdlojaaGreatX04
set_option linter.all false
namespace Go.Proofs
open Go Go.Vc
open Tryz (prog)
theorem app_vts {H:Qf} {p:Nat} {S:BS} {F:Cut} {B V T:Nat} {L:List UInt8} {len head:Nat} {vtv vtsv:Value} {e eB:TypeId}
  (hr:Raw H p S F B V T L len head vtv vtsv e eB) {x Y:Nat} {et:TypeId} {kp:Qf->Prop} (hY:H[Y]?=some (.cells #[.int .u32 (x:Int)] et (0,0))) (hYp:Y≠p/\Y≠B/\Y≠V/\Y≠T) (hlt:S.vts.length<1073741824)
  (hk:∀H' T' vtsv',Raw H' p {S with vts:=S.vts++[x]} F B V T' L len head vtv vtsv' e eB->kp H'):
  Qe7 H et 1 4 z72 vtsv (.slice (some ⟨Y,0,none⟩) 1 1) fun x190 h28=>StK h28 1 (.pointer (some ⟨p,4,none⟩)) x190 kp:=by
 obtain ⟨W,eW,rfl,hW,hW2,hW3⟩:=hr.hT
 obtain ⟨l1,l2,l3,l4⟩:=hr.V_lt
 have hnew:QgY H (1*1) (.slice (some ⟨Y,0,none⟩) 1 1)=some [.int .u32 (x:Int)]:=by
  show Zl H ⟨Y,0,none⟩ 0 1=_
  rw[Q5 hY 1 (by simp)]
  rfl
 constructor
 ·intro hcap
  refine ⟨_,hnew,?_⟩
  have hW':H[T]?=some (.cells (W.map fun (n:Nat)=>Value.int .u32 (n:Int)).toArray eW (0,0)):=hW
  have hs:=Qei [.int .u32 (x:Int)] (o:=S.vts.length) (i:=0) hW' (by simp[Value.oneCell']) (by simp;omega) (by simp)
  have e1:(Qab (W.map fun (n:Nat)=>Value.int .u32 (n:Int)) (S.vts.length+0) [.int .u32 (x:Int)]).toArray=QgW (W.set S.vts.length x):=by
   simp[Qab,QgW,List.map_set]
  simp only[e1]at hs
  refine ⟨setB H T (.cells (QgW (W.set S.vts.length x)) eW (0,0)),?_,?_⟩
  ·rw[QfD,Nat.mul_one,Nat.zero_add]
   exact hs
  ·show StK _ 1 _ _ kp
   have hp:(setB H T (.cells (QgW (W.set S.vts.length x)) eW (0,0)))[p]?=_:=(Qw hr.pT).trans hr.hp
   rw[QaA hp (by decide:4<9) (by simp) rfl]
   refine hk _ T (.slice (some ⟨T,0,none⟩) (S.vts.length+1) W.length) ?_
   refine ⟨QU hp,?_,?_,⟨W.set S.vts.length x,eW,?_,?_,?_,?_⟩,hr.pB,hr.pT,hr.BT,?_,hr.hlen,hr.lt⟩
   ·rw[Qw (Ne.symm hr.pB),Qw hr.BT];exact hr.hB
   ·rcases hr.hV with g|⟨g,g2,g3,g4⟩
    ·exact Or.inl g
    ·exact Or.inr ⟨g.mono (by rw[Qw g2,Qw g4]),g2,g3,g4⟩
   ·simp
   ·rw[Qw (Ne.symm hr.pT),QU hW]
   ·simp only[List.length_append,List.length_cons,List.length_nil,Nat.zero_add]
    rw[List.take_set,List.take_add_one,hW2]
    have:W[S.vts.length]?.toList=[W[S.vts.length]'(by omega)]:=by rw[List.getElem?_eq_getElem (by omega)];rfl
    rw[this,List.set_append]
    simp
   ·simp;omega
   ·intro b o hb
    have:=hr.hF b o hb
    exact ⟨by rw[Qw this.2.1,Qw this.2.2.2.2];exact this.1,this.2⟩
 ·intro hcap
  refine ⟨by decide,by omega,(S.vts.map fun (n:Nat)=>Value.int .u32 (n:Int)),_,?_,hnew,?_⟩
  ·show Zl H ⟨T,0,none⟩ 0 (S.vts.length*1)=_
   rw[Nat.mul_one,Q5 hW _ (by rw[QhP];omega)]
   simp only[Nat.zero_add,List.drop_zero,QgW,Option.some.injEq]
   rw[<-List.map_take,hW2]
  ·intro c hc1 hc2
   have e1:(S.vts.map (fun (n:Nat)=>Value.int .u32 (n:Int))++[Value.int .u32 (x:Int)]).toArray++Builtin.zeroCells z72 (c-(S.vts.length+1))=QgW (S.vts++[x]++List.replicate (c-(S.vts.length+1)) 0):=by
    rw[zero_u32 (z:=z72) rfl]
    simp[QgW]
   rw[e1]
   have hp:(H.push (.cells (QgW (S.vts++[x]++List.replicate (c-(S.vts.length+1)) 0)) et))[p]?=_:=YK hr.hp
   rw[QaA hp (by decide:4<9) (by simp) rfl]
   refine hk _ H.size (.slice (some ⟨H.size,0,none⟩) (S.vts.length+1) c) ?_
   refine ⟨QU hp,?_,?_,⟨S.vts++[x]++List.replicate (c-(S.vts.length+1)) 0,et,?_,?_,?_,?_⟩,hr.pB,by omega,by omega,?_,hr.hlen,hr.lt⟩
   ·rw[Qw (Ne.symm hr.pB)];exact YK hr.hB
   ·rcases hr.hV with g|⟨g,g2,g3,g4⟩
    ·exact Or.inl g
    ·refine Or.inr ⟨g.mono ?_,g2,g3,by omega⟩
     rw[Qw g2,Array.getElem?_push,if_neg (by omega)]
   ·simp only[List.length_append,List.length_cons,List.length_nil,List.length_replicate];congr 1;omega
   ·rw[Qw (by omega)];exact Qm
   ·simp only[List.length_append,List.length_cons,List.length_nil,Nat.zero_add]
    rw[List.take_append_of_le_length (by simp),List.take_of_length_le (by simp)]
   ·simp only[List.length_append,List.length_cons,List.length_nil,List.length_replicate];omega
   ·intro b o hb
    have:=hr.hF b o hb
    have hbl:=YQ this.1
    exact ⟨by rw[Qw this.2.1];exact YK this.1,this.2.1,this.2.2.1,this.2.2.2.1,by omega⟩
theorem Qe5 (S:BS):∀S1 oo vt ex,S1=putOff 0 S->oo=S1.buf.length->vt=S1.vt.take (Ys S1.vt)->ex=Qai (Z5 vt oo S1.buf) S1.vts->
  endObj S=if ex=0 then
   {patch ((putN 2 (leB ((2*(vt.length+2):Nat):Int) 2) (putN 2 (leB ((oo-S.oe:Nat):Int) 2) (wrEnt oo vt {S1 with vt:=vt}))).buf.length-oo)
     (((putN 2 (leB ((2*(vt.length+2):Nat):Int) 2) (putN 2 (leB ((oo-S.oe:Nat):Int) 2) (wrEnt oo vt {S1 with vt:=vt}))).buf.length-oo:Nat):Int)
     (putN 2 (leB ((2*(vt.length+2):Nat):Int) 2) (putN 2 (leB ((oo-S.oe:Nat):Int) 2) (wrEnt oo vt {S1 with vt:=vt}))) with
    vts:=S1.vts++[(putN 2 (leB ((2*(vt.length+2):Nat):Int) 2) (putN 2 (leB ((oo-S.oe:Nat):Int) 2) (wrEnt oo vt {S1 with vt:=vt}))).buf.length],vt:=[],nested:=false}
  else {patch 0 ((ex:Int)-(oo:Int)) S1 with vt:=[],nested:=false}:=by
 rintro S1 oo vt ex rfl rfl rfl rfl
 unfold endObj
 simp only
 split
 ·have:=(QdU (putOff 0 S).buf.length ((putOff 0 S).vt.take (Ys (putOff 0 S).vt)) {(putOff 0 S) with vt:=(putOff 0 S).vt.take (Ys (putOff 0 S).vt)}).2.1
  congr 1
  show (wrEnt _ _ _).vts++_=_
  rw[this]
 ·rfl
section
variable {H:Qf} {p:Nat} {S:BS} {F:Cut} {r:Nat} (hB:Qd H p S F r) {R:Kn}
include hB
set_option maxHeartbeats 4000000 in
theorem QfR (hnest:S.nested=true) (hlen:S.buf.length+4096<=536870912) (hvl:S.vt.length<1000) (hvt:∀j,S.vt.getD j 0<=S.buf.length) (hoe:S.oe<=S.buf.length) (hvts:S.vts.length<536870912)
  (hok:QhM (putOff 0 S))
  (hR:∀H',Qd H' p {endObj S with nested:=true} F 0->R (.int .u32 ((putOff 0 S).buf.length:Nat)) H'):
  FnS prog 369 #[.pointer (some ⟨p,0,none⟩)] H R:=by
 have hS1l:S.buf.length+4<=(putOff 0 S).buf.length/\(putOff 0 S).buf.length<=S.buf.length+7:=by
  have:=Zw (size:=4) (n:=S.buf.length+0) (by decide)
  unfold putOff
  simp only[place,List.length_append,Qc,Qad]
  omega
 have hk1:(putOff 0 S).vt=S.vt/\(putOff 0 S).vts=S.vts/\(putOff 0 S).oe=S.oe/\(putOff 0 S).nested=S.nested:=⟨rfl,rfl,rfl,rfl⟩
 obtain ⟨k1,k2,k3,k4⟩:=hk1
 apply w369
 unfold s369
 refine Qee hB (by omega) ?_
 intro H1 h1
 replace h1:=h1.room (Nat.zero_le _)
 have hend:=Qe5 S
 generalize hS1:putOff 0 S=S1 at *
 have hlt1:=h1.lt
 refine Yj h1 ?_
 generalize hoo:S1.buf.length=oo at *
 obtain ⟨hd,hh,⟨B,V,T,L,len,vtv,vtsv,e,eB,hr,g2,g3⟩⟩:=h1
 have htl:=QiB S1.vt
 have hvl1:S1.vt.length<1000:=by rw[k1];exact hvl
 have hvts1:S1.vts.length<536870912:=by rw[k2];exact hvts
 have hvt1:∀j,S1.vt.getD j 0<=oo:=fun j=>by rw[k1];exact Nat.le_trans (hvt j) (by omega)
 simp only[↓Qu,↓Qo,↓Qj (Qix hr),↓(Raw.vtSl hr).len,↓Yk]
 rw[wrap_i64 (by omega) (by omega)]
 refine QB (fun vs h=>vs=[.int .i64 ((Ys S1.vt:Int)-1)]/\h=H1) ?_ ?_
 ·refine ⟨fun m vs h=>∃i:Nat,vs=[.int .i64 ((i:Int)-1)]/\i<=S1.vt.length/\m=i/\h=H1/\∀j,i<=j->j<S1.vt.length->S1.vt.getD j 0=0,⟨_,S1.vt.length,rfl,by omega,rfl,rfl,by omega⟩,fun m=>?_⟩
  rintro x5 h3 ⟨i,hx,hi,rfl,rfl,hall⟩
  cases hx
  rw[Qgu]
  by_cases h0:0<m
  ·obtain ⟨hidx,hcell⟩:=(Raw.vtSl hr).idx (j:=m-1) (x:=(m:Int)-1) (by omega) (by omega)
   have hge:(0:Int)<=(m:Int)-1:=by omega
   simp only[decide_eq_true hge,↓Yc,↓Qu,↓Qo,↓Qj (Qix hr),hidx,↓Qj hcell,↓Yo,↓Yr]
   apply ZI
   ·intro hz
    rw[Yk,wrap_i64 (by omega) (by omega)]
    refine ⟨m-1,by omega,m-1,?_,by omega,rfl,rfl,?_⟩
    ·congr 2;omega
    ·intro j hj hj2
     by_cases hjm:j=m-1
     ·subst hjm;omega
     ·exact hall j (by omega) hj2
   ·intro hz
    have ht:Ys S1.vt=m:=Qie S1.vt m hall hi (Or.inr (by omega))
    simp only[ht,and_self]
  ·have hge:¬(0:Int)<=(m:Int)-1:=by omega
   simp only[decide_eq_false hge,↓Zo,↓ZK,↓Ql]
   have hm0:m=0:=by omega
   subst hm0
   have ht:Ys S1.vt=0:=Qie S1.vt 0 hall hi (Or.inl rfl)
   simp only[ht,and_self]
 ·rintro x5 h12 ⟨hx,rfl⟩
  cases hx
  simp only[↓Qu,↓Qo,↓Qj (Qix hr),↓QE]
  rw[wrap_i64 (by omega) (by omega)]
  refine st_vt_take hr (i:=Ys S1.vt) (by omega) (by omega) ?_
  intro H2 vtv2 hr2
  generalize hvt2:S1.vt.take (Ys S1.vt)=vt at *
  have hvl2:vt.length<=1000:=by rw[<-hvt2,List.length_take];omega
  have hvtle:∀j,vt.getD j 0<=oo:=by
   intro j
   have h1:=hvt1 j
   rw[<-hvt2]
   by_cases hj:j<Ys S1.vt
   ·simp only[List.getD,List.getElem?_take,if_pos hj]at h1⊢;exact h1
   ·simp[List.getD,List.getElem?_take,hj]
  have hVt:VtSl H2 V vtv2 vt:=Raw.vtSl hr2
  refine QB (fun vs h=>(∃y,vs=[y,.int .u32 (Qai (Z5 vt oo S1.buf) S1.vts:Nat)])/\h=H2) ?_ ?_
  ·obtain ⟨W,eW,rfl,hW,hW2,hW3⟩:=hr2.hT
   have hT:VtSl H2 T (.slice (some ⟨T,0,none⟩) S1.vts.length W.length) S1.vts:=Or.inr ⟨W,eW,rfl,hW,hW2,hW3⟩
   simp only[↓Qu,↓Qo,↓Qj (ld_vts hr2),↓Qbw,↓Yk]
   rw[wrap_i64 (by omega) (by omega)]
   refine ⟨fun m vs h=>∃i:Nat,vs=[.int .i64 ((i:Int)-1),.int .u32 0]/\i<=S1.vts.length/\m=i/\h=H2/\Qai (Z5 vt oo S1.buf) (S1.vts.take i)=Qai (Z5 vt oo S1.buf) S1.vts,⟨_,S1.vts.length,rfl,by omega,rfl,rfl,by rw[List.take_length]⟩,fun m=>?_⟩
   rintro x6 x4 h14 ⟨i,hx,hi,rfl,rfl,hfind⟩
   cases hx
   rw[Qgu]
   apply ZI
   ·intro hge
    obtain ⟨hidx,hcell⟩:=hT.idx (j:=m-1) (x:=(m:Int)-1) (by omega) (by omega)
    have hmem:S1.vts.getD (m-1) 0∈S1.vts:=by
     rw[List.getD_eq_getElem?_getD,List.getElem?_eq_getElem (by omega)]
     exact List.getElem_mem _
    obtain ⟨o1,o2,o3,o4⟩:=hok _ hmem
    generalize hov:S1.vts.getD (m-1) 0=o at *
    have htake:S1.vts.take m=S1.vts.take (m-1)++[o]:=by
     have:m=(m-1)+1:=by omega
     rw[this,List.take_add_one,Nat.add_sub_cancel]
     congr 1
     rw[List.getElem?_eq_getElem (by omega)]
     rw[List.getD_eq_getElem?_getD,List.getElem?_eq_getElem (by omega)]at hov
     simpa using hov
    rw[htake,findVt_snoc _ _ (by omega)]at hfind
    have hlo:=hr2.lt
    have hlL:=hr2.hlen
    rw[hoo]at o2 o3 o4
    simp only[↓Qu,↓Qo,↓Qj (ld_vts hr2),hidx,↓Qj hcell,↓Qj (YI hr2),↓Qbw,↓Q1,↓Yk]
    rw[wrap_i64 (n:=(o:Int)) (by omega) (by omega),wrap_i64 (n:=(len:Int)-(o:Int)) (by omega) (by omega)]
    rw[show (len:Int)-(o:Int)=((hd+(oo-o):Nat):Int) by omega]
    rw[ZH hr2 (m:=hd+(oo-o)) (by omega)]
    refine Qda (Qdp hr2.hB) (by omega) (by omega) ?_
    have hl2:le2 L (hd+(oo-o))=le2 S1.buf (oo-o):=le2_sub g3 (by rw[hoo];omega)
    rw[hl2]
    have hl3:=le2_lt S1.buf (oo-o)
    simp only[↓Qu,↓Qo,↓Qj (YI hr2),↓Qj (Qix hr2),↓Q1,↓QE]
    rw[wrap_i64 (n:=(le2 S1.buf (oo-o):Int)) (by omega) (by omega),wrap_i64 (n:=((hd+(oo-o):Nat):Int)+(le2 S1.buf (oo-o):Int)) (by omega) (by omega),wrap_i64 (n:=((hd+(oo-o):Nat):Int)+4) (by omega) (by omega)]
    obtain ⟨o',n',c',hslc,q1,q2,q4,q3⟩:∃o' n' c':Nat,(∀k:Value->Prop,QfG 1 (bsl B 0 len L.length) (some (.int .i64 (((hd+(oo-o):Nat):Int)+4))) (some (.int .i64 (((hd+(oo-o):Nat):Int)+(le2 S1.buf (oo-o):Int)))) k=k (bsl B o' n' c'))/\
      o'+n'<=L.length/\n'<=c'/\n'<1073741824/\QgZ vt oo L o' n'=Z5 vt oo S1.buf o:=by
     by_cases hfull:L.length=(((hd+(oo-o):Nat):Int)+4).toNat
     ·refine ⟨0,0,0,?_,by omega,by omega,by omega,?_⟩
      ·intro k
       rw[bsl,Qg6 (by omega) (by omega) (by omega),if_pos hfull]
       have e1:(((hd+(oo-o):Nat):Int)+(le2 S1.buf (oo-o):Int)).toNat-(((hd+(oo-o):Nat):Int)+4).toNat=0:=by omega
       rw[e1,show L.length-(((hd+(oo-o):Nat):Int)+4).toNat=0 by omega]
      ·unfold Z5
       rw[show le2 S1.buf (oo-o)-4=0 by omega]
       exact Qg3 (fun i hi=>by omega)
     ·refine ⟨hd+(oo-o)+4,le2 S1.buf (oo-o)-4,L.length-(hd+(oo-o)+4),?_,by omega,by omega,by omega,?_⟩
      ·intro k
       rw[bsl,Qg6 (by omega) (by omega) (by omega),if_neg hfull]
       have e1:(((hd+(oo-o):Nat):Int)+(le2 S1.buf (oo-o):Int)).toNat-(((hd+(oo-o):Nat):Int)+4).toNat=le2 S1.buf (oo-o)-4:=by omega
       have e2:(((hd+(oo-o):Nat):Int)+4).toNat=hd+(oo-o)+4:=by omega
       rw[e1,e2,Nat.zero_add,Nat.mul_one]
      ·unfold Z5
       refine Qg3 (fun i hi=>?_)
       rw[show hd+(oo-o)+4+i=hd+(oo-o+4+i) by omega]
       exact Qhx g3 (by omega)
    rw[hslc]
    refine go_vtableEqual hVt (Qdp hr2.hB) q1 q2 q4 (by omega) hvtle (by omega) ?_
    rw[q3]
    by_cases hs:Z5 vt oo S1.buf o=true
    ·rw[hs,if_pos rfl]at hfind
     rw[hs,Zs]
     exact ⟨⟨.int .i64 ((m:Int)-1),by rw[<-hfind]⟩,rfl⟩
    ·rw[if_neg hs]at hfind
     rw[Bool.not_eq_true]at hs
     rw[hs,Ql,wrap_i64 (by omega) (by omega)]
     refine ⟨m-1,by omega,m-1,?_,by omega,rfl,rfl,hfind⟩
     congr 2;omega
   ·intro hge
    have hm0:m=0:=by omega
    subst hm0
    refine ⟨⟨.int .i64 ((0:Nat)-1:Int),?_⟩,rfl⟩
    rw[<-hfind]
    rfl
  ·rintro x6 x4 h17 ⟨⟨y,hx⟩,rfl⟩
   cases hx
   generalize hex:Qai (Z5 vt oo S1.buf) S1.vts=ex at *
   have hexle:ex<=oo:=by
    by_cases h0:ex=0
    ·omega
    ·have:=QiD (Z5 vt oo S1.buf) S1.vts (by rw[hex];exact h0)
     rw[hex]at this
     have:=(hok _ this.1).2.1
     omega
   have hlo:=hr2.lt
   have hlL:=hr2.hlen
   have hat:Qd h17 p {S1 with vt:=vt} F 0:=⟨hd,Nat.zero_le _,⟨B,V,T,L,len,vtv2,vtsv,e,eB,hr2,g2,g3⟩⟩
   have hend':=hend S1 oo vt ex rfl hoo.symm hvt2.symm hex.symm
   clear hend
   generalize hS2:({S1 with vt:=vt}:BS)=S2 at hend' hat
   have s2v:S2.vt=vt:=by rw[<-hS2]
   have s2o:S2.oe=S1.oe:=by rw[<-hS2]
   have s2b:S2.buf.length=oo:=by rw[<-hS2];exact hoo
   have s2n:S2.nested=true:=by rw[<-hS2];exact k4.trans hnest
   have s2s:S2.vts=S1.vts:=by rw[<-hS2]
   refine QB (fun _ h=>Qd h p {endObj S with nested:=true,vt:=vt} F 0) ?_ ?_
   ·rw[Yo]
    apply ZI
    ·intro h0
     have h0':ex=0:=by omega
     rw[if_pos h0']at hend'
     refine QB (fun _ h=>Qd h p (wrEnt oo vt S2) F 0) ?_ ?_
     ·simp only[↓Qu,↓Qo,↓Qj (Qix hr2),↓hVt.len,↓Yk]
      rw[wrap_i64 (by omega) (by omega)]
      refine ⟨fun m vs h=>∃i:Nat,vs=[.int .i64 ((i:Int)-1)]/\i<=vt.length/\m=i/\Qd h p (wrEnt oo (vt.drop i) S2) F 0,⟨_,vt.length,rfl,by omega,rfl,?_⟩,fun m=>?_⟩
      ·rw[List.drop_length];exact hat
      ·rintro x13 h18 ⟨i,hx,hi,rfl,hb⟩
       cases hx
       rw[Qgu]
       apply ZI
       ·intro hge
        obtain ⟨w1,w2,w3,w4,w5⟩:=QdU oo (vt.drop m) S2
        have hwl:=QhO oo (vt.drop m) S2
        rw[List.length_drop]at hwl
        have hvtm:=hvtle (m-1)
        have hdrop:vt.drop (m-1)=vt.getD (m-1) 0::vt.drop m:=by
         rw[List.drop_eq_getElem_cons (by omega),List.getD_eq_getElem?_getD,List.getElem?_eq_getElem (by omega)]
         rw[show m-1+1=m by omega];rfl
        have hb2:=hb
        obtain ⟨hd3,hh3,⟨B3,V3,T3,L3,len3,vtv3,vtsv3,e3,eB3,hr3,g5,g6⟩⟩:=hb
        have hV3:=Raw.vtSl hr3
        rw[w1,s2v]at hV3
        obtain ⟨hidx,hcell⟩:=hV3.idx (j:=m-1) (x:=(m:Int)-1) (by omega) (by omega)
        generalize vt.getD (m-1) 0=v at *
        refine QB (fun vs h=>vs=[.int .u32 ((if v≠0 then oo-v else 0:Nat):Int)]/\h=h18) ?_ ?_
        ·simp only[↓Qu,↓Qo,↓Qj (Qix hr3),hidx,↓Qj hcell,↓QJ,↓Yk]
         apply ZI
         ·intro hne
          rw[QT (by omega) (by omega),if_pos (by omega)]
          refine ⟨?_,by first|rfl|trivial⟩
          congr 2;omega
         ·intro hne
          rw[if_neg (by omega)]
          exact ⟨rfl,by first|rfl|trivial⟩
        ·rintro x14 h19 ⟨hx,rfl⟩
         cases hx
         rw[Q1]
         refine ZY hb2 (by omega) ?_
         intro h20 hb3
         rw[Qib]at hb3
         rw[Yk,wrap_i64 (by omega) (by omega)]
         refine ⟨m-1,by omega,m-1,?_,by omega,rfl,?_⟩
         ·congr 2;omega
         ·rw[hdrop];exact hb3.room (Nat.zero_le _)
       ·intro hge
        have hm0:m=0:=by omega
        subst hm0
        exact hb
     ·intro x13 h21 hb
      obtain ⟨w1,w2,w3,w4,w5⟩:=QdU oo vt S2
      have hwl:=QhO oo vt S2
      have hb2:=hb
      obtain ⟨hd3,hh3,⟨B3,V3,T3,L3,len3,vtv3,vtsv3,e3,eB3,hr3,g5,g6⟩⟩:=hb
      have e1:(wrEnt oo vt S2).oe=S.oe:=by rw[w3,s2o,k3]
      simp only[↓Qu,↓Qo,↓Qj (ld_oe hr3),e1,↓Yk,↓Q1]
      rw[QT (by omega) (by omega),show (oo:Int)-(S.oe:Int)=((oo-S.oe:Nat):Int) by omega]
      refine ZY hb2 (by omega) ?_
      intro h22 hb3
      rw[Qib]at hb3
      have hl3:(putN 2 (leB ((oo-S.oe:Nat):Int) 2) (wrEnt oo vt S2)).buf.length<=(wrEnt oo vt S2).buf.length+3:=by
       have:=Zw (size:=2) (n:=(wrEnt oo vt S2).buf.length) (by decide)
       rw[QdB,Qc];omega
      have hl3':(wrEnt oo vt S2).buf.length<=(putN 2 (leB ((oo-S.oe:Nat):Int) 2) (wrEnt oo vt S2)).buf.length:=by rw[QdB];omega
      have v3:(putN 2 (leB ((oo-S.oe:Nat):Int) 2) (wrEnt oo vt S2)).vt=vt:=by show (wrEnt oo vt S2).vt=vt;rw[w1,s2v]
      have v4:(putN 2 (leB ((oo-S.oe:Nat):Int) 2) (wrEnt oo vt S2)).vts=S1.vts:=by show (wrEnt oo vt S2).vts=S1.vts;rw[w2,s2s]
      have v5:(putN 2 (leB ((oo-S.oe:Nat):Int) 2) (wrEnt oo vt S2)).nested=true:=by show (wrEnt oo vt S2).nested=true;rw[w4,s2n]
      generalize putN 2 (leB ((oo-S.oe:Nat):Int) 2) (wrEnt oo vt S2)=S3 at *
      have hb4:=hb3
      obtain ⟨hd4,hh4,⟨B4,V4,T4,L4,len4,vtv4,vtsv4,e4,eB4,hr4,g7,g8⟩⟩:=hb3
      have hV4:=Raw.vtSl hr4
      rw[v3]at hV4
      simp only[↓Qu,↓Qo,↓Qj (Qix hr4),↓hV4.len,↓QE,↓Qbd,↓Q1]
      rw[wrap_i64 (n:=(vt.length:Int)+2) (by omega) (by omega),wrap_i64 (n:=((vt.length:Int)+2)*2) (by omega) (by omega),show ((vt.length:Int)+2)*2=((2*(vt.length+2):Nat):Int) by omega]
      refine ZY hb4 (by omega) ?_
      intro h23 hb5
      rw[Qib]at hb5
      have hl5:(putN 2 (leB ((2*(vt.length+2):Nat):Int) 2) S3).buf.length<=S3.buf.length+3:=by
       have:=Zw (size:=2) (n:=S3.buf.length) (by decide)
       rw[QdB,Qc];omega
      have hl5':S3.buf.length+2<=(putN 2 (leB ((2*(vt.length+2):Nat):Int) 2) S3).buf.length:=by rw[QdB,Qc];omega
      have v6:(putN 2 (leB ((2*(vt.length+2):Nat):Int) 2) S3).vts=S1.vts:=v4
      have v7:(putN 2 (leB ((2*(vt.length+2):Nat):Int) 2) S3).nested=true:=v5
      have v8:(putN 2 (leB ((2*(vt.length+2):Nat):Int) 2) S3).vt=vt:=v3
      generalize putN 2 (leB ((2*(vt.length+2):Nat):Int) 2) S3=S5 at *
      have hb6:=hb5
      obtain ⟨hd6,hh6,⟨B6,V6,T6,L6,len6,vtv6,vtsv6,e6,eB6,hr6,g9,g10⟩⟩:=hb5
      have hl6:=hr6.lt
      have hL6:=hr6.hlen
      simp only[↓Qu,↓Qo,↓Qj (YI hr6),↓Qbw,↓Q1,↓Yk]
      rw[Za (n:=(len6:Int)) (by omega) (by omega),Za (n:=(oo:Int)) (by omega) (by omega),Za (n:=(len6:Int)-(oo:Int)) (by omega) (by omega)]
      rw[show (len6:Int)-(oo:Int)=((hd6+(S5.buf.length-oo):Nat):Int) by omega,ZH hr6 (m:=hd6+(S5.buf.length-oo)) (by omega)]
      refine Yj hb6 ?_
      rw[Qa,Q1,Yk,Za (n:=(S5.buf.length:Int)) (by omega) (by omega),Za (n:=(S5.buf.length:Int)-(oo:Int)) (by omega) (by omega),show (S5.buf.length:Int)-(oo:Int)=((S5.buf.length-oo:Nat):Int) by omega]
      refine Qds hr6.hB (by omega) (by omega) ?_
      have hr7:=Raw.wr (S':=patch (S5.buf.length-oo) ((S5.buf.length-oo:Nat):Int) S5) hr6 (Ye (leB ((S5.buf.length-oo:Nat):Int) 4) L6 (hd6+(S5.buf.length-oo))) rfl rfl rfl
      have hpl:(patch (S5.buf.length-oo) ((S5.buf.length-oo:Nat):Int) S5).buf.length=S5.buf.length:=by simp[patch,Ye]
      have g11:((Qab L6 (hd6+(S5.buf.length-oo)) (leB ((S5.buf.length-oo:Nat):Int) 4)).take len6).drop hd6=(patch (S5.buf.length-oo) ((S5.buf.length-oo:Nat):Int) S5).buf:=
       put_mid hL6 g9 g10 (by rw[Qc];omega)
      have vp:(patch (S5.buf.length-oo) ((S5.buf.length-oo:Nat):Int) S5).vts=S1.vts:=v6
      generalize hH7:wr h23 B6 eB6 (Qab L6 (hd6+(S5.buf.length-oo)) (leB ((S5.buf.length-oo:Nat):Int) 4))=H7 at *
      generalize hL7:Qab L6 (hd6+(S5.buf.length-oo)) (leB ((S5.buf.length-oo:Nat):Int) 4)=L7 at *
      have hb7:Qd H7 p (patch (S5.buf.length-oo) ((S5.buf.length-oo:Nat):Int) S5) F 0:=⟨hd6,Nat.zero_le _,⟨B6,V6,T6,L7,len6,vtv6,vtsv6,e6,eB6,hr7,by rw[hpl];exact g9,g11⟩⟩
      simp only[↓Qu,↓Qo,↓Qj (ld_vts hr7)]
      refine Yj hb7 ?_
      rw[Qa,hpl]
      show QY H7 _ 1 [Value.int .u32 0] _ _
      refine Q3 (QaC.push _ _).ext ?_
      have hr8:Raw (H7.push (.cells #[.int .u32 (S5.buf.length:Nat)] 72)) p (patch (S5.buf.length-oo) ((S5.buf.length-oo:Nat):Int) S5) F B6 V6 T6 L7 len6 hd6 vtv6 vtsv6 e6 eB6:=by
       obtain ⟨l1,l2,l3,l4⟩:=hr7.V_lt
       refine hr7.frame ?_ ?_
       ·intro b hb
        rw[Array.getElem?_push,if_neg]
        rcases hb with rfl|rfl|rfl|rfl<;>omega
       ·intro b o hb
        have:=hr7.hF b o hb
        exact ⟨YK this.1,this.2⟩
      obtain ⟨l1,l2,l3,l4⟩:=hr7.V_lt
      refine app_vts hr8 (x:=S5.buf.length) (Y:=H7.size) Qm ⟨by omega,by omega,by omega,by omega⟩ (by rw[vp];omega) ?_
      intro H9 T9 vtsv9 hr9
      rw[hend']
      refine ⟨hd6,Nat.zero_le _,⟨B6,V6,T9,L7,len6,vtv6,vtsv9,e6,eB6,?_,by show hd6+(patch _ _ S5).buf.length=len6;rw[hpl];exact g9,g11⟩⟩
      have e5:({patch (S5.buf.length-oo) ((S5.buf.length-oo:Nat):Int) S5 with vts:=(patch (S5.buf.length-oo) ((S5.buf.length-oo:Nat):Int) S5).vts++[S5.buf.length]}:BS)=
        {patch (S5.buf.length-oo) ((S5.buf.length-oo:Nat):Int) S5 with vts:=S1.vts++[S5.buf.length],vt:=vt,nested:=true}:=by
       simp only[patch,v6,v7,v8]
      rw[e5]at hr9
      exact hr9
    ·intro h0
     have h0':¬ex=0:=by omega
     rw[if_neg h0']at hend'
     simp only[↓Qu,↓Qo,↓Qj (YI hr2),↓Qbw,↓Q1,↓Yk]
     rw[Za (n:=(len:Int)) (by omega) (by omega),Za (n:=(oo:Int)) (by omega) (by omega),Za (n:=(len:Int)-(oo:Int)) (by omega) (by omega),QT (by omega) (by omega)]
     rw[show (len:Int)-(oo:Int)=((hd:Nat):Int) by omega,QaX hr2]
     have hr3:=Raw.setp (S':={S1 with vt:=vt}) (head':=hd) hr2 rfl rfl
     simp only[↓Qj (YI hr3),↓Qj (YN hr3)]
     rw[ZH hr3 (m:=hd) (by omega),Za (n:=(ex:Int)) (by omega) (by omega),Za (n:=(ex:Int)-(oo:Int)) (by omega) (by omega)]
     refine Qds hr3.hB (by omega) (by omega) ?_
     rw[hend']
     have hr4:=Raw.wr (S':={patch 0 ((ex:Int)-(oo:Int)) S1 with vt:=vt,nested:=true}) hr3 (Ye (leB ((ex:Int)-(oo:Int)) 4) L hd) (by
      show QfB B len L.length _ vtv2 vtsv hd=_
      simp only[QfB,patch]
      rw[k4,hnest]) rfl rfl
     refine ⟨hd,Nat.zero_le _,⟨B,V,T,_,len,vtv2,vtsv,e,eB,hr4,?_,?_⟩⟩
     ·show hd+(patch 0 _ S1).buf.length=len
      simp only[patch,Ye];exact g2
     ·have:=put_mid (q:=0) (xs:=leB ((ex:Int)-(oo:Int)) 4) hlL g2 g3 (by rw[Qc];omega)
      exact this
   ·intro h32 hb
    obtain ⟨hd6,hh6,⟨B6,V6,T6,L6,len6,vtv6,vtsv6,e6,eB6,hr6,g9,g10⟩⟩:=hb
    simp only[↓Qu,↓Qo,↓Qj (Qix hr6)]
    refine st_vt_take hr6 (i:=0) rfl (Nat.zero_le _) ?_
    intro H' vtv' hr'
    refine hR H' ?_
    have ev:(endObj S).vt=[]:=by
     rw[hend'];split<;>rfl
    refine ⟨hd6,Nat.zero_le _,⟨B6,V6,T6,L6,len6,vtv',vtsv6,e6,eB6,?_,g9,g10⟩⟩
    have e7:({endObj S with nested:=true,vt:=vt.take 0}:BS)={endObj S with nested:=true}:=by
     rw[List.take_zero,<-ev]
    have hr'':Raw H' p ({endObj S with nested:=true,vt:=vt.take 0}:BS) F B6 V6 T6 L6 len6 hd6 vtv' vtsv6 e6 eB6:=hr'
    rw[e7]at hr''
    exact hr''
theorem QgT (hnest:S.nested=true) (hlen:S.buf.length+4096<=536870912) (hvl:S.vt.length<1000) (hvt:∀j,S.vt.getD j 0<=S.buf.length) (hoe:S.oe<=S.buf.length) (hvts:S.vts.length<536870912)
  (hok:QhM (putOff 0 S))
  (hR:∀H',Qd H' p (endObj S) F 0->R (.int .u32 ((putOff 0 S).buf.length:Nat)) H'):
  FnS prog 314 #[.pointer (some ⟨p,0,none⟩)] H R:=by
 apply w314
 unfold s314
 refine Qav hB hnest ?_
 refine QfR hB hnest hlen hvl hvt hoe hvts hok ?_
 intro H1 h1
 simp only[↓Qu,↓Qo]
 refine Qc3 h1 ?_
 intro H2 h2
 refine hR H2 ?_
 have en:(endObj S).nested=false:=by
  rw[Qe5 S _ _ _ _ rfl rfl rfl rfl];split<;>rfl
 have e8:({({endObj S with nested:=true}:BS) with nested:=false}:BS)=endObj S:=by
  show ({endObj S with nested:=false}:BS)=endObj S
  rw[<-en]
 rw[e8]at h2
 exact h2
end
end Go.Proofs
namespace Go.Proofs
open Go Go.Vc
open Tryz (prog)
theorem wrap_inj {κ:IntKind} {x y:Nat} (hx:x<2^κ.bits) (hy:y<2^κ.bits) (h:κ.wrap (x:Int)=κ.wrap (y:Int)):x=y:=by
 have h1:=QeT κ x
 have h2:=QeT κ y
 rw[h]at h1
 have h3:=h1.symm.trans h2
 have e:(2^κ.bits:Int)=((2^κ.bits:Nat):Int):=by rw[Int.natCast_pow];rfl
 rw[e,<-Int.natCast_emod,<-Int.natCast_emod,Nat.mod_eq_of_lt hx,Nat.mod_eq_of_lt hy]at h3
 omega
theorem Zu {κ:IntKind} {x:Int} {k:Nat} (hk:8*k<=κ.bits):leB (κ.wrap x) k=leB x k:=by
 unfold leB
 apply List.map_congr_left
 intro i hi
 have hi':=List.mem_range.1 hi
 unfold Zj
 congr 2
 have h1:=QeT κ x
 have e:∀z:Int,(z/2^(8*i))%256=((z%(2^κ.bits:Int))/2^(8*i))%256:=by
  intro z
  obtain ⟨m,hm⟩:∃m,κ.bits=8*i+8+m:=⟨κ.bits-(8*i+8),by omega⟩
  have hz:=Int.emod_add_mul_ediv z (2^κ.bits)
  have hpos:(0:Int)<2^(8*i):=Int.pow_pos (by decide)
  have hp:(2^κ.bits:Int)=2^(8*i)*(256*2^m):=by
   rw[hm,Int.pow_add,Int.pow_add,Int.mul_assoc];rfl
  rw[hp]at hz⊢
  have h3:z/2^(8*i)=z%(2^(8*i)*(256*2^m))/2^(8*i)+256*2^m*(z/(2^(8*i)*(256*2^m))):=by
   have h4:z=z%(2^(8*i)*(256*2^m))+2^(8*i)*(256*2^m*(z/(2^(8*i)*(256*2^m)))):=by
    have h0:=hz.symm
    rw[Int.mul_assoc (2^(8*i)) (256*2^m) _]at h0
    exact h0
   have h5:=Int.add_mul_ediv_left (z%(2^(8*i)*(256*2^m))) (256*2^m*(z/(2^(8*i)*(256*2^m)))) (Int.ne_of_gt hpos)
   rw[<-h5,<-h4]
  rw[h3,Int.mul_assoc,Int.add_mul_emod_self_left]
 rw[e (κ.wrap x),e x,h1]
def slotN (k x d o:Nat) (S:BS):BS:=if x=d then S else slot o (putN k (leB (x:Int) k) S)
def slotF (x d o:Nat) (S:BS):BS:=if (FloatKind.f32.format.order x d !=some .eq)=true then slot o (putN 4 (leB (x:Int) 4) S) else S
def slotOff (off o:Nat) (S:BS):BS:=if off=0 then S else slot o (putOff off S)
def slotStruct (off o:Nat) (S:BS):BS:=if off=0 then S else slot o S
theorem BinK_fne {P:Program} {t:TypeId} {q:FloatKind} {a b:Nat} {k:Value->Prop}:Qp P .neq t (.float q a) (.float q b) k=k (.bool (q.format.order a b !=some .eq)):=
 QcZ (by simp) (by simp) fun w=>by rw[binOp_float_cmp_neq];rfl
section
variable {H:Qf} {p:Nat} {S:BS} {F:Cut} {r:Nat} (hB:Qd H p S F r) {R:Kn}
include hB
theorem Qfj {x:Nat} (hx:x<256) (hl:S.buf.length+16<=536870912) (hR:∀H',Qd H' p (putN 1 (leB (x:Int) 1) S) F 0->R (.tuple #[]) H'):FnS prog 117 #[.pointer (some ⟨p,0,none⟩),.int .u8 (x:Int)] H R:=by
 have e1:((UInt8.ofNat x).toNat:Int)=(x:Int):=by rw[UInt8.toNat_ofNat_of_lt' hx]
 have e2:leB (x:Int) 1=[UInt8.ofNat x]:=by
  rw[leB_1]
  unfold Zj
  congr 2
  simp;omega
 rw[<-e1]
 rw[e2]at hR
 exact QcN hB hl (fun H' h=>hR H' (h.room (Nat.zero_le _)))
theorem Qb0 {x d o:Nat} (hx:x<65536) (hd:d<65536) (ho:o<S.vt.length) (hl:S.buf.length+16<=536870912) (hR:∀H',Qd H' p (slotN 2 x d o S) F 0->R (.tuple #[]) H'):
  FnS prog 304 #[.pointer (some ⟨p,0,none⟩),.int .i64 (o:Nat),.int .i16 (IntKind.i16.wrap (x:Int)),.int .i16 (IntKind.i16.wrap (d:Int))] H R:=by
 apply w304
 unfold QeQ
 rw[QJ]
 unfold slotN at hR
 by_cases h:x=d
 ·subst h
  rw[QL (by simp)]
  rw[if_pos rfl]at hR
  exact hR H (hB.room (Nat.zero_le _))
 ·rw[Yd]
  ·rw[if_neg h]at hR
   refine QcD hB hl ?_
   intro H1 h1
   rw[Zu (by decide)]at h1
   refine YS h1 ho ?_
   intro H2 h2
   exact hR H2 (h2.room (Nat.zero_le _))
  ·intro hh
   exact h (wrap_inj (κ:=.i16) hx hd hh)
theorem Qeb {x d o:Nat} (hx:x<256) (hd:d<256) (ho:o<S.vt.length) (hl:S.buf.length+16<=536870912) (hR:∀H',Qd H' p (slotN 1 x d o S) F 0->R (.tuple #[]) H'):
  FnS prog 313 #[.pointer (some ⟨p,0,none⟩),.int .i64 (o:Nat),.int .i8 (IntKind.i8.wrap (x:Int)),.int .i8 (IntKind.i8.wrap (d:Int))] H R:=by
 apply w313
 unfold QeQ
 rw[QJ]
 unfold slotN at hR
 by_cases h:x=d
 ·subst h
  rw[QL (by simp)]
  rw[if_pos rfl]at hR
  exact hR H (hB.room (Nat.zero_le _))
 ·rw[Yd]
  ·rw[if_neg h]at hR
   refine QcL hB hl ?_
   intro H1 h1
   rw[Zu (by decide)]at h1
   refine YS h1 ho ?_
   intro H2 h2
   exact hR H2 (h2.room (Nat.zero_le _))
  ·intro hh
   exact h (wrap_inj (κ:=.i8) hx hd hh)
theorem QaV {x d o:Nat} (hx:x<4294967296) (hd:d<4294967296) (ho:o<S.vt.length) (hl:S.buf.length+16<=536870912) (hR:∀H',Qd H' p (slotN 4 x d o S) F 0->R (.tuple #[]) H'):
  FnS prog 308 #[.pointer (some ⟨p,0,none⟩),.int .i64 (o:Nat),.int .i32 (IntKind.i32.wrap (x:Int)),.int .i32 (IntKind.i32.wrap (d:Int))] H R:=by
 apply w308
 unfold QeQ
 rw[QJ]
 unfold slotN at hR
 by_cases h:x=d
 ·subst h
  rw[QL (by simp)]
  rw[if_pos rfl]at hR
  exact hR H (hB.room (Nat.zero_le _))
 ·rw[Yd]
  ·rw[if_neg h]at hR
   refine Qfb hB hl ?_
   intro H1 h1
   rw[Zu (by decide)]at h1
   refine YS h1 ho ?_
   intro H2 h2
   exact hR H2 (h2.room (Nat.zero_le _))
  ·intro hh
   exact h (wrap_inj (κ:=.i32) hx hd hh)
theorem ZS {x d o:Nat} (hx:x<18446744073709551616) (hd:d<18446744073709551616) (ho:o<S.vt.length) (hl:S.buf.length+16<=536870912) (hR:∀H',Qd H' p (slotN 8 x d o S) F 0->R (.tuple #[]) H'):
  FnS prog 310 #[.pointer (some ⟨p,0,none⟩),.int .i64 (o:Nat),.int .i64 (IntKind.i64.wrap (x:Int)),.int .i64 (IntKind.i64.wrap (d:Int))] H R:=by
 apply w310
 unfold QeQ
 rw[QJ]
 unfold slotN at hR
 by_cases h:x=d
 ·subst h
  rw[QL (by simp)]
  rw[if_pos rfl]at hR
  exact hR H (hB.room (Nat.zero_le _))
 ·rw[Yd]
  ·rw[if_neg h]at hR
   refine Qci hB hl ?_
   intro H1 h1
   rw[Zu (by decide)]at h1
   refine YS h1 ho ?_
   intro H2 h2
   exact hR H2 (h2.room (Nat.zero_le _))
  ·intro hh
   exact h (wrap_inj (κ:=.i64) hx hd hh)
theorem QaP {x d o:Nat} (hx:x<4294967296) (hd:d<4294967296) (ho:o<S.vt.length) (hl:S.buf.length+16<=536870912) (hR:∀H',Qd H' p (slotN 4 x d o S) F 0->R (.tuple #[]) H'):
  FnS prog 309 #[.pointer (some ⟨p,0,none⟩),.int .i64 (o:Nat),.int .u32 (x:Int),.int .u32 (d:Int)] H R:=by
 apply w309
 unfold QeQ
 rw[QJ]
 unfold slotN at hR
 by_cases h:x=d
 ·subst h
  rw[QL (by simp)]
  rw[if_pos rfl]at hR
  exact hR H (hB.room (Nat.zero_le _))
 ·rw[Yd]
  ·rw[if_neg h]at hR
   refine QbZ hB hl ?_
   intro H1 h1
   skip
   refine YS h1 ho ?_
   intro H2 h2
   exact hR H2 (h2.room (Nat.zero_le _))
  ·intro hh
   omega
theorem Y0 {x d o:Nat} (hx:x<18446744073709551616) (hd:d<18446744073709551616) (ho:o<S.vt.length) (hl:S.buf.length+16<=536870912) (hR:∀H',Qd H' p (slotN 8 x d o S) F 0->R (.tuple #[]) H'):
  FnS prog 311 #[.pointer (some ⟨p,0,none⟩),.int .i64 (o:Nat),.int .u64 (x:Int),.int .u64 (d:Int)] H R:=by
 apply w311
 unfold QeQ
 rw[QJ]
 unfold slotN at hR
 by_cases h:x=d
 ·subst h
  rw[QL (by simp)]
  rw[if_pos rfl]at hR
  exact hR H (hB.room (Nat.zero_le _))
 ·rw[Yd]
  ·rw[if_neg h]at hR
   refine Qc2 hB hl ?_
   intro H1 h1
   skip
   refine YS h1 ho ?_
   intro H2 h2
   exact hR H2 (h2.room (Nat.zero_le _))
  ·intro hh
   omega
theorem QdD {x d o:Nat} (hx:x<65536) (hd:d<65536) (ho:o<S.vt.length) (hl:S.buf.length+16<=536870912) (hR:∀H',Qd H' p (slotN 2 x d o S) F 0->R (.tuple #[]) H'):
  FnS prog 360 #[.pointer (some ⟨p,0,none⟩),.int .i64 (o:Nat),.int .u16 (x:Int),.int .u16 (d:Int)] H R:=by
 apply w360
 unfold QeQ
 rw[QJ]
 unfold slotN at hR
 by_cases h:x=d
 ·subst h
  rw[QL (by simp)]
  rw[if_pos rfl]at hR
  exact hR H (hB.room (Nat.zero_le _))
 ·rw[Yd]
  ·rw[if_neg h]at hR
   refine QeS hB hl ?_
   intro H1 h1
   skip
   refine YS h1 ho ?_
   intro H2 h2
   exact hR H2 (h2.room (Nat.zero_le _))
  ·intro hh
   omega
theorem YB {x d o:Nat} (hx:x<256) (hd:d<256) (ho:o<S.vt.length) (hl:S.buf.length+16<=536870912) (hR:∀H',Qd H' p (slotN 1 x d o S) F 0->R (.tuple #[]) H'):
  FnS prog 306 #[.pointer (some ⟨p,0,none⟩),.int .i64 (o:Nat),.int .u8 (x:Int),.int .u8 (d:Int)] H R:=by
 apply w306
 unfold QeQ
 rw[QJ]
 unfold slotN at hR
 by_cases h:x=d
 ·subst h
  rw[QL (by simp)]
  rw[if_pos rfl]at hR
  exact hR H (hB.room (Nat.zero_le _))
 ·rw[Yd (by omega)]
  rw[if_neg h]at hR
  refine Qfj hB hx hl ?_
  intro H1 h1
  refine YS h1 ho ?_
  intro H2 h2
  exact hR H2 (h2.room (Nat.zero_le _))
theorem Qef {x:Bool} {o:Nat} (ho:o<S.vt.length) (hl:S.buf.length+16<=536870912) (hR:∀H',Qd H' p (slotN 1 (if x then 1 else 0) 0 o S) F 0->R (.tuple #[]) H'):
  FnS prog 307 #[.pointer (some ⟨p,0,none⟩),.int .i64 (o:Nat),.bool x,.bool false] H R:=by
 apply w307
 unfold s307
 refine QB (fun vs h=>vs=[.int .u8 ((if x then 1 else 0:Nat):Int)]/\h=H) ?_ ?_
 ·cases x
  ·exact ⟨rfl,rfl⟩
  ·exact ⟨rfl,rfl⟩
 ·rintro v h ⟨hv,rfl⟩
  cases hv
  refine QB (fun vs h'=>vs=[.int .u8 ((0:Nat):Int)]/\h'=h) ?_ ?_
  ·exact ⟨rfl,rfl⟩
  ·rintro v h' ⟨hv,rfl⟩
   cases hv
   refine YB hB (by split<;>decide) (by decide) ho hl ?_
   intro H1 h1
   exact hR H1 h1
theorem ZA {x d o:Nat} (ho:o<S.vt.length) (hl:S.buf.length+16<=536870912) (hR:∀H',Qd H' p (slotF x d o S) F 0->R (.tuple #[]) H'):
  FnS prog 312 #[.pointer (some ⟨p,0,none⟩),.int .i64 (o:Nat),.float .f32 x,.float .f32 d] H R:=by
 apply w312
 unfold QeQ
 rw[BinK_fne]
 unfold slotF at hR
 apply ZU
 ·intro h
  rw[if_pos h]at hR
  refine QbJ hB hl ?_
  intro H1 h1
  refine YS h1 ho ?_
  intro H2 h2
  exact hR H2 (h2.room (Nat.zero_le _))
 ·intro h
  rw[if_neg (by rw[h];decide)]at hR
  exact hR H (hB.room (Nat.zero_le _))
theorem Qn {off o:Nat} (hoff:off<=S.buf.length) (ho:o<S.vt.length) (hl:S.buf.length+16<=536870912) (hR:∀H',Qd H' p (slotOff off o S) F 0->R (.tuple #[]) H'):
  FnS prog 305 #[.pointer (some ⟨p,0,none⟩),.int .i64 (o:Nat),.int .u32 (off:Int),.int .u32 0] H R:=by
 apply w305
 unfold QeQ
 rw[QJ]
 unfold slotOff at hR
 by_cases h:off=0
 ·subst h
  rw[QL (by simp)]
  rw[if_pos rfl]at hR
  exact hR H (hB.room (Nat.zero_le _))
 ·rw[Yd (by omega)]
  rw[if_neg h]at hR
  refine Qa0 hB hl hoff ?_
  intro H1 h1
  refine YS h1 ho ?_
  intro H2 h2
  exact hR H2 (h2.room (Nat.zero_le _))
theorem Qdx {off o:Nat} (hn:S.nested=true) (hoff:off=0\/off=S.buf.length) (ho:o<S.vt.length) (hR:∀H',Qd H' p (slotStruct off o S) F 0->R (.tuple #[]) H'):
  FnS prog 303 #[.pointer (some ⟨p,0,none⟩),.int .i64 (o:Nat),.int .u32 (off:Int),.int .u32 0] H R:=by
 apply w303
 unfold s303
 rw[QJ]
 unfold slotStruct at hR
 by_cases h:off=0
 ·subst h
  rw[QL (by simp)]
  rw[if_pos rfl]at hR
  exact hR H (hB.room (Nat.zero_le _))
 ·rw[Yd (by omega)]
  rw[if_neg h]at hR
  have ho2:off=S.buf.length:=by omega
  refine Qav hB hn ?_
  refine QB (fun _ h=>h=H) ?_ ?_
  ·refine Yj hB ?_
   rw[QJ,QL (by omega)]
  ·rintro h2 rfl
   refine YS hB ho ?_
   intro H2 h2
   exact hR H2 (h2.room (Nat.zero_le _))
def QcM (off:Nat) (S:BS):BS:={putOff off (prep S.min 4 S) with fin:=true}
theorem QiC {off k:Nat} (hn:S.nested=false) (hm:S.min=2^k) (hk:k<=3) (ho:off<=S.buf.length) (hl:S.buf.length+64<=536870912) (hR:∀H',Qd H' p (QcM off S) F 0->R (.tuple #[]) H'):
  FnS prog 21 #[.pointer (some ⟨p,0,none⟩),.int .u32 (off:Int)] H R:=by
 have hB':=hB
 obtain ⟨hd,h1,⟨B,V,T,L,len,vtv,vtsv,e,eB,hr,h2,h3⟩⟩:=hB'
 apply w21
 unfold s21
 refine YV hB hn ?_
 simp only[↓Qu,↓Qo,↓Qj (ld_min hr)]
 refine QW (size:=S.min) (add:=4) (k:=k) hB hm hk rfl (by omega) ?_
 intro H1 g1
 have hpl:padOf S.min (S.buf.length+4)<8+1:=by
  have:padOf S.min (S.buf.length+4)<S.min:=Zw (by rw[hm];exact Nat.two_pow_pos k)
  have:S.min<=8:=by rw[hm];exact Nat.pow_le_pow_right (by decide) hk
  omega
 refine Qa0 g1 (by rw[Qad];omega) (by rw[Qad];omega) ?_
 intro H2 g2
 refine st_fin_at g2 ?_
 intro H3 g3
 exact hR H3 (g3.room (Nat.zero_le _))
theorem QeR (hf:S.fin=true) (h0:0<S.buf.length) (hR:∀B hd c,S.buf.length<=c->U8s H B hd S.buf->R (bsl B hd S.buf.length c) H):
  FnS prog 24 #[.pointer (some ⟨p,0,none⟩)] H R:=by
 have hB':=hB
 obtain ⟨hd,h1,⟨B,V,T,L,len,vtv,vtsv,e,eB,hr,h2,h3⟩⟩:=hB'
 have hL:=hr.hlen
 apply w24
 unfold s24
 refine Qez hB hf ?_
 simp only[↓Qu,↓Qo,↓Qj (YI hr)]
 apply w170
 unfold s170
 simp only[↓Qu,↓Qo,↓Qj (YN hr),Qa]
 rw[ZH hr (m:=hd) (by omega),show len-hd=S.buf.length by omega]
 refine hR B hd _ (by omega) ?_
 intro i hi
 rw[Qdp hr.hB |>.at (Nat.zero_add _).symm (by omega)]
 rw[Qhx h3 hi]
end
theorem QgK {z:Array Value} {k:Value->Prop}:QH z.toList [] k=k (.agg z):=by simp[QH,ZG]
def Qan:BS:=⟨[],1,[],0,[],false,false⟩
theorem go_NewBuilder {H:Qf} {F:Cut} {R:Kn} {n:Nat} (hn:n<65536) (hF:∀b o,F b=some o->H[b]?=some o)
  (hR:∀H',Qd H' H.size Qan F 0->QaC H H'->R (.pointer (some ⟨H.size,0,none⟩)) H'):
  FnS prog 20 #[.int .i64 (n:Nat)] H R:=by
 apply w20
 unfold s20
 refine QB (fun vs h=>vs=[.int .i64 (n:Nat)]/\h=H) ?_ ?_
 ·rw[Qi3]
  apply ZI
  ·intro h
   have:n=0:=by omega
   subst this
   exact ⟨rfl,rfl⟩
  ·intro h
   exact ⟨rfl,rfl⟩
 ·rintro x h ⟨hx,rfl⟩
  cases hx
  rw[QgK]
  have hp1:(h.push (.cells z140 140))[h.size]?=_:=Qm
  have hs1:(h.push (.cells z140 140)).size=h.size+1:=size_push
  have hk1:QaC h (h.push (.cells z140 140)):=QaC.push _ _
  rw[show Value.cells (.agg z140)=z140 from rfl,Q2]
  generalize h.push (.cells z140 140)=H1 at *
  refine ⟨by omega,by omega,by omega,by omega,?_⟩
  simp only[Int.toNat_natCast]
  rw[mk_u8 (z:=z5) rfl]
  have hp2:(H1.push (.cells (u8c (List.replicate n 0)) 5))[h.size]?=_:=YK hp1
  have hq2:(H1.push (.cells (u8c (List.replicate n 0)) 5))[H1.size]?=_:=Qm
  have hs2:(H1.push (.cells (u8c (List.replicate n 0)) 5)).size=H1.size+1:=size_push
  have hk2:=hk1.trans (QaC.push H1 (.cells (u8c (List.replicate n 0)) 5))
  generalize H1.push (.cells (u8c (List.replicate n 0)) 5)=H2 at *
  simp only[↓Qu,↓Qo]
  rw[QaA hp2 (by decide:0<9) (by simp) rfl,Q1,QT (by omega) (by omega)]
  rw[QaA (QU hp2) (by decide:5<9) (by simp) rfl,Qe0]
  rw[QaA (QU hp2) (by decide:1<9) (by simp) rfl,Qe0]
  have hk3:=hk2.setB (Nat.le_refl _) (.cells (((z140.setIfInBounds 0 (bsl H1.size 0 n n)).setIfInBounds 5 (.int .u32 (n:Nat))).setIfInBounds 1 (.int .i64 1)) 140 (0,0))
  have hp3:=QU (o:=.cells (((z140.setIfInBounds 0 (bsl H1.size 0 n n)).setIfInBounds 5 (.int .u32 (n:Nat))).setIfInBounds 1 (.int .i64 1)) 140 (0,0)) hp2
  have hq3:=(Qw (H:=H2) (b:=h.size) (b':=H1.size) (o:=.cells (((z140.setIfInBounds 0 (bsl H1.size 0 n n)).setIfInBounds 5 (.int .u32 (n:Nat))).setIfInBounds 1 (.int .i64 1)) 140 (0,0)) (by omega)).trans hq2
  have hs3:=size_setB (H:=H2) (b:=h.size) (o:=.cells (((z140.setIfInBounds 0 (bsl H1.size 0 n n)).setIfInBounds 5 (.int .u32 (n:Nat))).setIfInBounds 1 (.int .i64 1)) 140 (0,0))
  generalize setB H2 h.size (.cells (((z140.setIfInBounds 0 (bsl H1.size 0 n n)).setIfInBounds 5 (.int .u32 (n:Nat))).setIfInBounds 1 (.int .i64 1)) 140 (0,0))=H3 at *
  refine ⟨by decide,by decide,by decide,by decide,?_⟩
  have e16:(16:Int).toNat=16:=rfl
  rw[e16,mk_u32 (z:=z72) rfl]
  have hp4:(H3.push (.cells (QgW (List.replicate 16 0)) 72))[h.size]?=_:=YK hp3
  have hq4:(H3.push (.cells (QgW (List.replicate 16 0)) 72))[H1.size]?=_:=YK hq3
  have ht4:(H3.push (.cells (QgW (List.replicate 16 0)) 72))[H3.size]?=_:=Qm
  have hk4:=hk3.trans (QaC.push H3 (.cells (QgW (List.replicate 16 0)) 72))
  generalize H3.push (.cells (QgW (List.replicate 16 0)) 72)=H4 at *
  show StK H4 1 (.pointer (some ⟨h.size,4,none⟩)) (.slice (some ⟨H3.size,0,none⟩) 0 16) _
  rw[QaA hp4 (by decide:4<9) (by simp) rfl]
  refine hR _ ?_ (hk4.setB (Nat.le_refl _) _)
  refine ⟨n,Nat.zero_le _,⟨H1.size,h.size,H3.size,List.replicate n 0,n,.slice none 0 0,.slice (some ⟨H3.size,0,none⟩) 0 16,140,5,?_,by simp[Qan],by simp[Qan]⟩⟩
  refine ⟨?_,?_,Or.inl ⟨rfl,rfl,rfl⟩,⟨List.replicate 16 0,72,by simp[Qan],?_,by simp[Qan],by simp[Qan]⟩,by omega,by omega,by omega,?_,by simp,by omega⟩
  ·rw[QU hp4,List.length_replicate];rfl
  ·rw[Qw (by omega)];exact hq4
  ·rw[Qw (by omega)];exact ht4
  ·intro b o hb
   have h1:=hF b o hb
   have h2:=YQ h1
   exact ⟨by rw[Qw (by omega)];exact hk4 b o h1,by omega,by omega,by omega,by omega⟩
end Go.Proofs
namespace Go.Proofs
open Go Go.Vc
open Tryz (prog)
theorem Qc4 {x bs:List UInt8} {i:Nat}:byteN (x++bs) (x.length+i)=byteN bs i:=by
 unfold byteN
 congr 1
 simp[List.getD,List.getElem?_append_right]
theorem YC {x bs:List UInt8} {i:Nat}:le2 (x++bs) (x.length+i)=le2 bs i:=by
 unfold le2;rw[Qc4,Nat.add_assoc,Qc4]
theorem QaI {x bs:List UInt8} {i:Nat}:le4 (x++bs) (x.length+i)=le4 bs i:=by
 unfold le4;rw[YC,Nat.add_assoc,YC]
theorem le8_append {x bs:List UInt8} {i:Nat}:le8 (x++bs) (x.length+i)=le8 bs i:=by
 unfold le8;rw[QaI,Nat.add_assoc,QaI]
theorem QhM.ext {S S':BS} (h:QhM S) (hv:S'.vts=S.vts) {x:List UInt8} (hb:S'.buf=x++S.buf):QhM S':=by
 intro o ho
 rw[hv]at ho
 obtain ⟨h1,h2,h3,h4⟩:=h o ho
 have e:S'.buf.length-o=x.length+(S.buf.length-o):=by rw[hb,List.length_append];omega
 have e2:le2 S'.buf (S'.buf.length-o)=le2 S.buf (S.buf.length-o):=by rw[e,hb,YC]
 rw[e2]
 refine ⟨h1,?_,h3,h4⟩
 rw[hb,List.length_append];omega
def P2 (n:Nat):Prop:=∃k,k<=3/\n=2^k
theorem P2.max {a b:Nat} (ha:P2 a) (hb:P2 b):P2 (Nat.max a b):=by
 rcases Nat.le_total a b with h|h
 ·rw[show Nat.max a b=b from Nat.max_eq_right h];exact hb
 ·rw[show Nat.max a b=a from Nat.max_eq_left h];exact ha
theorem P2.pos {a:Nat} (ha:P2 a):0<a:=by obtain ⟨k,_,rfl⟩:=ha;exact Nat.two_pow_pos k
theorem P2.le {a:Nat} (ha:P2 a):a<=8:=by obtain ⟨k,hk,rfl⟩:=ha;exact Nat.pow_le_pow_right (by decide) hk
theorem P2_1:P2 1:=⟨0,by decide,rfl⟩
theorem P2_2:P2 2:=⟨1,by decide,rfl⟩
theorem Qhu:P2 4:=⟨2,by decide,rfl⟩
theorem Qek:P2 8:=⟨3,by decide,rfl⟩
structure Y8 (S0:BS) (n c:Nat) (S:BS):Prop where
 nested:S.nested=true
 vtl:S.vt.length=n
 oe:S.oe=S0.buf.length
 vts:S.vts=S0.vts
 ext:∃x,S.buf=x++S0.buf
 vle:∀j,S.vt.getD j 0<=S.buf.length
 len:S.buf.length<=S0.buf.length+c
 fin:S.fin=S0.fin
 min:P2 S.min
theorem Y8.start {S0:BS} {n:Nat} (hm:P2 S0.min):Y8 S0 n 0 (YJ n S0):=
 ⟨rfl,by simp[YJ],rfl,rfl,⟨[],rfl⟩,fun j=>by
  simp only[YJ,List.getD,List.getElem?_replicate]
  split<;>simp,Nat.le_refl _,rfl,hm⟩
theorem getD_set (l:List Nat) (o j x:Nat):(l.set o x).getD j 0=if o=j/\o<l.length then x else l.getD j 0:=by
 simp only[List.getD,List.getElem?_set]
 by_cases h:o=j
 ·subst h
  by_cases h2:o<l.length
  ·simp[h2]
  ·simp[h2]
 ·simp[h]
theorem Y8.mono {S0 S:BS} {n c c':Nat} (h:Y8 S0 n c S) (hc:c<=c'):Y8 S0 n c' S:={h with len:=by have:=h.len;omega}
theorem Y8.prep {S0 S:BS} {n c k a:Nat} (h:Y8 S0 n c S) (hk:P2 k):Y8 S0 n (c+7) (Vc.prep k a S):=by
 obtain ⟨x,hx⟩:=h.ext
 have hp:=Zw (size:=k) (n:=S.buf.length+a) hk.pos
 have hk8:=hk.le
 refine ⟨h.nested,h.vtl,h.oe,h.vts,⟨List.replicate (padOf k (S.buf.length+a)) 0++x,by simp[Vc.prep,place,hx]⟩,fun j=>?_,?_,h.fin,h.min.max hk⟩
 ·have:=h.vle j
  rw[Qad]
  show S.vt.getD j 0<=_
  omega
 ·rw[Qad]
  have:=h.len
  omega
theorem Y8.place {S0 S:BS} {n c:Nat} (h:Y8 S0 n c S) (xs:List UInt8):Y8 S0 n (c+xs.length) (Vc.place xs S):=by
 obtain ⟨x,hx⟩:=h.ext
 refine ⟨h.nested,h.vtl,h.oe,h.vts,⟨xs++x,by simp[Vc.place,hx]⟩,fun j=>?_,?_,h.fin,h.min⟩
 ·have:=h.vle j
  show S.vt.getD j 0<=(xs++S.buf).length
  rw[List.length_append];omega
 ·show (xs++S.buf).length<=_
  have:=h.len
  rw[List.length_append];omega
theorem Y8.slot {S0 S:BS} {n c o:Nat} (h:Y8 S0 n c S):Y8 S0 n c (Proofs.slot o S):=by
 refine ⟨h.nested,by simp[Proofs.slot,h.vtl],h.oe,h.vts,h.ext,fun j=>?_,h.len,h.fin,h.min⟩
 have:=h.vle j
 show (S.vt.set o S.buf.length).getD j 0<=S.buf.length
 rw[getD_set]
 split<;>omega
theorem Y8.putN {S0 S:BS} {n c k:Nat} {xs:List UInt8} (h:Y8 S0 n c S) (hk:P2 k) (hx:xs.length<=8):Y8 S0 n (c+15) (Proofs.putN k xs S):=
 ((h.prep (a:=0) hk).place xs).mono (by omega)
theorem Y8.putOff {S0 S:BS} {n c off:Nat} (h:Y8 S0 n c S):Y8 S0 n (c+15) (Proofs.putOff off S):=
 ((h.prep (a:=0) Qhu).place _).mono (by rw[Qc];omega)
theorem Y8.slotN {S0 S:BS} {n c k x d o:Nat} (h:Y8 S0 n c S) (hk:P2 k):Y8 S0 n (c+15) (Proofs.slotN k x d o S):=by
 unfold Proofs.slotN
 split
 ·exact h.mono (by omega)
 ·exact (h.putN hk (by rw[Qc];exact hk.le)).slot
theorem Y8.slotF {S0 S:BS} {n c x d o:Nat} (h:Y8 S0 n c S):Y8 S0 n (c+15) (Proofs.slotF x d o S):=by
 unfold Proofs.slotF
 split
 ·exact (h.putN Qhu (by rw[Qc];decide)).slot
 ·exact h.mono (by omega)
theorem Y8.slotOff {S0 S:BS} {n c off o:Nat} (h:Y8 S0 n c S):Y8 S0 n (c+15) (Proofs.slotOff off o S):=by
 unfold Proofs.slotOff
 split
 ·exact h.mono (by omega)
 ·exact h.putOff.slot
theorem Y8.slotStruct {S0 S:BS} {n c off o:Nat} (h:Y8 S0 n c S):Y8 S0 n (c+15) (Proofs.slotStruct off o S):=by
 unfold Proofs.slotStruct
 split
 ·exact h.mono (by omega)
 ·exact h.slot.mono (by omega)
theorem Y8.le {S0 S:BS} {n c:Nat} (h:Y8 S0 n c S):S0.buf.length<=S.buf.length:=by
 obtain ⟨x,hx⟩:=h.ext
 rw[hx,List.length_append];omega
theorem QcX (off:Nat) (S:BS):∃x,(putOff off S).buf=x++S.buf/\4<=x.length/\x.length<=7:=by
 have:=Zw (size:=4) (n:=S.buf.length+0) (by decide)
 refine ⟨leB (((prep 4 0 S).buf.length-off+4:Nat):Int) 4++List.replicate (padOf 4 (S.buf.length+0)) 0,by simp[putOff,place,prep],?_,?_⟩
 ·rw[List.length_append,Qc];omega
 ·rw[List.length_append,Qc,List.length_replicate];omega
theorem end_obj {H:Qf} {p:Nat} {S0 S:BS} {F:Cut} {r n c:Nat} (hB:Qd H p S F r) {R:Kn} (h:Y8 S0 n c S) (hn:n<1000) (hv:QhM S0) (hl:S0.buf.length+c+4096<=536870912) (hvl:S0.vts.length<=S0.buf.length)
  (hR:∀H',Qd H' p (endObj S) F 0->R (.int .u32 ((putOff 0 S).buf.length:Nat)) H'):
  FnS prog 314 #[.pointer (some ⟨p,0,none⟩)] H R:=by
 obtain ⟨x,hx⟩:=h.ext
 obtain ⟨y,hy,_⟩:=QcX 0 S
 have h1:=h.len
 have h2:=h.le
 refine QgT hB h.nested (by omega) (by rw[h.vtl];exact hn) h.vle (by rw[h.oe];exact h2) (by rw[h.vts];omega) ?_ hR
 exact hv.ext (S':=putOff 0 S) h.vts (x:=y++x) (by rw[hy,hx,List.append_assoc])
end Go.Proofs
namespace Go.Proofs
open Go Go.Vc
open Tryz (prog)
section
variable {H:Qf} {p:Nat} {S:BS} {F:Cut} {r:Nat} (hB:Qd H p S F r) {R:Kn}
include hB
theorem Qd6 {n:Nat} (hn:S.nested=false) (hl:S.buf.length+4*n+24<=536870912)
  (hR:∀H' v,Qd H' p (QF 4 n 2 S) F (Nat.max ((4+4*n+1)-padOf 2 ((prep 4 (4*n) {S with nested:=true}).buf.length+4*n)) (2+4*n+1))->R v H'):
  FnS prog 90 #[.pointer (some ⟨p,0,none⟩),.int .i64 (n:Nat)] H R:=by
 apply w90
 unfold Qht
 refine QI (es:=4) (al:=2) (k:=1) hB hn (by decide) (by decide) hl ?_
 intro H' h'
 exact hR H' _ h'
theorem Qat {n:Nat} (hn:S.nested=false) (hl:S.buf.length+4*n+24<=536870912)
  (hR:∀H' v,Qd H' p (QF 4 n 4 S) F (Nat.max ((4+4*n+1)-padOf 4 ((prep 4 (4*n) {S with nested:=true}).buf.length+4*n)) (4+4*n+1))->R v H'):
  FnS prog 93 #[.pointer (some ⟨p,0,none⟩),.int .i64 (n:Nat)] H R:=by
 apply w93
 unfold Qht
 refine QI (es:=4) (al:=4) (k:=2) hB hn (by decide) (by decide) hl ?_
 intro H' h'
 exact hR H' _ h'
theorem Qau {n:Nat} (hn:S.nested=false) (hl:S.buf.length+4*n+24<=536870912)
  (hR:∀H' v,Qd H' p (QF 4 n 4 S) F (Nat.max ((4+4*n+1)-padOf 4 ((prep 4 (4*n) {S with nested:=true}).buf.length+4*n)) (4+4*n+1))->R v H'):
  FnS prog 94 #[.pointer (some ⟨p,0,none⟩),.int .i64 (n:Nat)] H R:=by
 apply w94
 unfold Qht
 refine QI (es:=4) (al:=4) (k:=2) hB hn (by decide) (by decide) hl ?_
 intro H' h'
 exact hR H' _ h'
theorem QaG {n:Nat} (hn:S.nested=false) (hl:S.buf.length+1*n+24<=536870912)
  (hR:∀H' v,Qd H' p (QF 1 n 1 S) F (Nat.max ((4+1*n+1)-padOf 1 ((prep 4 (1*n) {S with nested:=true}).buf.length+1*n)) (1+1*n+1))->R v H'):
  FnS prog 96 #[.pointer (some ⟨p,0,none⟩),.int .i64 (n:Nat)] H R:=by
 apply w96
 unfold Qht
 refine QI (es:=1) (al:=1) (k:=0) hB hn (by decide) (by decide) hl ?_
 intro H' h'
 exact hR H' _ h'
theorem Qao {n:Nat} (hn:S.nested=false) (hl:S.buf.length+4*n+24<=536870912)
  (hR:∀H' v,Qd H' p (QF 4 n 4 S) F (Nat.max ((4+4*n+1)-padOf 4 ((prep 4 (4*n) {S with nested:=true}).buf.length+4*n)) (4+4*n+1))->R v H'):
  FnS prog 98 #[.pointer (some ⟨p,0,none⟩),.int .i64 (n:Nat)] H R:=by
 apply w98
 unfold Qht
 refine QI (es:=4) (al:=4) (k:=2) hB hn (by decide) (by decide) hl ?_
 intro H' h'
 exact hR H' _ h'
theorem Qa2 {n:Nat} (hn:S.nested=false) (hl:S.buf.length+8*n+24<=536870912)
  (hR:∀H' v,Qd H' p (QF 8 n 4 S) F (Nat.max ((4+8*n+1)-padOf 4 ((prep 4 (8*n) {S with nested:=true}).buf.length+8*n)) (4+8*n+1))->R v H'):
  FnS prog 99 #[.pointer (some ⟨p,0,none⟩),.int .i64 (n:Nat)] H R:=by
 apply w99
 unfold Qht
 refine QI (es:=8) (al:=4) (k:=2) hB hn (by decide) (by decide) hl ?_
 intro H' h'
 exact hR H' _ h'
theorem QcV {n:Nat} (hn:S.nested=false) (hl:S.buf.length+4*n+24<=536870912)
  (hR:∀H' v,Qd H' p (QF 4 n 2 S) F (Nat.max ((4+4*n+1)-padOf 2 ((prep 4 (4*n) {S with nested:=true}).buf.length+4*n)) (2+4*n+1))->R v H'):
  FnS prog 101 #[.pointer (some ⟨p,0,none⟩),.int .i64 (n:Nat)] H R:=by
 apply w101
 unfold Qht
 refine QI (es:=4) (al:=2) (k:=1) hB hn (by decide) (by decide) hl ?_
 intro H' h'
 exact hR H' _ h'
theorem Qb3 {n:Nat} (hn:S.nested=false) (hl:S.buf.length+8*n+24<=536870912)
  (hR:∀H' v,Qd H' p (QF 8 n 8 S) F (Nat.max ((4+8*n+1)-padOf 8 ((prep 4 (8*n) {S with nested:=true}).buf.length+8*n)) (8+8*n+1))->R v H'):
  FnS prog 102 #[.pointer (some ⟨p,0,none⟩),.int .i64 (n:Nat)] H R:=by
 apply w102
 unfold Qht
 refine QI (es:=8) (al:=8) (k:=3) hB hn (by decide) (by decide) hl ?_
 intro H' h'
 exact hR H' _ h'
theorem QaO {n:Nat} (hn:S.nested=false) (hl:S.buf.length+8*n+24<=536870912)
  (hR:∀H' v,Qd H' p (QF 8 n 8 S) F (Nat.max ((4+8*n+1)-padOf 8 ((prep 4 (8*n) {S with nested:=true}).buf.length+8*n)) (8+8*n+1))->R v H'):
  FnS prog 104 #[.pointer (some ⟨p,0,none⟩),.int .i64 (n:Nat)] H R:=by
 apply w104
 unfold Qht
 refine QI (es:=8) (al:=8) (k:=3) hB hn (by decide) (by decide) hl ?_
 intro H' h'
 exact hR H' _ h'
theorem Qah {n:Nat} (hn:S.nested=false) (hl:S.buf.length+4*n+24<=536870912)
  (hR:∀H' v,Qd H' p (QF 4 n 4 S) F (Nat.max ((4+4*n+1)-padOf 4 ((prep 4 (4*n) {S with nested:=true}).buf.length+4*n)) (4+4*n+1))->R v H'):
  FnS prog 108 #[.pointer (some ⟨p,0,none⟩),.int .i64 (n:Nat)] H R:=by
 apply w108
 unfold Qht
 refine QI (es:=4) (al:=4) (k:=2) hB hn (by decide) (by decide) hl ?_
 intro H' h'
 exact hR H' _ h'
theorem Qa6 {n:Nat} (hn:S.nested=false) (hl:S.buf.length+8*n+24<=536870912)
  (hR:∀H' v,Qd H' p (QF 8 n 8 S) F (Nat.max ((4+8*n+1)-padOf 8 ((prep 4 (8*n) {S with nested:=true}).buf.length+8*n)) (8+8*n+1))->R v H'):
  FnS prog 109 #[.pointer (some ⟨p,0,none⟩),.int .i64 (n:Nat)] H R:=by
 apply w109
 unfold Qht
 refine QI (es:=8) (al:=8) (k:=3) hB hn (by decide) (by decide) hl ?_
 intro H' h'
 exact hR H' _ h'
theorem ZQ {n:Nat} (hn:S.nested=false) (hl:S.buf.length+4*n+24<=536870912)
  (hR:∀H' v,Qd H' p (QF 4 n 4 S) F (Nat.max ((4+4*n+1)-padOf 4 ((prep 4 (4*n) {S with nested:=true}).buf.length+4*n)) (4+4*n+1))->R v H'):
  FnS prog 111 #[.pointer (some ⟨p,0,none⟩),.int .i64 (n:Nat)] H R:=by
 apply w111
 unfold Qht
 refine QI (es:=4) (al:=4) (k:=2) hB hn (by decide) (by decide) hl ?_
 intro H' h'
 exact hR H' _ h'
theorem ZO {n:Nat} (hn:S.nested=false) (hl:S.buf.length+8*n+24<=536870912)
  (hR:∀H' v,Qd H' p (QF 8 n 8 S) F (Nat.max ((4+8*n+1)-padOf 8 ((prep 4 (8*n) {S with nested:=true}).buf.length+8*n)) (8+8*n+1))->R v H'):
  FnS prog 112 #[.pointer (some ⟨p,0,none⟩),.int .i64 (n:Nat)] H R:=by
 apply w112
 unfold Qht
 refine QI (es:=8) (al:=8) (k:=3) hB hn (by decide) (by decide) hl ?_
 intro H' h'
 exact hR H' _ h'
theorem ZJ {n:Nat} (hn:S.nested=false) (hl:S.buf.length+8*n+24<=536870912)
  (hR:∀H' v,Qd H' p (QF 8 n 8 S) F (Nat.max ((4+8*n+1)-padOf 8 ((prep 4 (8*n) {S with nested:=true}).buf.length+8*n)) (8+8*n+1))->R v H'):
  FnS prog 113 #[.pointer (some ⟨p,0,none⟩),.int .i64 (n:Nat)] H R:=by
 apply w113
 unfold Qht
 refine QI (es:=8) (al:=8) (k:=3) hB hn (by decide) (by decide) hl ?_
 intro H' h'
 exact hR H' _ h'
theorem Qb5 {n:Nat} (hn:S.nested=false) (hl:S.buf.length+1*n+24<=536870912)
  (hR:∀H' v,Qd H' p (QF 1 n 1 S) F (Nat.max ((4+1*n+1)-padOf 1 ((prep 4 (1*n) {S with nested:=true}).buf.length+1*n)) (1+1*n+1))->R v H'):
  FnS prog 116 #[.pointer (some ⟨p,0,none⟩),.int .i64 (n:Nat)] H R:=by
 apply w116
 unfold Qht
 refine QI (es:=1) (al:=1) (k:=0) hB hn (by decide) (by decide) hl ?_
 intro H' h'
 exact hR H' _ h'
theorem QgM (hn:S.nested=false) (hR:∀H',Qd H' p (YJ 49 S) F r->R (.tuple #[]) H'):FnS prog 118 #[.pointer (some ⟨p,0,none⟩)] H R:=by
 apply w118
 unfold tp118
 exact Zy (n:=49) hB hn (by decide) hR
theorem Qdg {off:Nat} (hn:S.nested=true) (hoff:off=0\/off=S.buf.length) (ho:0<S.vt.length) (hR:∀H',Qd H' p (slotStruct off 0 S) F 0->R (.tuple #[]) H'):FnS prog 120 #[.pointer (some ⟨p,0,none⟩),.int .u32 (off:Int)] H R:=by
 apply w120
 unfold Yq
 exact Qdx (o:=0) hB hn hoff ho hR
theorem QfL {x:Nat} (hx:x<65536) (ho:1<S.vt.length) (hl:S.buf.length+16<=536870912) (hR:∀H',Qd H' p (slotN 2 x 150 1 S) F 0->R (.tuple #[]) H'):FnS prog 121 #[.pointer (some ⟨p,0,none⟩),.int .i16 (IntKind.i16.wrap (x:Int))] H R:=by
 apply w121
 unfold Yq
 exact Qb0 (o:=1) (d:=150) hB hx (by decide) ho hl hR
theorem QgN {x:Nat} (hx:x<65536) (ho:2<S.vt.length) (hl:S.buf.length+16<=536870912) (hR:∀H',Qd H' p (slotN 2 x 100 2 S) F 0->R (.tuple #[]) H'):FnS prog 122 #[.pointer (some ⟨p,0,none⟩),.int .i16 (IntKind.i16.wrap (x:Int))] H R:=by
 apply w122
 unfold Yq
 exact Qb0 (o:=2) (d:=100) hB hx (by decide) ho hl hR
theorem QfH {off:Nat} (hoff:off<=S.buf.length) (ho:3<S.vt.length) (hl:S.buf.length+16<=536870912) (hR:∀H',Qd H' p (slotOff off 3 S) F 0->R (.tuple #[]) H'):FnS prog 123 #[.pointer (some ⟨p,0,none⟩),.int .u32 (off:Int)] H R:=by
 apply w123
 unfold Yq
 exact Qn (o:=3) hB hoff ho hl hR
theorem Qe1 {off:Nat} (hoff:off<=S.buf.length) (ho:5<S.vt.length) (hl:S.buf.length+16<=536870912) (hR:∀H',Qd H' p (slotOff off 5 S) F 0->R (.tuple #[]) H'):FnS prog 124 #[.pointer (some ⟨p,0,none⟩),.int .u32 (off:Int)] H R:=by
 apply w124
 unfold Yq
 exact Qn (o:=5) hB hoff ho hl hR
theorem Qfu {x:Nat} (hx:x<256) (ho:6<S.vt.length) (hl:S.buf.length+16<=536870912) (hR:∀H',Qd H' p (slotN 1 x 8 6 S) F 0->R (.tuple #[]) H'):FnS prog 125 #[.pointer (some ⟨p,0,none⟩),.int .u8 (x:Int)] H R:=by
 apply w125
 unfold Yq
 exact YB (o:=6) (d:=8) hB hx (by decide) ho hl hR
theorem Qec {x:Nat} (hx:x<256) (ho:7<S.vt.length) (hl:S.buf.length+16<=536870912) (hR:∀H',Qd H' p (slotN 1 x 0 7 S) F 0->R (.tuple #[]) H'):FnS prog 126 #[.pointer (some ⟨p,0,none⟩),.int .u8 (x:Int)] H R:=by
 apply w126
 unfold Yq
 exact YB (o:=7) (d:=0) hB hx (by decide) ho hl hR
theorem QfM {off:Nat} (hoff:off<=S.buf.length) (ho:8<S.vt.length) (hl:S.buf.length+16<=536870912) (hR:∀H',Qd H' p (slotOff off 8 S) F 0->R (.tuple #[]) H'):FnS prog 127 #[.pointer (some ⟨p,0,none⟩),.int .u32 (off:Int)] H R:=by
 apply w127
 unfold Yq
 exact Qn (o:=8) hB hoff ho hl hR
theorem Qfd {off:Nat} (hoff:off<=S.buf.length) (ho:9<S.vt.length) (hl:S.buf.length+16<=536870912) (hR:∀H',Qd H' p (slotOff off 9 S) F 0->R (.tuple #[]) H'):FnS prog 128 #[.pointer (some ⟨p,0,none⟩),.int .u32 (off:Int)] H R:=by
 apply w128
 unfold Yq
 exact Qn (o:=9) hB hoff ho hl hR
theorem QbQ {off:Nat} (hoff:off<=S.buf.length) (ho:10<S.vt.length) (hl:S.buf.length+16<=536870912) (hR:∀H',Qd H' p (slotOff off 10 S) F 0->R (.tuple #[]) H'):FnS prog 129 #[.pointer (some ⟨p,0,none⟩),.int .u32 (off:Int)] H R:=by
 apply w129
 unfold Yq
 exact Qn (o:=10) hB hoff ho hl hR
theorem QbT {off:Nat} (hoff:off<=S.buf.length) (ho:11<S.vt.length) (hl:S.buf.length+16<=536870912) (hR:∀H',Qd H' p (slotOff off 11 S) F 0->R (.tuple #[]) H'):FnS prog 130 #[.pointer (some ⟨p,0,none⟩),.int .u32 (off:Int)] H R:=by
 apply w130
 unfold Yq
 exact Qn (o:=11) hB hoff ho hl hR
theorem Qf6 {off:Nat} (hoff:off<=S.buf.length) (ho:12<S.vt.length) (hl:S.buf.length+16<=536870912) (hR:∀H',Qd H' p (slotOff off 12 S) F 0->R (.tuple #[]) H'):FnS prog 131 #[.pointer (some ⟨p,0,none⟩),.int .u32 (off:Int)] H R:=by
 apply w131
 unfold Yq
 exact Qn (o:=12) hB hoff ho hl hR
theorem Qbg {off:Nat} (hoff:off<=S.buf.length) (ho:13<S.vt.length) (hl:S.buf.length+16<=536870912) (hR:∀H',Qd H' p (slotOff off 13 S) F 0->R (.tuple #[]) H'):FnS prog 132 #[.pointer (some ⟨p,0,none⟩),.int .u32 (off:Int)] H R:=by
 apply w132
 unfold Yq
 exact Qn (o:=13) hB hoff ho hl hR
theorem Qe3 {off:Nat} (hoff:off<=S.buf.length) (ho:14<S.vt.length) (hl:S.buf.length+16<=536870912) (hR:∀H',Qd H' p (slotOff off 14 S) F 0->R (.tuple #[]) H'):FnS prog 133 #[.pointer (some ⟨p,0,none⟩),.int .u32 (off:Int)] H R:=by
 apply w133
 unfold Yq
 exact Qn (o:=14) hB hoff ho hl hR
theorem Qea {x:Bool} (ho:15<S.vt.length) (hl:S.buf.length+16<=536870912) (hR:∀H',Qd H' p (slotN 1 (if x then 1 else 0) 0 15 S) F 0->R (.tuple #[]) H'):FnS prog 134 #[.pointer (some ⟨p,0,none⟩),.bool x] H R:=by
 apply w134
 unfold s134
 exact Qef (o:=15) hB ho hl hR
theorem Qcp {x:Nat} (hx:x<4294967296) (ho:16<S.vt.length) (hl:S.buf.length+16<=536870912) (hR:∀H',Qd H' p (slotN 4 x 0 16 S) F 0->R (.tuple #[]) H'):FnS prog 135 #[.pointer (some ⟨p,0,none⟩),.int .i32 (IntKind.i32.wrap (x:Int))] H R:=by
 apply w135
 unfold Yq
 exact QaV (o:=16) (d:=0) hB hx (by decide) ho hl hR
theorem QcG {x:Nat} (hx:x<4294967296) (ho:17<S.vt.length) (hl:S.buf.length+16<=536870912) (hR:∀H',Qd H' p (slotN 4 x 0 17 S) F 0->R (.tuple #[]) H'):FnS prog 136 #[.pointer (some ⟨p,0,none⟩),.int .u32 (x:Int)] H R:=by
 apply w136
 unfold Yq
 exact QaP (o:=17) (d:=0) hB hx (by decide) ho hl hR
theorem Qcw {x:Nat} (hx:x<18446744073709551616) (ho:18<S.vt.length) (hl:S.buf.length+16<=536870912) (hR:∀H',Qd H' p (slotN 8 x 0 18 S) F 0->R (.tuple #[]) H'):FnS prog 137 #[.pointer (some ⟨p,0,none⟩),.int .i64 (IntKind.i64.wrap (x:Int))] H R:=by
 apply w137
 unfold Yq
 exact ZS (o:=18) (d:=0) hB hx (by decide) ho hl hR
theorem Qcu {x:Nat} (hx:x<18446744073709551616) (ho:19<S.vt.length) (hl:S.buf.length+16<=536870912) (hR:∀H',Qd H' p (slotN 8 x 0 19 S) F 0->R (.tuple #[]) H'):FnS prog 138 #[.pointer (some ⟨p,0,none⟩),.int .u64 (x:Int)] H R:=by
 apply w138
 unfold Yq
 exact Y0 (o:=19) (d:=0) hB hx (by decide) ho hl hR
theorem Qc7 {x:Nat} (hx:x<4294967296) (ho:20<S.vt.length) (hl:S.buf.length+16<=536870912) (hR:∀H',Qd H' p (slotN 4 x 0 20 S) F 0->R (.tuple #[]) H'):FnS prog 139 #[.pointer (some ⟨p,0,none⟩),.int .i32 (IntKind.i32.wrap (x:Int))] H R:=by
 apply w139
 unfold Yq
 exact QaV (o:=20) (d:=0) hB hx (by decide) ho hl hR
theorem Qc8 {x:Nat} (hx:x<4294967296) (ho:21<S.vt.length) (hl:S.buf.length+16<=536870912) (hR:∀H',Qd H' p (slotN 4 x 0 21 S) F 0->R (.tuple #[]) H'):FnS prog 140 #[.pointer (some ⟨p,0,none⟩),.int .u32 (x:Int)] H R:=by
 apply w140
 unfold Yq
 exact QaP (o:=21) (d:=0) hB hx (by decide) ho hl hR
theorem Qc6 {x:Nat} (hx:x<18446744073709551616) (ho:22<S.vt.length) (hl:S.buf.length+16<=536870912) (hR:∀H',Qd H' p (slotN 8 x 0 22 S) F 0->R (.tuple #[]) H'):FnS prog 141 #[.pointer (some ⟨p,0,none⟩),.int .i64 (IntKind.i64.wrap (x:Int))] H R:=by
 apply w141
 unfold Yq
 exact ZS (o:=22) (d:=0) hB hx (by decide) ho hl hR
theorem Qca {x:Nat} (hx:x<18446744073709551616) (ho:23<S.vt.length) (hl:S.buf.length+16<=536870912) (hR:∀H',Qd H' p (slotN 8 x 0 23 S) F 0->R (.tuple #[]) H'):FnS prog 142 #[.pointer (some ⟨p,0,none⟩),.int .u64 (x:Int)] H R:=by
 apply w142
 unfold Yq
 exact Y0 (o:=23) (d:=0) hB hx (by decide) ho hl hR
theorem Qc9 {off:Nat} (hoff:off<=S.buf.length) (ho:24<S.vt.length) (hl:S.buf.length+16<=536870912) (hR:∀H',Qd H' p (slotOff off 24 S) F 0->R (.tuple #[]) H'):FnS prog 143 #[.pointer (some ⟨p,0,none⟩),.int .u32 (off:Int)] H R:=by
 apply w143
 unfold Yq
 exact Qn (o:=24) hB hoff ho hl hR
theorem Qf4 {x:Nat} (ho:25<S.vt.length) (hl:S.buf.length+16<=536870912) (hR:∀H',Qd H' p (slotF x 1078530000 25 S) F 0->R (.tuple #[]) H'):FnS prog 144 #[.pointer (some ⟨p,0,none⟩),.float .f32 x] H R:=by
 apply w144
 unfold s144
 exact ZA (o:=25) hB ho hl hR
theorem QeJ {x:Nat} (ho:26<S.vt.length) (hl:S.buf.length+16<=536870912) (hR:∀H',Qd H' p (slotF x 1077936128 26 S) F 0->R (.tuple #[]) H'):FnS prog 145 #[.pointer (some ⟨p,0,none⟩),.float .f32 x] H R:=by
 apply w145
 unfold s145
 exact ZA (o:=26) hB ho hl hR
theorem QeZ {x:Nat} (ho:27<S.vt.length) (hl:S.buf.length+16<=536870912) (hR:∀H',Qd H' p (slotF x 0 27 S) F 0->R (.tuple #[]) H'):FnS prog 146 #[.pointer (some ⟨p,0,none⟩),.float .f32 x] H R:=by
 apply w146
 unfold s146
 exact ZA (o:=27) hB ho hl hR
theorem QbA {off:Nat} (hoff:off<=S.buf.length) (ho:28<S.vt.length) (hl:S.buf.length+16<=536870912) (hR:∀H',Qd H' p (slotOff off 28 S) F 0->R (.tuple #[]) H'):FnS prog 147 #[.pointer (some ⟨p,0,none⟩),.int .u32 (off:Int)] H R:=by
 apply w147
 unfold Yq
 exact Qn (o:=28) hB hoff ho hl hR
theorem QaL {off:Nat} (hoff:off<=S.buf.length) (ho:29<S.vt.length) (hl:S.buf.length+16<=536870912) (hR:∀H',Qd H' p (slotOff off 29 S) F 0->R (.tuple #[]) H'):FnS prog 148 #[.pointer (some ⟨p,0,none⟩),.int .u32 (off:Int)] H R:=by
 apply w148
 unfold Yq
 exact Qn (o:=29) hB hoff ho hl hR
theorem QfO {off:Nat} (hoff:off<=S.buf.length) (ho:30<S.vt.length) (hl:S.buf.length+16<=536870912) (hR:∀H',Qd H' p (slotOff off 30 S) F 0->R (.tuple #[]) H'):FnS prog 149 #[.pointer (some ⟨p,0,none⟩),.int .u32 (off:Int)] H R:=by
 apply w149
 unfold Yq
 exact Qn (o:=30) hB hoff ho hl hR
theorem Qfo {off:Nat} (hoff:off<=S.buf.length) (ho:31<S.vt.length) (hl:S.buf.length+16<=536870912) (hR:∀H',Qd H' p (slotOff off 31 S) F 0->R (.tuple #[]) H'):FnS prog 150 #[.pointer (some ⟨p,0,none⟩),.int .u32 (off:Int)] H R:=by
 apply w150
 unfold Yq
 exact Qn (o:=31) hB hoff ho hl hR
theorem Qd1 {off:Nat} (hoff:off<=S.buf.length) (ho:32<S.vt.length) (hl:S.buf.length+16<=536870912) (hR:∀H',Qd H' p (slotOff off 32 S) F 0->R (.tuple #[]) H'):FnS prog 151 #[.pointer (some ⟨p,0,none⟩),.int .u32 (off:Int)] H R:=by
 apply w151
 unfold Yq
 exact Qn (o:=32) hB hoff ho hl hR
theorem Qcf {off:Nat} (hoff:off<=S.buf.length) (ho:33<S.vt.length) (hl:S.buf.length+16<=536870912) (hR:∀H',Qd H' p (slotOff off 33 S) F 0->R (.tuple #[]) H'):FnS prog 152 #[.pointer (some ⟨p,0,none⟩),.int .u32 (off:Int)] H R:=by
 apply w152
 unfold Yq
 exact Qn (o:=33) hB hoff ho hl hR
theorem Qbv {off:Nat} (hoff:off<=S.buf.length) (ho:34<S.vt.length) (hl:S.buf.length+16<=536870912) (hR:∀H',Qd H' p (slotOff off 34 S) F 0->R (.tuple #[]) H'):FnS prog 153 #[.pointer (some ⟨p,0,none⟩),.int .u32 (off:Int)] H R:=by
 apply w153
 unfold Yq
 exact Qn (o:=34) hB hoff ho hl hR
theorem Qbs {off:Nat} (hoff:off<=S.buf.length) (ho:35<S.vt.length) (hl:S.buf.length+16<=536870912) (hR:∀H',Qd H' p (slotOff off 35 S) F 0->R (.tuple #[]) H'):FnS prog 154 #[.pointer (some ⟨p,0,none⟩),.int .u32 (off:Int)] H R:=by
 apply w154
 unfold Yq
 exact Qn (o:=35) hB hoff ho hl hR
theorem Qbt {x:Nat} (hx:x<18446744073709551616) (ho:36<S.vt.length) (hl:S.buf.length+16<=536870912) (hR:∀H',Qd H' p (slotN 8 x 0 36 S) F 0->R (.tuple #[]) H'):FnS prog 155 #[.pointer (some ⟨p,0,none⟩),.int .u64 (x:Int)] H R:=by
 apply w155
 unfold Yq
 exact Y0 (o:=36) (d:=0) hB hx (by decide) ho hl hR
theorem QaU {off:Nat} (hoff:off<=S.buf.length) (ho:37<S.vt.length) (hl:S.buf.length+16<=536870912) (hR:∀H',Qd H' p (slotOff off 37 S) F 0->R (.tuple #[]) H'):FnS prog 156 #[.pointer (some ⟨p,0,none⟩),.int .u32 (off:Int)] H R:=by
 apply w156
 unfold Yq
 exact Qn (o:=37) hB hoff ho hl hR
theorem Qay {off:Nat} (hoff:off<=S.buf.length) (ho:38<S.vt.length) (hl:S.buf.length+16<=536870912) (hR:∀H',Qd H' p (slotOff off 38 S) F 0->R (.tuple #[]) H'):FnS prog 157 #[.pointer (some ⟨p,0,none⟩),.int .u32 (off:Int)] H R:=by
 apply w157
 unfold Yq
 exact Qn (o:=38) hB hoff ho hl hR
theorem QbU {x:Nat} (hx:x<18446744073709551616) (ho:39<S.vt.length) (hl:S.buf.length+16<=536870912) (hR:∀H',Qd H' p (slotN 8 x 0 39 S) F 0->R (.tuple #[]) H'):FnS prog 158 #[.pointer (some ⟨p,0,none⟩),.int .u64 (x:Int)] H R:=by
 apply w158
 unfold Yq
 exact Y0 (o:=39) (d:=0) hB hx (by decide) ho hl hR
theorem Qam {off:Nat} (hoff:off<=S.buf.length) (ho:40<S.vt.length) (hl:S.buf.length+16<=536870912) (hR:∀H',Qd H' p (slotOff off 40 S) F 0->R (.tuple #[]) H'):FnS prog 159 #[.pointer (some ⟨p,0,none⟩),.int .u32 (off:Int)] H R:=by
 apply w159
 unfold Yq
 exact Qn (o:=40) hB hoff ho hl hR
theorem QbK {x:Nat} (hx:x<18446744073709551616) (ho:41<S.vt.length) (hl:S.buf.length+16<=536870912) (hR:∀H',Qd H' p (slotN 8 x 0 41 S) F 0->R (.tuple #[]) H'):FnS prog 160 #[.pointer (some ⟨p,0,none⟩),.int .u64 (x:Int)] H R:=by
 apply w160
 unfold Yq
 exact Y0 (o:=41) (d:=0) hB hx (by decide) ho hl hR
theorem Qak {off:Nat} (hoff:off<=S.buf.length) (ho:42<S.vt.length) (hl:S.buf.length+16<=536870912) (hR:∀H',Qd H' p (slotOff off 42 S) F 0->R (.tuple #[]) H'):FnS prog 161 #[.pointer (some ⟨p,0,none⟩),.int .u32 (off:Int)] H R:=by
 apply w161
 unfold Yq
 exact Qn (o:=42) hB hoff ho hl hR
theorem QcU {x:Nat} (hx:x<256) (ho:43<S.vt.length) (hl:S.buf.length+16<=536870912) (hR:∀H',Qd H' p (slotN 1 x 0 43 S) F 0->R (.tuple #[]) H'):FnS prog 162 #[.pointer (some ⟨p,0,none⟩),.int .u8 (x:Int)] H R:=by
 apply w162
 unfold Yq
 exact YB (o:=43) (d:=0) hB hx (by decide) ho hl hR
theorem QdY {off:Nat} (hoff:off<=S.buf.length) (ho:44<S.vt.length) (hl:S.buf.length+16<=536870912) (hR:∀H',Qd H' p (slotOff off 44 S) F 0->R (.tuple #[]) H'):FnS prog 163 #[.pointer (some ⟨p,0,none⟩),.int .u32 (off:Int)] H R:=by
 apply w163
 unfold Yq
 exact Qn (o:=44) hB hoff ho hl hR
theorem Qcc {x:Nat} (hx:x<256) (ho:45<S.vt.length) (hl:S.buf.length+16<=536870912) (hR:∀H',Qd H' p (slotN 1 x 0 45 S) F 0->R (.tuple #[]) H'):FnS prog 164 #[.pointer (some ⟨p,0,none⟩),.int .u8 (x:Int)] H R:=by
 apply w164
 unfold Yq
 exact YB (o:=45) (d:=0) hB hx (by decide) ho hl hR
theorem Qdi {off:Nat} (hoff:off<=S.buf.length) (ho:46<S.vt.length) (hl:S.buf.length+16<=536870912) (hR:∀H',Qd H' p (slotOff off 46 S) F 0->R (.tuple #[]) H'):FnS prog 165 #[.pointer (some ⟨p,0,none⟩),.int .u32 (off:Int)] H R:=by
 apply w165
 unfold Yq
 exact Qn (o:=46) hB hoff ho hl hR
theorem QcR {off:Nat} (hoff:off<=S.buf.length) (ho:47<S.vt.length) (hl:S.buf.length+16<=536870912) (hR:∀H',Qd H' p (slotOff off 47 S) F 0->R (.tuple #[]) H'):FnS prog 166 #[.pointer (some ⟨p,0,none⟩),.int .u32 (off:Int)] H R:=by
 apply w166
 unfold Yq
 exact Qn (o:=47) hB hoff ho hl hR
theorem Qdy {x:Nat} (hx:x<256) (ho:48<S.vt.length) (hl:S.buf.length+16<=536870912) (hR:∀H',Qd H' p (slotN 1 x 255 48 S) F 0->R (.tuple #[]) H'):FnS prog 167 #[.pointer (some ⟨p,0,none⟩),.int .i8 (IntKind.i8.wrap (x:Int))] H R:=by
 apply w167
 unfold Yq
 exact Qeb (o:=48) (d:=255) hB hx (by decide) ho hl hR
theorem QhR {S0:BS} {n c:Nat} (h:Y8 S0 n c S) (hn:n<1000) (hv:QhM S0) (hl:S0.buf.length+c+4096<=536870912) (hvl:S0.vts.length<=S0.buf.length)
  (hR:∀H',Qd H' p (endObj S) F 0->R (.int .u32 ((putOff 0 S).buf.length:Nat)) H'):FnS prog 168 #[.pointer (some ⟨p,0,none⟩)] H R:=by
 apply w168
 unfold Qge
 exact end_obj hB h hn hv hl hvl hR
theorem Qio (hn:S.nested=false) (hR:∀H',Qd H' p (YJ 3 S) F r->R (.tuple #[]) H'):FnS prog 286 #[.pointer (some ⟨p,0,none⟩)] H R:=by
 apply w286
 unfold tp118
 exact Zy (n:=3) hB hn (by decide) hR
theorem QiE {off:Nat} (hoff:off<=S.buf.length) (ho:0<S.vt.length) (hl:S.buf.length+16<=536870912) (hR:∀H',Qd H' p (slotOff off 0 S) F 0->R (.tuple #[]) H'):FnS prog 287 #[.pointer (some ⟨p,0,none⟩),.int .u32 (off:Int)] H R:=by
 apply w287
 unfold Yq
 exact Qn (o:=0) hB hoff ho hl hR
theorem QhZ {x:Nat} (hx:x<18446744073709551616) (ho:1<S.vt.length) (hl:S.buf.length+16<=536870912) (hR:∀H',Qd H' p (slotN 8 x 0 1 S) F 0->R (.tuple #[]) H'):FnS prog 288 #[.pointer (some ⟨p,0,none⟩),.int .i64 (IntKind.i64.wrap (x:Int))] H R:=by
 apply w288
 unfold Yq
 exact ZS (o:=1) (d:=0) hB hx (by decide) ho hl hR
theorem QgS {x:Nat} (hx:x<65536) (ho:2<S.vt.length) (hl:S.buf.length+16<=536870912) (hR:∀H',Qd H' p (slotN 2 x 0 2 S) F 0->R (.tuple #[]) H'):FnS prog 289 #[.pointer (some ⟨p,0,none⟩),.int .u16 (x:Int)] H R:=by
 apply w289
 unfold Yq
 exact QdD (o:=2) (d:=0) hB hx (by decide) ho hl hR
theorem Example_StatEnd {S0:BS} {n c:Nat} (h:Y8 S0 n c S) (hn:n<1000) (hv:QhM S0) (hl:S0.buf.length+c+4096<=536870912) (hvl:S0.vts.length<=S0.buf.length)
  (hR:∀H',Qd H' p (endObj S) F 0->R (.int .u32 ((putOff 0 S).buf.length:Nat)) H'):FnS prog 290 #[.pointer (some ⟨p,0,none⟩)] H R:=by
 apply w290
 unfold Qge
 exact end_obj hB h hn hv hl hvl hR
theorem Qdo (hn:S.nested=false) (hR:∀H',Qd H' p (YJ 0 S) F r->R (.tuple #[]) H'):FnS prog 295 #[.pointer (some ⟨p,0,none⟩)] H R:=by
 apply w295
 unfold tp118
 exact Zy (n:=0) hB hn (by decide) hR
theorem QdV {S0:BS} {n c:Nat} (h:Y8 S0 n c S) (hn:n<1000) (hv:QhM S0) (hl:S0.buf.length+c+4096<=536870912) (hvl:S0.vts.length<=S0.buf.length)
  (hR:∀H',Qd H' p (endObj S) F 0->R (.int .u32 ((putOff 0 S).buf.length:Nat)) H'):FnS prog 296 #[.pointer (some ⟨p,0,none⟩)] H R:=by
 apply w296
 unfold Qge
 exact end_obj hB h hn hv hl hvl hR
theorem Qf5 (hn:S.nested=false) (hR:∀H',Qd H' p (YJ 1 S) F r->R (.tuple #[]) H'):FnS prog 297 #[.pointer (some ⟨p,0,none⟩)] H R:=by
 apply w297
 unfold tp118
 exact Zy (n:=1) hB hn (by decide) hR
theorem Qfs {x:Nat} (hx:x<18446744073709551616) (ho:0<S.vt.length) (hl:S.buf.length+16<=536870912) (hR:∀H',Qd H' p (slotN 8 x 0 0 S) F 0->R (.tuple #[]) H'):FnS prog 298 #[.pointer (some ⟨p,0,none⟩),.int .u64 (x:Int)] H R:=by
 apply w298
 unfold Yq
 exact Y0 (o:=0) (d:=0) hB hx (by decide) ho hl hR
theorem QfV {S0:BS} {n c:Nat} (h:Y8 S0 n c S) (hn:n<1000) (hv:QhM S0) (hl:S0.buf.length+c+4096<=536870912) (hvl:S0.vts.length<=S0.buf.length)
  (hR:∀H',Qd H' p (endObj S) F 0->R (.int .u32 ((putOff 0 S).buf.length:Nat)) H'):FnS prog 299 #[.pointer (some ⟨p,0,none⟩)] H R:=by
 apply w299
 unfold Qge
 exact end_obj hB h hn hv hl hvl hR
theorem QbG (hn:S.nested=false) (hR:∀H',Qd H' p (YJ 1 S) F r->R (.tuple #[]) H'):FnS prog 353 #[.pointer (some ⟨p,0,none⟩)] H R:=by
 apply w353
 unfold tp118
 exact Zy (n:=1) hB hn (by decide) hR
theorem Qb4 {x:Nat} (hx:x<256) (ho:0<S.vt.length) (hl:S.buf.length+16<=536870912) (hR:∀H',Qd H' p (slotN 1 x 2 0 S) F 0->R (.tuple #[]) H'):FnS prog 354 #[.pointer (some ⟨p,0,none⟩),.int .u8 (x:Int)] H R:=by
 apply w354
 unfold Yq
 exact YB (o:=0) (d:=2) hB hx (by decide) ho hl hR
theorem Qcd {S0:BS} {n c:Nat} (h:Y8 S0 n c S) (hn:n<1000) (hv:QhM S0) (hl:S0.buf.length+c+4096<=536870912) (hvl:S0.vts.length<=S0.buf.length)
  (hR:∀H',Qd H' p (endObj S) F 0->R (.int .u32 ((putOff 0 S).buf.length:Nat)) H'):FnS prog 355 #[.pointer (some ⟨p,0,none⟩)] H R:=by
 apply w355
 unfold Qge
 exact end_obj hB h hn hv hl hvl hR
omit hB in
theorem QdQ {k a:Nat} {S:BS} (h:(S.buf.length+a)%k=0) (hm:k<=S.min):prep k a S=S:=by
 unfold prep
 rw[YZ h,show Nat.max S.min k=S.min from Nat.max_eq_left hm]
 rfl
theorem al_Byte {b:UInt8} (ha:S.buf.length%1=0) (hm:1<=S.min) (hl:S.buf.length+16<=536870912) (hR:∀H',Qd H' p (place [b] S) F (r-1)->R (.tuple #[]) H'):FnS prog 117 #[.pointer (some ⟨p,0,none⟩),.int .u8 (b.toNat:Int)] H R:=by
 refine QcN hB hl ?_
 intro H' h'
 have e:putN 1 [b] S=place [b] S:=by unfold putN;rw[QdQ (by simpa using ha) hm]
 rw[e,YZ ha]at h'
 refine hR H' (h'.room ?_)
 have:r-0<=Nat.max (r-0) (1+1):=Nat.le_max_left _ _
 generalize Nat.max (r-0) (1+1)=z at *
 omega
theorem al_Bool {b:Bool} (ha:S.buf.length%1=0) (hm:1<=S.min) (hl:S.buf.length+16<=536870912) (hR:∀H',Qd H' p (place [if b then 1 else 0] S) F (r-1)->R (.tuple #[]) H'):FnS prog 97 #[.pointer (some ⟨p,0,none⟩),.bool b] H R:=by
 refine QfN hB hl ?_
 intro H' h'
 have e:putN 1 [if b then 1 else 0] S=place [if b then 1 else 0] S:=by unfold putN;rw[QdQ (by simpa using ha) hm]
 rw[e,YZ ha]at h'
 refine hR H' (h'.room ?_)
 have:r-0<=Nat.max (r-0) (1+1):=Nat.le_max_left _ _
 generalize Nat.max (r-0) (1+1)=z at *
 omega
theorem al_Int8 {x:Int} (ha:S.buf.length%1=0) (hm:1<=S.min) (hl:S.buf.length+16<=536870912) (hR:∀H',Qd H' p (place (leB x 1) S) F (r-1)->R (.tuple #[]) H'):FnS prog 358 #[.pointer (some ⟨p,0,none⟩),.int .i8 x] H R:=by
 refine QcL hB hl ?_
 intro H' h'
 have e:putN 1 (leB x 1) S=place (leB x 1) S:=by unfold putN;rw[QdQ (by simpa using ha) hm]
 rw[e,YZ ha]at h'
 refine hR H' (h'.room ?_)
 have:r-0<=Nat.max (r-0) (1+1):=Nat.le_max_left _ _
 generalize Nat.max (r-0) (1+1)=z at *
 omega
theorem al_Int16 {x:Int} (ha:S.buf.length%2=0) (hm:2<=S.min) (hl:S.buf.length+16<=536870912) (hR:∀H',Qd H' p (place (leB x 2) S) F (r-2)->R (.tuple #[]) H'):FnS prog 359 #[.pointer (some ⟨p,0,none⟩),.int .i16 x] H R:=by
 refine QcD hB hl ?_
 intro H' h'
 have e:putN 2 (leB x 2) S=place (leB x 2) S:=by unfold putN;rw[QdQ (by simpa using ha) hm]
 rw[e,YZ ha]at h'
 refine hR H' (h'.room ?_)
 have:r-0<=Nat.max (r-0) (2+1):=Nat.le_max_left _ _
 generalize Nat.max (r-0) (2+1)=z at *
 omega
theorem al_Uint32 {x:Int} (ha:S.buf.length%4=0) (hm:4<=S.min) (hl:S.buf.length+16<=536870912) (hR:∀H',Qd H' p (place (leB x 4) S) F (r-4)->R (.tuple #[]) H'):FnS prog 362 #[.pointer (some ⟨p,0,none⟩),.int .u32 x] H R:=by
 refine QbZ hB hl ?_
 intro H' h'
 have e:putN 4 (leB x 4) S=place (leB x 4) S:=by unfold putN;rw[QdQ (by simpa using ha) hm]
 rw[e,YZ ha]at h'
 refine hR H' (h'.room ?_)
 have:r-0<=Nat.max (r-0) (4+1):=Nat.le_max_left _ _
 generalize Nat.max (r-0) (4+1)=z at *
 omega
theorem Qi5 {x:Nat} (ha:S.buf.length%4=0) (hm:4<=S.min) (hl:S.buf.length+16<=536870912) (hR:∀H',Qd H' p (place (leB x 4) S) F (r-4)->R (.tuple #[]) H'):FnS prog 366 #[.pointer (some ⟨p,0,none⟩),.float .f32 x] H R:=by
 refine QbJ hB hl ?_
 intro H' h'
 have e:putN 4 (leB x 4) S=place (leB x 4) S:=by unfold putN;rw[QdQ (by simpa using ha) hm]
 rw[e,YZ ha]at h'
 refine hR H' (h'.room ?_)
 have:r-0<=Nat.max (r-0) (4+1):=Nat.le_max_left _ _
 generalize Nat.max (r-0) (4+1)=z at *
 omega
theorem al_Int64 {x:Int} (ha:S.buf.length%8=0) (hm:8<=S.min) (hl:S.buf.length+16<=536870912) (hR:∀H',Qd H' p (place (leB x 8) S) F (r-8)->R (.tuple #[]) H'):FnS prog 103 #[.pointer (some ⟨p,0,none⟩),.int .i64 x] H R:=by
 refine Qci hB hl ?_
 intro H' h'
 have e:putN 8 (leB x 8) S=place (leB x 8) S:=by unfold putN;rw[QdQ (by simpa using ha) hm]
 rw[e,YZ ha]at h'
 refine hR H' (h'.room ?_)
 have:r-0<=Nat.max (r-0) (8+1):=Nat.le_max_left _ _
 generalize Nat.max (r-0) (8+1)=z at *
 omega
theorem al_Uint64 {x:Int} (ha:S.buf.length%8=0) (hm:8<=S.min) (hl:S.buf.length+16<=536870912) (hR:∀H',Qd H' p (place (leB x 8) S) F (r-8)->R (.tuple #[]) H'):FnS prog 110 #[.pointer (some ⟨p,0,none⟩),.int .u64 x] H R:=by
 refine Qc2 hB hl ?_
 intro H' h'
 have e:putN 8 (leB x 8) S=place (leB x 8) S:=by unfold putN;rw[QdQ (by simpa using ha) hm]
 rw[e,YZ ha]at h'
 refine hR H' (h'.room ?_)
 have:r-0<=Nat.max (r-0) (8+1):=Nat.le_max_left _ _
 generalize Nat.max (r-0) (8+1)=z at *
 omega
theorem al_Float64 {x:Nat} (ha:S.buf.length%8=0) (hm:8<=S.min) (hl:S.buf.length+16<=536870912) (hR:∀H',Qd H' p (place (leB x 8) S) F (r-8)->R (.tuple #[]) H'):FnS prog 105 #[.pointer (some ⟨p,0,none⟩),.float .f64 x] H R:=by
 refine Qer hB hl ?_
 intro H' h'
 have e:putN 8 (leB x 8) S=place (leB x 8) S:=by unfold putN;rw[QdQ (by simpa using ha) hm]
 rw[e,YZ ha]at h'
 refine hR H' (h'.room ?_)
 have:r-0<=Nat.max (r-0) (8+1):=Nat.le_max_left _ _
 generalize Nat.max (r-0) (8+1)=z at *
 omega
theorem al_UOffsetT {off:Nat} (ha:S.buf.length%4=0) (hm:4<=S.min) (ho:off<=S.buf.length) (hl:S.buf.length+16<=536870912) (hR:∀H',Qd H' p (place (leB ((S.buf.length-off+4:Nat):Int) 4) S) F (r-4)->R (.tuple #[]) H'):
  FnS prog 75 #[.pointer (some ⟨p,0,none⟩),.int .u32 (off:Nat)] H R:=by
 refine Qa0 hB hl ho ?_
 intro H' h'
 have e:putOff off S=place (leB ((S.buf.length-off+4:Nat):Int) 4) S:=by unfold putOff;rw[QdQ (by simpa using ha) hm]
 rw[e,YZ ha]at h'
 refine hR H' (h'.room ?_)
 have:r-0<=Nat.max (r-0) 5:=Nat.le_max_left _ _
 generalize Nat.max (r-0) 5=z at *
 omega
theorem al_Prep {size add k:Nat} (hsz:size=2^k) (hk:k<=3) (ha:(S.buf.length+add)%size=0) (hm:size<=S.min) (hl:S.buf.length+add+16<=536870912) (hR:∀H',Qd H' p S F r->R (.tuple #[]) H'):
  FnS prog 74 #[.pointer (some ⟨p,0,none⟩),.int .i64 (size:Nat),.int .i64 (add:Nat)] H R:=by
 refine QW hB hsz hk rfl hl ?_
 intro H' h'
 rw[QdQ ha hm,YZ ha]at h'
 exact hR H' (h'.room (Nat.le_max_left _ _))
def QaW (a b:Nat):List UInt8:=leB (a:Int) 2++(leB (b:Int) 1++[0])
def Z9 (a b:Nat):List UInt8:=leB (a:Int) 4++leB (b:Int) 4
def vec3B (x y z t1 t2 a b:Nat):List UInt8:=
 leB (x:Int) 4++(leB (y:Int) 4++(leB (z:Int) 4++([0,0,0,0]++(leB (t1:Int) 8++(leB (t2:Int) 1++([0]++(leB (a:Int) 2++(leB (b:Int) 1++([0]++[0,0])))))))))
omit hB in
theorem Zd (a b:List UInt8) (S:BS):place a (place b S)=place (a++b) S:=by simp[place]
omit hB in
theorem YA (a:List UInt8) (S:BS):(place a S).buf.length=a.length+S.buf.length:=by simp[place]
omit hB in
theorem QaF (a:List UInt8) (S:BS):(place a S).min=S.min:=rfl
theorem QhK {a b:Nat} (hr:4<=r) (ha:S.buf.length%2=0) (hm:2<=S.min) (hl:S.buf.length+32<=536870912) (hR:∀H' v,Qd H' p (place (QaW a b) S) F (r-4)->R v H'):
  FnS prog 284 #[.pointer (some ⟨p,0,none⟩),.int .i16 (IntKind.i16.wrap (a:Int)),.int .i8 (IntKind.i8.wrap (b:Int))] H R:=by
 apply w284
 unfold s284
 refine al_Prep (size:=2) (add:=4) (k:=1) hB (by decide) (by decide) (by omega) hm (by omega) ?_
 intro H1 h1
 refine QaK (n:=1) h1 rfl (by omega) ?_
 intro H2 h2
 have e1:(List.replicate 1 (0:UInt8))=[0]:=rfl
 rw[e1]at h2
 refine al_Int8 h2 (by rw[YA];exact Nat.mod_one _) (by rw[QaF];omega) (by rw[YA];simp;omega) ?_
 intro H3 h3
 rw[Zu (by decide),Zd]at h3
 refine al_Int16 h3 (by rw[YA];simp[Qc];omega) (by rw[QaF];omega) (by rw[YA];simp[Qc];omega) ?_
 intro H4 h4
 rw[Zu (by decide),Zd]at h4
 refine Yj h4 ?_
 exact hR H4 _ (h4.room (by omega))
theorem QfU {a b:Nat} (hr:8<=r) (ha:S.buf.length%4=0) (hm:4<=S.min) (hl:S.buf.length+32<=536870912) (hR:∀H' v,Qd H' p (place (Z9 a b) S) F (r-8)->R v H'):
  FnS prog 292 #[.pointer (some ⟨p,0,none⟩),.int .u32 (a:Int),.int .u32 (b:Int)] H R:=by
 apply w292
 unfold s292
 refine al_Prep (size:=4) (add:=8) (k:=2) hB (by decide) (by decide) (by omega) hm (by omega) ?_
 intro H1 h1
 refine al_Uint32 h1 (by omega) hm (by omega) ?_
 intro H3 h3
 refine al_Uint32 h3 (by rw[YA];simp[Qc];omega) (by rw[QaF];omega) (by rw[YA];simp[Qc];omega) ?_
 intro H4 h4
 rw[Zd]at h4
 refine Yj h4 ?_
 exact hR H4 _ (h4.room (by omega))
set_option maxHeartbeats 1000000 in
theorem Qi0 {x y z t1 t2 a b:Nat} (ht2:t2<256) (hl:S.buf.length+96<=536870912) (hR:∀H',Qd H' p (place (vec3B x y z t1 t2 a b) (prep 8 32 S)) F 0->R (.int .u32 ((place (vec3B x y z t1 t2 a b) (prep 8 32 S)).buf.length:Nat)) H'):
  FnS prog 302 #[.pointer (some ⟨p,0,none⟩),.float .f32 x,.float .f32 y,.float .f32 z,.float .f64 t1,.int .u8 (t2:Int),.int .i16 (IntKind.i16.wrap (a:Int)),.int .i8 (IntKind.i8.wrap (b:Int))] H R:=by
 apply w302
 unfold s302
 refine QW (size:=8) (add:=32) (k:=3) hB (by decide) (by decide) rfl (by omega) ?_
 intro H1 h1
 have hr1:41<=Nat.max (r-padOf 8 (S.buf.length+32)) (8+32+1):=Nat.le_max_right _ _
 replace h1:=h1.room hr1
 have hm:8<=(prep 8 32 S).min:=Nat.le_max_right _ _
 have hal:(prep 8 32 S).buf.length%8=0:=by
  have:=Qcl (size:=8) (n:=S.buf.length+32) (by decide)
  rw[Qad];omega
 have hll:(prep 8 32 S).buf.length<=S.buf.length+7:=by
  have:=Zw (size:=8) (n:=S.buf.length+32) (by decide)
  rw[Qad];omega
 generalize prep 8 32 S=S1 at *
 refine QaK (n:=2) h1 rfl (by omega) ?_
 intro H2 h2
 rw[show List.replicate 2 (0:UInt8)=[0,0] from rfl]at h2
 refine al_Prep (size:=2) (add:=4) (k:=1) h2 (by decide) (by decide) (by rw[YA];simp;omega) (by rw[QaF];omega) (by rw[YA];simp;omega) ?_
 intro H3 h3
 refine QaK (n:=1) h3 rfl (by omega) ?_
 intro H4 h4
 rw[show List.replicate 1 (0:UInt8)=[0] from rfl,Zd]at h4
 refine al_Int8 h4 (Nat.mod_one _) (by rw[QaF];omega) (by rw[YA];simp;omega) ?_
 intro H5 h5
 rw[Zu (by decide),Zd]at h5
 refine al_Int16 h5 (by rw[YA];simp[Qc];omega) (by rw[QaF];omega) (by rw[YA];simp[Qc];omega) ?_
 intro H6 h6
 rw[Zu (by decide),Zd]at h6
 refine QaK (n:=1) h6 rfl (by omega) ?_
 intro H7 h7
 rw[show List.replicate 1 (0:UInt8)=[0] from rfl,Zd]at h7
 have eb:((UInt8.ofNat t2).toNat:Int)=(t2:Int):=by rw[UInt8.toNat_ofNat_of_lt' ht2]
 have eb2:[UInt8.ofNat t2]=leB (t2:Int) 1:=by
  rw[leB_1]
  unfold Zj
  congr 2
  simp;omega
 rw[<-eb]
 refine al_Byte h7 (Nat.mod_one _) (by rw[QaF];omega) (by rw[YA];simp[Qc];omega) ?_
 intro H8 h8
 rw[eb2,Zd]at h8
 refine al_Float64 h8 (by rw[YA];simp[Qc];omega) (by rw[QaF];omega) (by rw[YA];simp[Qc];omega) ?_
 intro H9 h9
 rw[Zd]at h9
 refine QaK (n:=4) h9 rfl (by omega) ?_
 intro H10 h10
 rw[show List.replicate 4 (0:UInt8)=[0,0,0,0] from rfl,Zd]at h10
 refine Qi5 h10 (by rw[YA];simp[Qc];omega) (by rw[QaF];omega) (by rw[YA];simp[Qc];omega) ?_
 intro H11 h11
 rw[Zd]at h11
 refine Qi5 h11 (by rw[YA];simp[Qc];omega) (by rw[QaF];omega) (by rw[YA];simp[Qc];omega) ?_
 intro H12 h12
 rw[Zd]at h12
 refine Qi5 h12 (by rw[YA];simp[Qc];omega) (by rw[QaF];omega) (by rw[YA];simp[Qc];omega) ?_
 intro H13 h13
 rw[Zd]at h13
 refine Yj h13 ?_
 exact hR H13 (h13.room (Nat.zero_le _))
end
end Go.Proofs
namespace Go.Proofs
open Go Go.Vc
open Tryz (prog)
theorem byteN_getElem? {bs:List UInt8} {i:Nat}:byteN bs i=((bs[i]?).getD 0).toNat:=rfl
theorem byteN_putL {bs xs:List UInt8} {q i:Nat} (h:q+xs.length<=bs.length):byteN (Qab bs q xs) i=if q<=i/\i<q+xs.length then byteN xs (i-q) else byteN bs i:=by
 rw[Qd0 _ _ _ h]
 simp only[byteN_getElem?]
 by_cases h1:i<q
 ·have e:(bs.take q++xs++bs.drop (q+xs.length))[i]?=bs[i]?:=by
   rw[List.getElem?_append_left (by simp;omega),List.getElem?_append_left (by simp;omega),List.getElem?_take,if_pos h1]
  rw[e,if_neg (by omega)]
 ·by_cases h2:i<q+xs.length
  ·have e:(bs.take q++xs++bs.drop (q+xs.length))[i]?=xs[i-q]?:=by
    rw[List.getElem?_append_left (by simp;omega),List.getElem?_append_right (by simp;omega)]
    congr 1;simp;omega
   rw[e,if_pos (by omega)]
  ·have e:(bs.take q++xs++bs.drop (q+xs.length))[i]?=bs[i]?:=by
    rw[List.getElem?_append_right (by simp;omega),List.getElem?_drop]
    congr 1;simp;omega
   rw[e,if_neg (by omega)]
theorem Qg0 {bs xs:List UInt8} {q i:Nat} (h:q+xs.length<=bs.length) (hi:i+2<=q\/q+xs.length<=i):le2 (Qab bs q xs) i=le2 bs i:=by
 unfold le2
 rw[byteN_putL h,byteN_putL h,if_neg (by omega),if_neg (by omega)]
theorem Qgj (x i:Nat):(Zj (x:Int) i).toNat=x/2^(8*i)%256:=by
 have h:=QhV (x:Int) i
 have e:((x:Int)/2^(8*i))%256=((x/2^(8*i)%256:Nat):Int):=by
  rw[Int.natCast_emod,Int.natCast_ediv,Int.natCast_pow];rfl
 rw[e]at h
 omega
theorem QeL {x:Int} {k i:Nat} (hi:i<k):byteN (leB x k) i=(Zj x i).toNat:=by
 unfold byteN leB
 congr 1
 simp[List.getD,hi]
theorem QiG {x:Nat} {k:Nat} (hk:2<=k) (rest:List UInt8):le2 (leB (x:Int) k++rest) 0=x%65536:=by
 have hb:∀i,i<k->byteN (leB (x:Int) k++rest) i=x/2^(8*i)%256:=by
  intro i hi
  have:byteN (leB (x:Int) k++rest) i=byteN (leB (x:Int) k) i:=by
   unfold byteN
   congr 1
   simp only[List.getD]
   rw[List.getElem?_append_left (by rw[Qc];exact hi)]
  rw[this,QeL hi,Qgj]
 unfold le2
 rw[hb 0 (by omega),Nat.zero_add,hb 1 (by omega)]
 simp;omega
theorem Qgs {x:Nat} {k:Nat} (hk:4<=k) (rest:List UInt8):le4 (leB (x:Int) k++rest) 0=x%4294967296:=by
 have hb:∀i,i<k->byteN (leB (x:Int) k++rest) i=x/2^(8*i)%256:=by
  intro i hi
  have:byteN (leB (x:Int) k++rest) i=byteN (leB (x:Int) k) i:=by
   unfold byteN
   congr 1
   simp only[List.getD]
   rw[List.getElem?_append_left (by rw[Qc];exact hi)]
  rw[this,QeL hi,Qgj]
 rw[le4_eq,hb 0 (by omega),hb (0+1) (by omega),hb (0+2) (by omega),hb (0+3) (by omega)]
 simp;omega
theorem le8_leB {x:Nat} (rest:List UInt8):le8 (leB (x:Int) 8++rest) 0=x%18446744073709551616:=by
 have hb:∀i,i<8->byteN (leB (x:Int) 8++rest) i=x/2^(8*i)%256:=by
  intro i hi
  have:byteN (leB (x:Int) 8++rest) i=byteN (leB (x:Int) 8) i:=by
   unfold byteN
   congr 1
   simp only[List.getD]
   rw[List.getElem?_append_left (by rw[Qc];exact hi)]
  rw[this,QeL hi,Qgj]
 rw[le8_eq,hb 0 (by omega),hb (0+1) (by omega),hb (0+2) (by omega),hb (0+3) (by omega),hb (0+4) (by omega),hb (0+5) (by omega),hb (0+6) (by omega),hb (0+7) (by omega)]
 simp;omega
structure Inv (S:BS):Prop where
 nested:S.nested=false
 vts:QhM S
 nv:S.vts.length<=S.buf.length
 min:P2 S.min
theorem Inv.new:Inv Qan:=⟨rfl,fun o ho=>by simp[Qan]at ho,Nat.zero_le _,P2_1⟩
theorem wrEnt_ext (oo:Nat):∀(vs:List Nat) (S:BS),∃x,(wrEnt oo vs S).buf=x++S.buf/\2*vs.length<=x.length/\x.length<=3*vs.length
 |[],S=>⟨[],rfl,by simp,by simp⟩
 |v::vs,S=>by
  obtain ⟨x,hx,h1,h2⟩:=wrEnt_ext oo vs S
  have hp:=Zw (size:=2) (n:=(wrEnt oo vs S).buf.length+0) (by decide)
  refine ⟨leB ((if v≠0 then oo-v else 0:Nat):Int) 2++(List.replicate (padOf 2 ((wrEnt oo vs S).buf.length+0)) 0++x),?_,?_,?_⟩
  ·simp[wrEnt,putN,place,prep,hx]
  ·simp only[List.length_append,Qc,List.length_replicate,List.length_cons];omega
  ·simp only[List.length_append,Qc,List.length_replicate,List.length_cons];omega
theorem Qfw (k:Nat) (xs:List UInt8) (S:BS):(putN k xs S).buf=xs++(List.replicate (padOf k (S.buf.length+0)) 0++S.buf):=by
 simp[putN,place,prep]
theorem wrEnt_min (oo:Nat):∀(vs:List Nat) (S:BS),P2 S.min->P2 (wrEnt oo vs S).min
 |[],_,h=>h
 |_::vs,S,h=>(wrEnt_min oo vs S h).max P2_2
theorem Inv.endObj {S0 S:BS} {n c:Nat} (h:Y8 S0 n c S) (h0:Inv S0) (hn:n<1000):
  Inv (endObj S)/\(endObj S).buf.length<=S.buf.length+3*n+16/\S.buf.length+4<=(endObj S).buf.length/\(putOff 0 S).buf.length<=(endObj S).buf.length:=by
 obtain ⟨x,hx⟩:=h.ext
 obtain ⟨y,hy,hy1,hy2⟩:=QcX 0 S
 have hS1:QhM (putOff 0 S):=h0.vts.ext (S':=putOff 0 S) h.vts (x:=y++x) (by rw[hy,hx,List.append_assoc])
 have hle:∀o∈S.vts,o<=S.buf.length:=fun o ho=>by
  rw[h.vts]at ho
  have:=(h0.vts o ho).2.1
  rw[hx,List.length_append];omega
 have hS1l:(putOff 0 S).buf.length=y.length+S.buf.length:=by rw[hy,List.length_append]
 have hvl:((putOff 0 S).vt.take (Ys (putOff 0 S).vt)).length<=n:=by
  rw[List.length_take]
  have:(putOff 0 S).vt.length=n:=h.vtl
  omega
 have k2:(putOff 0 S).vts=S.vts:=rfl
 have k5:P2 (putOff 0 S).min:=h.min.max Qhu
 rw[Qe5 S _ _ _ _ rfl rfl rfl rfl]
 generalize hvt:(putOff 0 S).vt.take (Ys (putOff 0 S).vt)=vt at *
 generalize Qai (Z5 vt (putOff 0 S).buf.length (putOff 0 S).buf) (putOff 0 S).vts=ex
 generalize hoo:(putOff 0 S).buf.length=oo at *
 generalize hS1e:putOff 0 S=S1 at *
 by_cases hex:ex=0
 ·rw[if_pos hex]
  have hS2b:({S1 with vt:=vt}:BS).buf=S1.buf:=rfl
  have hS2v:({S1 with vt:=vt}:BS).vts=S1.vts:=rfl
  have hS2m:P2 ({S1 with vt:=vt}:BS).min:=k5
  generalize ({S1 with vt:=vt}:BS)=S2 at *
  obtain ⟨z,hz,hz1,hz2⟩:=wrEnt_ext oo vt S2
  have hS3m:P2 (wrEnt oo vt S2).min:=wrEnt_min oo vt S2 hS2m
  have hS3v:=(QdU oo vt S2).2.1
  generalize wrEnt oo vt S2=S3 at *
  have e4:=Qfw 2 (leB ((oo-S.oe:Nat):Int) 2) S3
  have hS4m:P2 (putN 2 (leB ((oo-S.oe:Nat):Int) 2) S3).min:=hS3m.max P2_2
  have hp4:=Zw (size:=2) (n:=S3.buf.length+0) (by decide)
  generalize putN 2 (leB ((oo-S.oe:Nat):Int) 2) S3=S4 at *
  have e5:=Qfw 2 (leB ((2*(vt.length+2):Nat):Int) 2) S4
  have hS5m:P2 (putN 2 (leB ((2*(vt.length+2):Nat):Int) 2) S4).min:=hS4m.max P2_2
  have hp5:=Zw (size:=2) (n:=S4.buf.length+0) (by decide)
  have hle2:le2 (putN 2 (leB ((2*(vt.length+2):Nat):Int) 2) S4).buf 0=2*(vt.length+2):=by
   rw[e5,QiG (Nat.le_refl _),Nat.mod_eq_of_lt (by omega)]
  generalize putN 2 (leB ((2*(vt.length+2):Nat):Int) 2) S4=S5 at *
  obtain ⟨w,hw,hw1,hw2⟩:∃w,S5.buf=w++S1.buf/\2*vt.length+4<=w.length/\w.length<=3*n+6:=by
   refine ⟨leB ((2*(vt.length+2):Nat):Int) 2++(List.replicate (padOf 2 (S4.buf.length+0)) 0++(leB ((oo-S.oe:Nat):Int) 2++(List.replicate (padOf 2 (S3.buf.length+0)) 0++z))),?_,?_,?_⟩
   ·rw[e5,e4,hz,hS2b];simp
   ·simp only[List.length_append,Qc,List.length_replicate];omega
   ·simp only[List.length_append,Qc,List.length_replicate];omega
  have hw3:S5.buf.length-oo=w.length:=by rw[hw,List.length_append,hoo];omega
  have hwl:S5.buf.length=w.length+oo:=by rw[hw,List.length_append,hoo]
  rw[hw3]
  have hpl:(Qab S5.buf w.length (leB (w.length:Int) 4)).length=S5.buf.length:=Ye _ _ _
  refine ⟨⟨rfl,?_,?_,hS5m⟩,?_,?_,?_⟩
  ·intro o ho
   show 0<o/\o<=(Qab S5.buf w.length (leB (w.length:Int) 4)).length/\4<=le2 (Qab S5.buf w.length (leB (w.length:Int) 4)) ((Qab S5.buf w.length (leB (w.length:Int) 4)).length-o)/\le2 (Qab S5.buf w.length (leB (w.length:Int) 4)) ((Qab S5.buf w.length (leB (w.length:Int) 4)).length-o)<=o
   rw[hpl]
   rcases List.mem_append.1 (show o∈S1.vts++[S5.buf.length] from ho) with ho|ho
   ·have ho2:=hle o (by rw[<-k2];exact ho)
    obtain ⟨q1,q2,q3,q4⟩:=hS1 o ho
    have e:le2 (Qab S5.buf w.length (leB (w.length:Int) 4)) (S5.buf.length-o)=le2 S1.buf (S1.buf.length-o):=by
     rw[Qg0 (by rw[Qc];omega) (by rw[Qc];omega),hw,show (w++S1.buf).length-o=w.length+(S1.buf.length-o) by rw[List.length_append];omega,YC]
    rw[e]
    exact ⟨q1,by omega,q3,q4⟩
   ·have:o=S5.buf.length:=by simpa using ho
    subst this
    rw[Nat.sub_self,Qg0 (by rw[Qc];omega) (by omega),hle2]
    omega
  ·show (S1.vts++[S5.buf.length]).length<=(Qab S5.buf w.length (leB (w.length:Int) 4)).length
   rw[hpl,List.length_append,k2,h.vts]
   have:=h0.nv
   have:=h.le
   simp;omega
  ·show (Qab S5.buf w.length (leB (w.length:Int) 4)).length<=_
   rw[hpl];omega
  ·show _<=(Qab S5.buf w.length (leB (w.length:Int) 4)).length
   rw[hpl];omega
  ·show _<=(Qab S5.buf w.length (leB (w.length:Int) 4)).length
   rw[hpl];omega
 ·rw[if_neg hex]
  have hpl:(Qab S1.buf 0 (leB ((ex:Int)-(oo:Int)) 4)).length=S1.buf.length:=Ye _ _ _
  refine ⟨⟨rfl,?_,?_,k5⟩,?_,?_,?_⟩
  ·intro o ho
   have ho2:=hle o (by rw[<-k2];exact ho)
   obtain ⟨q1,q2,q3,q4⟩:=hS1 o ho
   show 0<o/\o<=(Qab S1.buf 0 (leB ((ex:Int)-(oo:Int)) 4)).length/\4<=le2 (Qab S1.buf 0 (leB ((ex:Int)-(oo:Int)) 4)) ((Qab S1.buf 0 (leB ((ex:Int)-(oo:Int)) 4)).length-o)/\le2 (Qab S1.buf 0 (leB ((ex:Int)-(oo:Int)) 4)) ((Qab S1.buf 0 (leB ((ex:Int)-(oo:Int)) 4)).length-o)<=o
   rw[hpl,Qg0 (by rw[Qc];omega) (by rw[Qc];omega)]
   exact ⟨q1,q2,q3,q4⟩
  ·show S1.vts.length<=(Qab S1.buf 0 (leB ((ex:Int)-(oo:Int)) 4)).length
   rw[hpl,k2,h.vts]
   have:=h0.nv
   have:=h.le
   omega
  ·show (Qab S1.buf 0 (leB ((ex:Int)-(oo:Int)) 4)).length<=_
   rw[hpl];omega
  ·show _<=(Qab S1.buf 0 (leB ((ex:Int)-(oo:Int)) 4)).length
   rw[hpl];omega
  ·show _<=(Qab S1.buf 0 (leB ((ex:Int)-(oo:Int)) 4)).length
   rw[hpl];omega
end Go.Proofs
namespace Go.Proofs
open Go Go.Vc
open Tryz (prog)
set_option maxRecDepth 100000
def s23 (b a:Value) (h:Qf) (R:Kn):Prop:=
 Qp prog .eql 73 b (.pointer none) fun z0=>
 IfK z0
 (R (.int .u32 0) h)
 (Q6 b fun z1=>
 Qh z1 3 fun z2=>
 LdK h z2 fun z3=>
 Qb prog 87 #[a,z3] h fun z4 d5=>
 QN (fun d6=>
 Q6 b fun z5=>
 Qh z5 4 fun z6=>
 LdK d5 z6 fun z7=>
 Qp prog .neq 76 z7 (.slice none 0 0) fun z8=>
 IfK z8
 (Q6 b fun z9=>
 Qh z9 4 fun a00=>
 LdK d5 a00 fun a01=>
 Qb prog 88 #[a,a01] d5 fun a02 a03=>
 d6 [a02] a03)
 (d6 [(.int .u32 0)] d5)) fun d6=>∀m2:Value,∀g7:Qf,d6 [m2] g7->
 Q6 b fun a04=>
 Qh a04 6 fun a05=>
 LdK g7 a05 fun a06=>
 Qb prog 89 #[a06,a] g7 fun a07 d7=>
 QN (fun d8=>
 Q6 b fun a08=>
 Qh a08 7 fun a09=>
 LdK d7 a09 fun a10=>
 Qp prog .neq 143 a10 (.slice none 0 0) fun a11=>
 IfK a11
 (Q6 b fun a12=>
 Qh a12 7 fun a13=>
 LdK d7 a13 fun a14=>
 YX a14 fun g8=>
 Qb prog 90 #[a,g8] d7 fun _x108 a15=>
 QN (fun g9=>
 Qp prog .sub 3 g8 (.int .i64 1) fun a16=>
 YO [a16] a15 fun m3 m4=>∀p:Value,∀q:Qf,m3 m4 [p] q->
 Qp prog .geq 3 p (.int .i64 0) fun a17=>
 IfK a17
 (Q6 b fun a18=>
 Qh a18 7 fun a19=>
 LdK q a19 fun a20=>
 YG 1 a20 p fun a21=>
 LdK q a21 fun a22=>
 Qb prog 91 #[a22,a] q fun _x123 a23=>
 Qp prog .sub 3 p (.int .i64 1) fun a24=>
 Yf m3 m4 [a24] a23)
 (g9 [p] q)) fun g9=>∀a25:Value,∀m5:Qf,g9 [a25] m5->
 Qb prog 92 #[a,g8] m5 fun a26 a27=>
 d8 [a26] a27)
 (d8 [(.int .u32 0)] d7)) fun d8=>∀m6:Value,∀r:Qf,d8 [m6] r->
 QN (fun d9=>
 Q6 b fun a28=>
 Qh a28 8 fun a29=>
 LdK r a29 fun a30=>
 Qp prog .neq 28 a30 (.slice none 0 0) fun a31=>
 IfK a31
 (Q6 b fun a32=>
 Qh a32 8 fun a33=>
 LdK r a33 fun a34=>
 YX a34 fun c=>
 Qf0 r 72 4 z72 c c fun m7 a35=>
 QN (fun i0=>
 YO [(.int .i64 0)] a35 fun m8 m9=>∀d:Value,∀s:Qf,m8 m9 [d] s->
 Qp prog .lss 3 d c fun a36=>
 IfK a36
 (Q6 b fun a37=>
 Qh a37 8 fun a38=>
 LdK s a38 fun a39=>
 YG 1 a39 d fun a40=>
 LdK s a40 fun a41=>
 Qb prog 87 #[a,a41] s fun a42 a43=>
 YG 1 m7 d fun a44=>
 StK a43 1 a44 a42 fun a45=>
 Qp prog .add 3 d (.int .i64 1) fun a46=>
 Yf m8 m9 [a46] a45)
 (i0 [d] s)) fun i0=>∀a47:Value,∀o0:Qf,i0 [a47] o0->
 Qb prog 93 #[a,c] o0 fun _x158 a48=>
 QN (fun i1=>
 Qp prog .sub 3 c (.int .i64 1) fun a49=>
 YO [a49] a48 fun o1 o2=>∀t:Value,∀e0:Qf,o1 o2 [t] e0->
 Qp prog .geq 3 t (.int .i64 0) fun a50=>
 IfK a50
 (YG 1 m7 t fun a51=>
 LdK e0 a51 fun a52=>
 Qb prog 75 #[a,a52] e0 fun _x170 a53=>
 Qp prog .sub 3 t (.int .i64 1) fun a54=>
 Yf o1 o2 [a54] a53)
 (i1 [t] e0)) fun i1=>∀a55:Value,∀o3:Qf,i1 [a55] o3->
 Qb prog 92 #[a,c] o3 fun a56 a57=>
 d9 [a56] a57)
 (d9 [(.int .u32 0)] r)) fun d9=>∀o4:Value,∀u:Qf,d9 [o4] u->
 QN (fun e1=>
 Q6 b fun a58=>
 Qh a58 9 fun a59=>
 LdK u a59 fun a60=>
 Qp prog .neq 152 a60 (.slice none 0 0) fun a61=>
 IfK a61
 (Q6 b fun a62=>
 Qh a62 9 fun a63=>
 LdK u a63 fun a64=>
 YX a64 fun e=>
 Qf0 u 72 4 z72 e e fun o5 a65=>
 QN (fun i2=>
 YO [(.int .i64 0)] a65 fun o6 o7=>∀f:Value,∀v:Qf,o6 o7 [f] v->
 Qp prog .lss 3 f e fun a66=>
 IfK a66
 (Q6 b fun a67=>
 Qh a67 9 fun a68=>
 LdK v a68 fun a69=>
 YG 1 a69 f fun a70=>
 LdK v a70 fun a71=>
 Qb prog 23 #[a71,a] v fun a72 a73=>
 YG 1 o5 f fun a74=>
 StK a73 1 a74 a72 fun a75=>
 Qp prog .add 3 f (.int .i64 1) fun a76=>
 Yf o6 o7 [a76] a75)
 (i2 [f] v)) fun i2=>∀a77:Value,∀o8:Qf,i2 [a77] o8->
 Qb prog 94 #[a,e] o8 fun _x205 a78=>
 QN (fun i3=>
 Qp prog .sub 3 e (.int .i64 1) fun a79=>
 YO [a79] a78 fun o9 p0=>∀w:Value,∀e2:Qf,o9 p0 [w] e2->
 Qp prog .geq 3 w (.int .i64 0) fun a80=>
 IfK a80
 (YG 1 o5 w fun a81=>
 LdK e2 a81 fun a82=>
 Qb prog 75 #[a,a82] e2 fun _x217 a83=>
 Qp prog .sub 3 w (.int .i64 1) fun a84=>
 Yf o9 p0 [a84] a83)
 (i3 [w] e2)) fun i3=>∀a85:Value,∀p1:Qf,i3 [a85] p1->
 Qb prog 92 #[a,e] p1 fun a86 a87=>
 e1 [a86] a87)
 (e1 [(.int .u32 0)] u)) fun e1=>∀p2:Value,∀i4:Qf,e1 [p2] i4->
 Q6 b fun a88=>
 Qh a88 10 fun a89=>
 LdK i4 a89 fun a90=>
 Qb prog 23 #[a90,a] i4 fun a91 e3=>
 QN (fun e4=>
 Q6 b fun a92=>
 Qh a92 11 fun a93=>
 LdK e3 a93 fun a94=>
 Qp prog .neq 76 a94 (.slice none 0 0) fun a95=>
 IfK a95
 (Q6 b fun a96=>
 Qh a96 11 fun a97=>
 LdK e3 a97 fun a98=>
 Qb prog 88 #[a,a98] e3 fun a99 b00=>
 e4 [a99] b00)
 (e4 [(.int .u32 0)] e3)) fun e4=>∀p3:Value,∀i5:Qf,e4 [p3] i5->
 Q6 b fun b01=>
 Qh b01 12 fun b02=>
 LdK i5 b02 fun b03=>
 Qb prog 95 #[b03,a] i5 fun b04 e5=>
 QN (fun e6=>
 Q6 b fun b05=>
 Qh b05 22 fun b06=>
 LdK e5 b06 fun b07=>
 Qp prog .neq 32 b07 (.slice none 0 0) fun b08=>
 IfK b08
 (Q6 b fun b09=>
 Qh b09 22 fun b10=>
 LdK e5 b10 fun b11=>
 YX b11 fun i6=>
 Qb prog 96 #[a,i6] e5 fun _x256 b12=>
 QN (fun i7=>
 Qp prog .sub 3 i6 (.int .i64 1) fun b13=>
 YO [b13] b12 fun p4 p5=>∀y:Value,∀z:Qf,p4 p5 [y] z->
 Qp prog .geq 3 y (.int .i64 0) fun b14=>
 IfK b14
 (Q6 b fun b15=>
 Qh b15 22 fun b16=>
 LdK z b16 fun b17=>
 YG 1 b17 y fun b18=>
 LdK z b18 fun b19=>
 Qb prog 97 #[a,b19] z fun _x271 b20=>
 Qp prog .sub 3 y (.int .i64 1) fun b21=>
 Yf p4 p5 [b21] b20)
 (i7 [y] z)) fun i7=>∀b22:Value,∀p6:Qf,i7 [b22] p6->
 Qb prog 92 #[a,i6] p6 fun b23 b24=>
 e6 [b23] b24)
 (e6 [(.int .u32 0)] e5)) fun e6=>∀p7:Value,∀a0:Qf,e6 [p7] a0->
 QN (fun e7=>
 Q6 b fun b25=>
 Qh b25 26 fun b26=>
 LdK a0 b26 fun b27=>
 Qp prog .neq 28 b27 (.slice none 0 0) fun b28=>
 IfK b28
 (Q6 b fun b29=>
 Qh b29 26 fun b30=>
 LdK a0 b30 fun b31=>
 YX b31 fun g=>
 Qf0 a0 72 4 z72 g g fun p8 b32=>
 QN (fun i8=>
 YO [(.int .i64 0)] b32 fun p9 q0=>∀i:Value,∀a1:Qf,p9 q0 [i] a1->
 Qp prog .lss 3 i g fun b33=>
 IfK b33
 (Q6 b fun b34=>
 Qh b34 26 fun b35=>
 LdK a1 b35 fun b36=>
 YG 1 b36 i fun b37=>
 LdK a1 b37 fun b38=>
 Qb prog 87 #[a,b38] a1 fun b39 b40=>
 YG 1 p8 i fun b41=>
 StK b40 1 b41 b39 fun b42=>
 Qp prog .add 3 i (.int .i64 1) fun b43=>
 Yf p9 q0 [b43] b42)
 (i8 [i] a1)) fun i8=>∀b44:Value,∀q1:Qf,i8 [b44] q1->
 Qb prog 98 #[a,g] q1 fun _x306 b45=>
 QN (fun i9=>
 Qp prog .sub 3 g (.int .i64 1) fun b46=>
 YO [b46] b45 fun q2 q3=>∀a2:Value,∀e8:Qf,q2 q3 [a2] e8->
 Qp prog .geq 3 a2 (.int .i64 0) fun b47=>
 IfK b47
 (YG 1 p8 a2 fun b48=>
 LdK e8 b48 fun b49=>
 Qb prog 75 #[a,b49] e8 fun _x318 b50=>
 Qp prog .sub 3 a2 (.int .i64 1) fun b51=>
 Yf q2 q3 [b51] b50)
 (i9 [a2] e8)) fun i9=>∀b52:Value,∀q4:Qf,i9 [b52] q4->
 Qb prog 92 #[a,g] q4 fun b53 b54=>
 e7 [b53] b54)
 (e7 [(.int .u32 0)] a0)) fun e7=>∀q5:Value,∀a3:Qf,e7 [q5] a3->
 QN (fun e9=>
 Q6 b fun b55=>
 Qh b55 27 fun b56=>
 LdK a3 b56 fun b57=>
 Qp prog .neq 154 b57 (.slice none 0 0) fun b58=>
 IfK b58
 (Q6 b fun b59=>
 Qh b59 27 fun b60=>
 LdK a3 b60 fun b61=>
 YX b61 fun j0=>
 Qb prog 99 #[a,j0] a3 fun _x334 b62=>
 QN (fun j1=>
 Qp prog .sub 3 j0 (.int .i64 1) fun b63=>
 YO [b63] b62 fun q6 q7=>∀a4:Value,∀a5:Qf,q6 q7 [a4] a5->
 Qp prog .geq 3 a4 (.int .i64 0) fun b64=>
 IfK b64
 (Q6 b fun b65=>
 Qh b65 27 fun b66=>
 LdK a5 b66 fun b67=>
 YG 1 b67 a4 fun b68=>
 LdK a5 b68 fun b69=>
 Qb prog 100 #[b69,a] a5 fun _x349 b70=>
 Qp prog .sub 3 a4 (.int .i64 1) fun b71=>
 Yf q6 q7 [b71] b70)
 (j1 [a4] a5)) fun j1=>∀b72:Value,∀q8:Qf,j1 [b72] q8->
 Qb prog 92 #[a,j0] q8 fun b73 b74=>
 e9 [b73] b74)
 (e9 [(.int .u32 0)] a3)) fun e9=>∀q9:Value,∀a6:Qf,e9 [q9] a6->
 QN (fun f0=>
 Q6 b fun b75=>
 Qh b75 28 fun b76=>
 LdK a6 b76 fun b77=>
 Qp prog .neq 76 b77 (.slice none 0 0) fun b78=>
 IfK b78
 (Q6 b fun b79=>
 Qh b79 28 fun b80=>
 LdK a6 b80 fun b81=>
 Qb prog 88 #[a,b81] a6 fun b82 b83=>
 f0 [b82] b83)
 (f0 [(.int .u32 0)] a6)) fun f0=>∀r0:Value,∀a7:Qf,f0 [r0] a7->
 QN (fun f1=>
 Q6 b fun b84=>
 Qh b84 29 fun b85=>
 LdK a7 b85 fun b86=>
 Qp prog .neq 143 b86 (.slice none 0 0) fun b87=>
 IfK b87
 (Q6 b fun b88=>
 Qh b88 29 fun b89=>
 LdK a7 b89 fun b90=>
 YX b90 fun j2=>
 Qb prog 101 #[a,j2] a7 fun _x376 b91=>
 QN (fun j3=>
 Qp prog .sub 3 j2 (.int .i64 1) fun b92=>
 YO [b92] b91 fun r1 r2=>∀a8:Value,∀a9:Qf,r1 r2 [a8] a9->
 Qp prog .geq 3 a8 (.int .i64 0) fun b93=>
 IfK b93
 (Q6 b fun b94=>
 Qh b94 29 fun b95=>
 LdK a9 b95 fun b96=>
 YG 1 b96 a8 fun b97=>
 LdK a9 b97 fun b98=>
 Qb prog 91 #[b98,a] a9 fun _x391 b99=>
 Qp prog .sub 3 a8 (.int .i64 1) fun c00=>
 Yf r1 r2 [c00] b99)
 (j3 [a8] a9)) fun j3=>∀c01:Value,∀r3:Qf,j3 [c01] r3->
 Qb prog 92 #[a,j2] r3 fun c02 c03=>
 f1 [c02] c03)
 (f1 [(.int .u32 0)] a7)) fun f1=>∀r4:Value,∀b0:Qf,f1 [r4] b0->
 QN (fun f2=>
 Q6 b fun c04=>
 Qh c04 30 fun c05=>
 LdK b0 c05 fun c06=>
 Qp prog .neq 34 c06 (.slice none 0 0) fun c07=>
 IfK c07
 (Q6 b fun c08=>
 Qh c08 30 fun c09=>
 LdK b0 c09 fun c10=>
 YX c10 fun j4=>
 Qb prog 102 #[a,j4] b0 fun _x407 c11=>
 QN (fun j5=>
 Qp prog .sub 3 j4 (.int .i64 1) fun c12=>
 YO [c12] c11 fun r5 r6=>∀b1:Value,∀b2:Qf,r5 r6 [b1] b2->
 Qp prog .geq 3 b1 (.int .i64 0) fun c13=>
 IfK c13
 (Q6 b fun c14=>
 Qh c14 30 fun c15=>
 LdK b2 c15 fun c16=>
 YG 1 c16 b1 fun c17=>
 LdK b2 c17 fun c18=>
 Qb prog 103 #[a,c18] b2 fun _x422 c19=>
 Qp prog .sub 3 b1 (.int .i64 1) fun c20=>
 Yf r5 r6 [c20] c19)
 (j5 [b1] b2)) fun j5=>∀c21:Value,∀r7:Qf,j5 [c21] r7->
 Qb prog 92 #[a,j4] r7 fun c22 c23=>
 f2 [c22] c23)
 (f2 [(.int .u32 0)] b0)) fun f2=>∀r8:Value,∀b3:Qf,f2 [r8] b3->
 QN (fun f3=>
 Q6 b fun c24=>
 Qh c24 31 fun c25=>
 LdK b3 c25 fun c26=>
 Qp prog .neq 155 c26 (.slice none 0 0) fun c27=>
 IfK c27
 (Q6 b fun c28=>
 Qh c28 31 fun c29=>
 LdK b3 c29 fun c30=>
 YX c30 fun j6=>
 Qb prog 104 #[a,j6] b3 fun _x438 c31=>
 QN (fun j7=>
 Qp prog .sub 3 j6 (.int .i64 1) fun c32=>
 YO [c32] c31 fun r9 s0=>∀b4:Value,∀b5:Qf,r9 s0 [b4] b5->
 Qp prog .geq 3 b4 (.int .i64 0) fun c33=>
 IfK c33
 (Q6 b fun c34=>
 Qh c34 31 fun c35=>
 LdK b5 c35 fun c36=>
 YG 1 c36 b4 fun c37=>
 LdK b5 c37 fun c38=>
 Qb prog 105 #[a,c38] b5 fun _x453 c39=>
 Qp prog .sub 3 b4 (.int .i64 1) fun c40=>
 Yf r9 s0 [c40] c39)
 (j7 [b4] b5)) fun j7=>∀c41:Value,∀s1:Qf,j7 [c41] s1->
 Qb prog 92 #[a,j6] s1 fun c42 c43=>
 f3 [c42] c43)
 (f3 [(.int .u32 0)] b3)) fun f3=>∀s2:Value,∀j8:Qf,f3 [s2] j8->
 Q6 b fun c44=>
 Qh c44 32 fun c45=>
 LdK j8 c45 fun c46=>
 Qb prog 106 #[c46,a] j8 fun c47 f4=>
 QN (fun f5=>
 Q6 b fun c48=>
 Qh c48 33 fun c49=>
 LdK f4 c49 fun c50=>
 Qp prog .neq 147 c50 (.slice none 0 0) fun c51=>
 IfK c51
 (Q6 b fun c52=>
 Qh c52 33 fun c53=>
 LdK f4 c53 fun c54=>
 YX c54 fun j=>
 Qf0 f4 72 4 z72 j j fun s3 c55=>
 QN (fun j9=>
 YO [(.int .i64 0)] c55 fun s4 s5=>∀l:Value,∀b6:Qf,s4 s5 [l] b6->
 Qp prog .lss 3 l j fun c56=>
 IfK c56
 (Q6 b fun c57=>
 Qh c57 33 fun c58=>
 LdK b6 c58 fun c59=>
 YG 1 c59 l fun c60=>
 LdK b6 c60 fun c61=>
 Qb prog 107 #[c61,a] b6 fun c62 c63=>
 YG 1 s3 l fun c64=>
 StK c63 1 c64 c62 fun c65=>
 Qp prog .add 3 l (.int .i64 1) fun c66=>
 Yf s4 s5 [c66] c65)
 (j9 [l] b6)) fun j9=>∀c67:Value,∀s6:Qf,j9 [c67] s6->
 Qb prog 108 #[a,j] s6 fun _x494 c68=>
 QN (fun l0=>
 Qp prog .sub 3 j (.int .i64 1) fun c69=>
 YO [c69] c68 fun s7 s8=>∀b7:Value,∀f6:Qf,s7 s8 [b7] f6->
 Qp prog .geq 3 b7 (.int .i64 0) fun c70=>
 IfK c70
 (YG 1 s3 b7 fun c71=>
 LdK f6 c71 fun c72=>
 Qb prog 75 #[a,c72] f6 fun _x506 c73=>
 Qp prog .sub 3 b7 (.int .i64 1) fun c74=>
 Yf s7 s8 [c74] c73)
 (l0 [b7] f6)) fun l0=>∀c75:Value,∀s9:Qf,l0 [c75] s9->
 Qb prog 92 #[a,j] s9 fun c76 c77=>
 f5 [c76] c77)
 (f5 [(.int .u32 0)] f4)) fun f5=>∀t0:Value,∀b8:Qf,f5 [t0] b8->
 QN (fun f7=>
 Q6 b fun c78=>
 Qh c78 35 fun c79=>
 LdK b8 c79 fun c80=>
 Qp prog .neq 35 c80 (.slice none 0 0) fun c81=>
 IfK c81
 (Q6 b fun c82=>
 Qh c82 35 fun c83=>
 LdK b8 c83 fun c84=>
 YX c84 fun l1=>
 Qb prog 109 #[a,l1] b8 fun _x522 c85=>
 QN (fun l2=>
 Qp prog .sub 3 l1 (.int .i64 1) fun c86=>
 YO [c86] c85 fun t1 t2=>∀b9:Value,∀c0:Qf,t1 t2 [b9] c0->
 Qp prog .geq 3 b9 (.int .i64 0) fun c87=>
 IfK c87
 (Q6 b fun c88=>
 Qh c88 35 fun c89=>
 LdK c0 c89 fun c90=>
 YG 1 c90 b9 fun c91=>
 LdK c0 c91 fun c92=>
 Qb prog 110 #[a,c92] c0 fun _x537 c93=>
 Qp prog .sub 3 b9 (.int .i64 1) fun c94=>
 Yf t1 t2 [c94] c93)
 (l2 [b9] c0)) fun l2=>∀c95:Value,∀t3:Qf,l2 [c95] t3->
 Qb prog 92 #[a,l1] t3 fun c96 c97=>
 f7 [c96] c97)
 (f7 [(.int .u32 0)] b8)) fun f7=>∀t4:Value,∀c1:Qf,f7 [t4] c1->
 QN (fun f8=>
 Q6 b fun c98=>
 Qh c98 36 fun c99=>
 LdK c1 c99 fun d00=>
 Qp prog .neq 147 d00 (.slice none 0 0) fun d01=>
 IfK d01
 (Q6 b fun d02=>
 Qh d02 36 fun d03=>
 LdK c1 d03 fun d04=>
 YX d04 fun m=>
 Qf0 c1 72 4 z72 m m fun t5 d05=>
 QN (fun l3=>
 YO [(.int .i64 0)] d05 fun t6 t7=>∀o:Value,∀c2:Qf,t6 t7 [o] c2->
 Qp prog .lss 3 o m fun d06=>
 IfK d06
 (Q6 b fun d07=>
 Qh d07 36 fun d08=>
 LdK c2 d08 fun d09=>
 YG 1 d09 o fun d10=>
 LdK c2 d10 fun d11=>
 Qb prog 107 #[d11,a] c2 fun d12 d13=>
 YG 1 t5 o fun d14=>
 StK d13 1 d14 d12 fun d15=>
 Qp prog .add 3 o (.int .i64 1) fun d16=>
 Yf t6 t7 [d16] d15)
 (l3 [o] c2)) fun l3=>∀d17:Value,∀t8:Qf,l3 [d17] t8->
 Qb prog 111 #[a,m] t8 fun _x572 d18=>
 QN (fun l4=>
 Qp prog .sub 3 m (.int .i64 1) fun d19=>
 YO [d19] d18 fun t9 u0=>∀c3:Value,∀f9:Qf,t9 u0 [c3] f9->
 Qp prog .geq 3 c3 (.int .i64 0) fun d20=>
 IfK d20
 (YG 1 t5 c3 fun d21=>
 LdK f9 d21 fun d22=>
 Qb prog 75 #[a,d22] f9 fun _x584 d23=>
 Qp prog .sub 3 c3 (.int .i64 1) fun d24=>
 Yf t9 u0 [d24] d23)
 (l4 [c3] f9)) fun l4=>∀d25:Value,∀u1:Qf,l4 [d25] u1->
 Qb prog 92 #[a,m] u1 fun d26 d27=>
 f8 [d26] d27)
 (f8 [(.int .u32 0)] c1)) fun f8=>∀u2:Value,∀c4:Qf,f8 [u2] c4->
 QN (fun g0=>
 Q6 b fun d28=>
 Qh d28 38 fun d29=>
 LdK c4 d29 fun d30=>
 Qp prog .neq 35 d30 (.slice none 0 0) fun d31=>
 IfK d31
 (Q6 b fun d32=>
 Qh d32 38 fun d33=>
 LdK c4 d33 fun d34=>
 YX d34 fun l5=>
 Qb prog 112 #[a,l5] c4 fun _x600 d35=>
 QN (fun l6=>
 Qp prog .sub 3 l5 (.int .i64 1) fun d36=>
 YO [d36] d35 fun u3 u4=>∀c5:Value,∀c6:Qf,u3 u4 [c5] c6->
 Qp prog .geq 3 c5 (.int .i64 0) fun d37=>
 IfK d37
 (Q6 b fun d38=>
 Qh d38 38 fun d39=>
 LdK c6 d39 fun d40=>
 YG 1 d40 c5 fun d41=>
 LdK c6 d41 fun d42=>
 Qb prog 110 #[a,d42] c6 fun _x615 d43=>
 Qp prog .sub 3 c5 (.int .i64 1) fun d44=>
 Yf u3 u4 [d44] d43)
 (l6 [c5] c6)) fun l6=>∀d45:Value,∀u5:Qf,l6 [d45] u5->
 Qb prog 92 #[a,l5] u5 fun d46 d47=>
 g0 [d46] d47)
 (g0 [(.int .u32 0)] c4)) fun g0=>∀u6:Value,∀c7:Qf,g0 [u6] c7->
 QN (fun g1=>
 Q6 b fun d48=>
 Qh d48 40 fun d49=>
 LdK c7 d49 fun d50=>
 Qp prog .neq 35 d50 (.slice none 0 0) fun d51=>
 IfK d51
 (Q6 b fun d52=>
 Qh d52 40 fun d53=>
 LdK c7 d53 fun d54=>
 YX d54 fun l7=>
 Qb prog 113 #[a,l7] c7 fun _x631 d55=>
 QN (fun l8=>
 Qp prog .sub 3 l7 (.int .i64 1) fun d56=>
 YO [d56] d55 fun u7 u8=>∀c8:Value,∀c9:Qf,u7 u8 [c8] c9->
 Qp prog .geq 3 c8 (.int .i64 0) fun d57=>
 IfK d57
 (Q6 b fun d58=>
 Qh d58 40 fun d59=>
 LdK c9 d59 fun d60=>
 YG 1 d60 c8 fun d61=>
 LdK c9 d61 fun d62=>
 Qb prog 110 #[a,d62] c9 fun _x646 d63=>
 Qp prog .sub 3 c8 (.int .i64 1) fun d64=>
 Yf u7 u8 [d64] d63)
 (l8 [c8] c9)) fun l8=>∀d65:Value,∀u9:Qf,l8 [d65] u9->
 Qb prog 92 #[a,l7] u9 fun d66 d67=>
 g1 [d66] d67)
 (g1 [(.int .u32 0)] c7)) fun g1=>∀v0:Value,∀l9:Qf,g1 [v0] l9->
 Q6 b fun d68=>
 Qh d68 41 fun d69=>
 LdK l9 d69 fun d70=>
 Qb prog 114 #[d70,a] l9 fun d71 v1=>
 Q6 b fun d72=>
 Qh d72 42 fun d73=>
 LdK v1 d73 fun d74=>
 Qb prog 115 #[d74,a] v1 fun d75 g2=>
 QN (fun g3=>
 Q6 b fun d76=>
 Qh d76 43 fun d77=>
 LdK g2 d77 fun d78=>
 Qp prog .neq 159 d78 (.slice none 0 0) fun d79=>
 IfK d79
 (Q6 b fun d80=>
 Qh d80 43 fun d81=>
 LdK g2 d81 fun d82=>
 YX d82 fun m0=>
 Qb prog 116 #[a,m0] g2 fun _x674 d83=>
 QN (fun m1=>
 Qp prog .sub 3 m0 (.int .i64 1) fun d84=>
 YO [d84] d83 fun v2 v3=>∀d0:Value,∀d1:Qf,v2 v3 [d0] d1->
 Qp prog .geq 3 d0 (.int .i64 0) fun d85=>
 IfK d85
 (Q6 b fun d86=>
 Qh d86 43 fun d87=>
 LdK d1 d87 fun d88=>
 YG 1 d88 d0 fun d89=>
 LdK d1 d89 fun d90=>
 Qb prog 117 #[a,d90] d1 fun _x689 d91=>
 Qp prog .sub 3 d0 (.int .i64 1) fun d92=>
 Yf v2 v3 [d92] d91)
 (m1 [d0] d1)) fun m1=>∀d93:Value,∀v4:Qf,m1 [d93] v4->
 Qb prog 92 #[a,m0] v4 fun d94 d95=>
 g3 [d94] d95)
 (g3 [(.int .u32 0)] g2)) fun g3=>∀v5:Value,∀v6:Qf,g3 [v5] v6->
 Qb prog 118 #[a] v6 fun _x694 v7=>
 Q6 b fun d96=>
 Qh d96 0 fun d97=>
 LdK v7 d97 fun d98=>
 Qb prog 119 #[d98,a] v7 fun d99 e00=>
 Qb prog 120 #[a,d99] e00 fun _x703 v8=>
 Q6 b fun e01=>
 Qh e01 1 fun e02=>
 LdK v8 e02 fun e03=>
 Qb prog 121 #[a,e03] v8 fun _x709 v9=>
 Q6 b fun e04=>
 Qh e04 2 fun e05=>
 LdK v9 e05 fun e06=>
 Qb prog 122 #[a,e06] v9 fun _x715 e07=>
 Qb prog 123 #[a,z4] e07 fun _x718 e08=>
 Qb prog 124 #[a,m2] e08 fun _x721 w0=>
 Q6 b fun e09=>
 Qh e09 5 fun e10=>
 LdK w0 e10 fun e11=>
 Qb prog 125 #[a,e11] w0 fun _x727 d2=>
 QN (fun g4=>
 Q6 b fun e12=>
 Qh e12 6 fun e13=>
 LdK d2 e13 fun e14=>
 Qp prog .neq 151 e14 (.pointer none) fun e15=>
 IfK e15
 (Q6 b fun e16=>
 Qh e16 6 fun e17=>
 LdK d2 e17 fun e18=>
 Q6 e18 fun e19=>
 Qh e19 0 fun e20=>
 LdK d2 e20 fun e21=>
 Qb prog 126 #[a,e21] d2 fun _x741 e22=>
 g4 [] e22)
 (g4 [] d2)) fun g4=>∀w1:Qf,g4 [] w1->
 Qb prog 127 #[a,a07] w1 fun _x744 e23=>
 Qb prog 128 #[a,m6] e23 fun _x747 e24=>
 Qb prog 129 #[a,o4] e24 fun _x750 e25=>
 Qb prog 130 #[a,p2] e25 fun _x753 e26=>
 Qb prog 131 #[a,a91] e26 fun _x756 e27=>
 Qb prog 132 #[a,p3] e27 fun _x759 e28=>
 Qb prog 133 #[a,b04] e28 fun _x762 w2=>
 Q6 b fun e29=>
 Qh e29 13 fun e30=>
 LdK w2 e30 fun e31=>
 Qb prog 134 #[a,e31] w2 fun _x768 w3=>
 Q6 b fun e32=>
 Qh e32 14 fun e33=>
 LdK w3 e33 fun e34=>
 Qb prog 135 #[a,e34] w3 fun _x774 w4=>
 Q6 b fun e35=>
 Qh e35 15 fun e36=>
 LdK w4 e36 fun e37=>
 Qb prog 136 #[a,e37] w4 fun _x780 w5=>
 Q6 b fun e38=>
 Qh e38 16 fun e39=>
 LdK w5 e39 fun e40=>
 Qb prog 137 #[a,e40] w5 fun _x786 w6=>
 Q6 b fun e41=>
 Qh e41 17 fun e42=>
 LdK w6 e42 fun e43=>
 Qb prog 138 #[a,e43] w6 fun _x792 w7=>
 Q6 b fun e44=>
 Qh e44 18 fun e45=>
 LdK w7 e45 fun e46=>
 Qb prog 139 #[a,e46] w7 fun _x798 w8=>
 Q6 b fun e47=>
 Qh e47 19 fun e48=>
 LdK w8 e48 fun e49=>
 Qb prog 140 #[a,e49] w8 fun _x804 w9=>
 Q6 b fun e50=>
 Qh e50 20 fun e51=>
 LdK w9 e51 fun e52=>
 Qb prog 141 #[a,e52] w9 fun _x810 y0=>
 Q6 b fun e53=>
 Qh e53 21 fun e54=>
 LdK y0 e54 fun e55=>
 Qb prog 142 #[a,e55] y0 fun _x816 e56=>
 Qb prog 143 #[a,p7] e56 fun _x819 y1=>
 Q6 b fun e57=>
 Qh e57 23 fun e58=>
 LdK y1 e58 fun e59=>
 Qb prog 144 #[a,e59] y1 fun _x825 y2=>
 Q6 b fun e60=>
 Qh e60 24 fun e61=>
 LdK y2 e61 fun e62=>
 Qb prog 145 #[a,e62] y2 fun _x831 y3=>
 Q6 b fun e63=>
 Qh e63 25 fun e64=>
 LdK y3 e64 fun e65=>
 Qb prog 146 #[a,e65] y3 fun _x837 e66=>
 Qb prog 147 #[a,q5] e66 fun _x840 e67=>
 Qb prog 148 #[a,q9] e67 fun _x843 e68=>
 Qb prog 149 #[a,r0] e68 fun _x846 e69=>
 Qb prog 150 #[a,r4] e69 fun _x849 e70=>
 Qb prog 151 #[a,r8] e70 fun _x852 e71=>
 Qb prog 152 #[a,s2] e71 fun _x855 e72=>
 Qb prog 153 #[a,c47] e72 fun _x858 e73=>
 Qb prog 154 #[a,t0] e73 fun _x861 y4=>
 Q6 b fun e74=>
 Qh e74 34 fun e75=>
 LdK y4 e75 fun e76=>
 Qb prog 155 #[a,e76] y4 fun _x867 e77=>
 Qb prog 156 #[a,t4] e77 fun _x870 e78=>
 Qb prog 157 #[a,u2] e78 fun _x873 y5=>
 Q6 b fun e79=>
 Qh e79 37 fun e80=>
 LdK y5 e80 fun e81=>
 Qb prog 158 #[a,e81] y5 fun _x879 e82=>
 Qb prog 159 #[a,u6] e82 fun _x882 y6=>
 Q6 b fun e83=>
 Qh e83 39 fun e84=>
 LdK y6 e84 fun e85=>
 Qb prog 160 #[a,e85] y6 fun _x888 e86=>
 Qb prog 161 #[a,v0] e86 fun _x891 d3=>
 QN (fun g5=>
 Q6 b fun e87=>
 Qh e87 41 fun e88=>
 LdK d3 e88 fun e89=>
 Qp prog .neq 157 e89 (.pointer none) fun e90=>
 IfK e90
 (Q6 b fun e91=>
 Qh e91 41 fun e92=>
 LdK d3 e92 fun e93=>
 Q6 e93 fun e94=>
 Qh e94 0 fun e95=>
 LdK d3 e95 fun e96=>
 Qb prog 162 #[a,e96] d3 fun _x905 e97=>
 g5 [] e97)
 (g5 [] d3)) fun g5=>∀y7:Qf,g5 [] y7->
 Qb prog 163 #[a,d71] y7 fun _x908 d4=>
 QN (fun g6=>
 Q6 b fun e98=>
 Qh e98 42 fun e99=>
 LdK d4 e99 fun f00=>
 Qp prog .neq 158 f00 (.pointer none) fun f01=>
 IfK f01
 (Q6 b fun f02=>
 Qh f02 42 fun f03=>
 LdK d4 f03 fun f04=>
 Q6 f04 fun f05=>
 Qh f05 0 fun f06=>
 LdK d4 f06 fun f07=>
 Qb prog 164 #[a,f07] d4 fun _x922 f08=>
 g6 [] f08)
 (g6 [] d4)) fun g6=>∀y8:Qf,g6 [] y8->
 Qb prog 165 #[a,d75] y8 fun _x925 f09=>
 Qb prog 166 #[a,v5] f09 fun _x928 y9=>
 Q6 b fun f10=>
 Qh f10 44 fun f11=>
 LdK y9 f11 fun f12=>
 Qb prog 167 #[a,f12] y9 fun _x934 f13=>
 Qb prog 168 #[a] f13 fun f14 f15=>
 R f14 f15)
theorem w23 {a b h R} (H:s23 a b h R):FnS prog 23 #[a,b] h R:=wq Tryz.func23 (by kernel_rfl) H
theorem w89 {a b h R} (H:tp89 151 173 273 281 276 282 a b h R):FnS prog 89 #[a,b] h R:=wq Tryz.func89 (by kernel_rfl) H
theorem w91 {a b h R} (H:tp91 164 284 a b h R):FnS prog 91 #[a,b] h R:=wq Tryz.func91 (by kernel_rfl) H
def s95 (b a:Value) (h:Qf) (R:Kn):Prop:=
 Qp prog .eql 153 b (.pointer none) fun e=>
 IfK e
 (R (.int .u32 0) h)
 (Q6 b fun f=>
 Qh f 0 fun g=>
 LdK h g fun i=>
 Qb prog 87 #[a,i] h fun j l=>
 Qb prog 286 #[a] l fun _x15 m=>
 Qb prog 287 #[a,j] m fun _x18 c=>
 Q6 b fun o=>
 Qh o 1 fun p=>
 LdK c p fun q=>
 Qb prog 288 #[a,q] c fun _x24 d=>
 Q6 b fun r=>
 Qh r 2 fun s=>
 LdK d s fun t=>
 Qb prog 289 #[a,t] d fun _x30 u=>
 Qb prog 290 #[a] u fun v w=>
 R v w)
theorem w95 {a b h R} (H:s95 a b h R):FnS prog 95 #[a,b] h R:=wq Tryz.func95 (by kernel_rfl) H
theorem w100 {a b h R} (H:tp91 169 292 a b h R):FnS prog 100 #[a,b] h R:=wq Tryz.func100 (by kernel_rfl) H
theorem w106 {a b h R} (H:tp106 156 295 296 a b h R):FnS prog 106 #[a,b] h R:=wq Tryz.func106 (by kernel_rfl) H
theorem w107 {a b h R} (H:tp107 191 297 298 299 a b h R):FnS prog 107 #[a,b] h R:=wq Tryz.func107 (by kernel_rfl) H
theorem w114 {a b h R} (H:tp89 157 177 273 281 276 282 a b h R):FnS prog 114 #[a,b] h R:=wq Tryz.func114 (by kernel_rfl) H
theorem w115 {a b h R} (H:tp89 158 180 73 23 73 23 a b h R):FnS prog 115 #[a,b] h R:=wq Tryz.func115 (by kernel_rfl) H
def s119 (a b:Value) (h:Qf) (R:Kn):Prop:=
 Qp prog .eql 150 a (.pointer none) fun c=>
 IfK c
 (R (.int .u32 0) h)
 (Q6 a fun d=>
 Qh d 0 fun e=>
 LdK h e fun f=>
 Q6 a fun g=>
 Qh g 1 fun i=>
 LdK h i fun j=>
 Q6 a fun l=>
 Qh l 2 fun m=>
 LdK h m fun o=>
 Q6 a fun p=>
 Qh p 3 fun q=>
 LdK h q fun r=>
 Q6 a fun s=>
 Qh s 4 fun t=>
 LdK h t fun u=>
 Q6 a fun v=>
 Qh v 5 fun w=>
 LdK h w fun y=>
 Q6 y fun z=>
 Qh z 0 fun a0=>
 LdK h a0 fun a1=>
 Q6 a fun a2=>
 Qh a2 5 fun a3=>
 LdK h a3 fun a4=>
 Q6 a4 fun a5=>
 Qh a5 1 fun a6=>
 LdK h a6 fun a7=>
 Qb prog 302 #[b,f,j,o,r,u,a1,a7] h fun a8 a9=>
 R a8 a9)
theorem w119 {a b h R} (H:s119 a b h R):FnS prog 119 #[a,b] h R:=wq Tryz.func119 (by kernel_rfl) H
theorem w281 {a b h R} (H:tp107 273 353 354 355 a b h R):FnS prog 281 #[a,b] h R:=wq Tryz.func281 (by kernel_rfl) H
end Go.Proofs
