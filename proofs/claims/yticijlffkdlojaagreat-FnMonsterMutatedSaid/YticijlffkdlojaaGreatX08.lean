/- WHAT IS PROVED: the given statement of FnMonsterMutated, whatever the input: this is part 8 of 14. No conditions. -/
import Derived.Test.YticijlffkdlojaaGreatX07
set_option linter.all false
namespace Go.Proofs
open Go Go.Vc
open Tryz (prog)
theorem QM.sc {A k:Nat} {bs:List UInt8} {pos vt vo x d:Nat} {ab:Prop} (h:QM A bs pos vt vo ab (ZW k x)) (hab:ab->x=d):Sc k bs pos vt vo d x:=by
 rcases h with ⟨h1,h2⟩|⟨h1,_,h3⟩
 ·exact Or.inl ⟨h1,hab h2⟩
 ·exact Or.inr ⟨h1,h3.1,h3.2.2.symm⟩
def flR (x d:Nat):Nat:=if FloatKind.f32.format.order x d=some .eq then d else x
theorem QM.there {A:Nat} {bs:List UInt8} {pos vt vo:Nat} {Q:PP} (h:QM A bs pos vt vo False Q):slotAt bs vt vo≠0/\Q A bs (pos+slotAt bs vt vo):=by
 rcases h with ⟨_,h⟩|⟨h1,_,h3⟩
 ·exact h.elim
 ·exact ⟨h1,h3⟩
theorem QM.zero {A:Nat} {bs:List UInt8} {pos vt vo:Nat} {ab:Prop} {Q:PP} (h:QM A bs pos vt vo ab Q) (h0:slotAt bs vt vo=0):ab:=by
 rcases h with h|h
 ·exact h.2
 ·exact absurd h0 h.1
theorem QM.got {A:Nat} {bs:List UInt8} {pos vt vo:Nat} {ab:Prop} {Q:PP} (h:QM A bs pos vt vo ab Q) (h0:slotAt bs vt vo≠0):¬ab/\Q A bs (pos+slotAt bs vt vo):=by
 rcases h with h|h
 ·exact absurd h.1 h0
 ·exact h.2
def Yx (bs:List UInt8) (p:Nat) (xs:List UInt8):Prop:=p+xs.length<=bs.length/\(bs.drop p).take xs.length=xs
theorem Yx.byte {bs xs:List UInt8} {p i:Nat} (h:Yx bs p xs) (hi:i<xs.length):byteN bs (p+i)=byteN xs i:=by
 have e:xs[i]?=bs[p+i]?:=by
  conv=>lhs;rw[<-h.2]
  rw[List.getElem?_take,if_pos hi,List.getElem?_drop]
 unfold byteN
 congr 1
 simp only[List.getD]
 rw[e]
theorem Yx.le1 {bs xs:List UInt8} {p i:Nat} (h:Yx bs p xs) (hi:i+1<=xs.length):byteN bs (p+i)=byteN xs i:=h.byte hi
theorem Yx.le2 {bs xs:List UInt8} {p i:Nat} (h:Yx bs p xs) (hi:i+2<=xs.length):Vc.le2 bs (p+i)=Vc.le2 xs i:=by
 unfold Vc.le2;rw[h.byte (by omega),Nat.add_assoc,h.byte (by omega)]
theorem Yx.le4 {bs xs:List UInt8} {p i:Nat} (h:Yx bs p xs) (hi:i+4<=xs.length):Vc.le4 bs (p+i)=Vc.le4 xs i:=by
 unfold Vc.le4;rw[h.le2 (by omega),Nat.add_assoc,h.le2 (by omega)]
theorem Yx.le8 {bs xs:List UInt8} {p i:Nat} (h:Yx bs p xs) (hi:i+8<=xs.length):Vc.le8 bs (p+i)=Vc.le8 xs i:=by
 unfold Vc.le8;rw[h.le4 (by omega),Nat.add_assoc,h.le4 (by omega)]
theorem Yx.sub {bs xs ys:List UInt8} {p o:Nat} (h:Yx bs p xs) (hy:Yx xs o ys):Yx bs (p+o) ys:=by
 refine ⟨by have:=h.1;have:=hy.1;omega,?_⟩
 have h1:=hy.1
 have e:(bs.drop (p+o)).take ys.length=(((bs.drop p).take xs.length).drop o).take ys.length:=by
  rw[List.drop_take,List.take_take,List.drop_drop,Nat.min_eq_left (by omega)]
 rw[e,h.2,hy.2]
theorem Qd2.at {A:Nat} {bs xs:List UInt8} {o:Nat} (h:QaQ (Qd2 xs) A bs o):StrAt bs o xs.length/\Yx bs (tgt bs o+4) xs:=by
 obtain ⟨h1,h2,h3,h4,h5,h6,h7,h8⟩:=h
 exact ⟨⟨h1,h6,h4⟩,by omega,h7⟩
theorem QM.str {A:Nat} {bs xs:List UInt8} {pos vt vo:Nat} (h:QM A bs pos vt vo (xs=[]) (QaQ (Qd2 xs))):∃at_,Qhv 1 bs pos vt vo xs.length at_/\Yx bs at_ xs:=by
 rcases h with ⟨h1,h2⟩|⟨h1,_,h3⟩
 ·exact ⟨0,Or.inl ⟨h1,by rw[h2];rfl⟩,by subst h2;exact ⟨Nat.zero_le _,rfl⟩⟩
 ·have h4:=Qd2.at h3
  obtain ⟨h5,h6⟩:=h4
  exact ⟨tgt bs (pos+slotAt bs vt vo)+4,Or.inr ⟨h1,h5.1,rfl,h5.2.1,by have:=h5.2.2;omega,by have:=h5.2.2;omega⟩,h6⟩
theorem Qbn.at {k al:Nat} {items:List (List UInt8)} {A:Nat} {bs:List UInt8} {t:Nat} (hi:∀x∈items,x.length=k) (h:Qbn k al items A bs t) {i:Nat} {x:List UInt8} (hx:items[i]?=some x):Yx bs (t+4+k*i) x:=by
 obtain ⟨⟨h1,h2,h3,h4⟩,h5⟩:=h
 have hf:=Qaz items hi
 have hl:i<items.length:=by
  rcases Nat.lt_or_ge i items.length with hh|hh
  ·exact hh
  ·rw[List.getElem?_eq_none hh]at hx;cases hx
 have hB:Yx bs (t+4) items.flatten:=⟨by omega,h5⟩
 have hxl:=hi x (List.mem_of_getElem? hx)
 have hfx:∀(l:List (List UInt8)),(∀y∈l,y.length=k)->∀j,l[j]?=some x->Yx l.flatten (k*j) x:=by
  intro l hl2
  induction l with
  |nil=>intro j hj;simp at hj
  |cons y ys ih=>
   intro j hj
   have hy:=hl2 y List.mem_cons_self
   cases j with
   |zero=>
    have:y=x:=by simpa using hj
    subst this
    rw[List.flatten_cons,Nat.mul_zero]
    exact ⟨by rw[List.length_append];omega,by rw[List.drop_zero,List.take_left]⟩
   |succ j=>
    have:=ih (fun z hz=>hl2 z (List.mem_cons_of_mem _ hz)) j (by simpa using hj)
    rw[List.flatten_cons]
    refine ⟨by rw[List.length_append,Nat.mul_add];have:=this.1;omega,?_⟩
    rw[show k*(j+1)=y.length+k*j by rw[hy,Nat.mul_add];omega,List.drop_append,List.drop_eq_nil_of_le (by omega),List.nil_append,show y.length+k*j-y.length=k*j by omega]
    exact this.2
 exact hB.sub (hfx items hi i hx)
theorem leB1_at {bs:List UInt8} {p:Nat} {x:Nat} (h:Yx bs p (leB (x:Int) 1)):byteN bs p=x%256:=by
 have:=h.byte (i:=0) (by rw[Qc];decide)
 rw[Nat.add_zero]at this
 rw[this,QeL (by decide),Qgj];simp
theorem leB2_at {bs:List UInt8} {p:Nat} {x:Nat} (h:Yx bs p (leB (x:Int) 2)):le2 bs p=x%65536:=by
 have:=h.le2 (i:=0) (by rw[Qc];decide)
 rw[Nat.add_zero]at this
 have e:=QiG (x:=x) (Nat.le_refl 2) []
 rw[List.append_nil]at e
 rw[this,e]
theorem leB4_at {bs:List UInt8} {p:Nat} {x:Nat} (h:Yx bs p (leB (x:Int) 4)):le4 bs p=x%4294967296:=by
 have:=h.le4 (i:=0) (by rw[Qc];decide)
 rw[Nat.add_zero]at this
 have e:=Qgs (x:=x) (Nat.le_refl 4) []
 rw[List.append_nil]at e
 rw[this,e]
theorem leB8_at {bs:List UInt8} {p:Nat} {x:Nat} (h:Yx bs p (leB (x:Int) 8)):le8 bs p=x%18446744073709551616:=by
 have:=h.le8 (i:=0) (by rw[Qc];decide)
 rw[Nat.add_zero]at this
 have e:=le8_leB (x:=x) []
 rw[List.append_nil]at e
 rw[this,e]
theorem u64B_at {bs:List UInt8} {p:Nat} {x:UInt64} (h:Yx bs p (QaB x)):le8 bs p=x.toNat:=by
 rw[leB8_at h];have:=x.toNat_lt;omega
theorem Yx.left {bs a b:List UInt8} {p:Nat} (h:Yx bs p (a++b)):Yx bs p a:=by
 have:=h.sub (o:=0) (ys:=a) ⟨by rw[List.length_append];omega,by rw[List.drop_zero,List.take_left]⟩
 rwa [Nat.add_zero]at this
theorem Yx.right {bs a b:List UInt8} {p n:Nat} (h:Yx bs p (a++b)) (hn:a.length=n):Yx bs (p+n) b:=by
 subst hn
 exact h.sub ⟨by rw[List.length_append];omega,by rw[List.drop_left,List.take_of_length_le (Nat.le_refl _)]⟩
theorem testB_at {bs:List UInt8} {p:Nat} {t:QbF} (h:Yx bs p (QaW t.a.toNat t.b.toNat)):p+4<=bs.length/\le2 bs (p+0)=t.a.toNat/\byteN bs (p+2)=t.b.toNat:=by
 have hl:=h.1
 rw[Qb1]at hl
 refine ⟨hl,?_,?_⟩
 ·rw[Nat.add_zero,leB2_at h.left];have:=t.a.toNat_lt;omega
 ·rw[leB1_at (h.right (Qc _ _)).left];have:=t.b.toNat_lt;omega
theorem abilB_at {bs:List UInt8} {p:Nat} {t:QeD} (h:Yx bs p (Z9 t.id.toNat t.dist.toNat)):p+8<=bs.length/\le4 bs (p+0)=t.id.toNat/\le4 bs (p+4)=t.dist.toNat:=by
 have hl:=h.1
 rw[Qc1]at hl
 refine ⟨hl,?_,?_⟩
 ·rw[Nat.add_zero,leB4_at h.left];have:=t.id.toNat_lt;omega
 ·rw[leB4_at (h.right (Qc _ _))];have:=t.dist.toNat_lt;omega
theorem vec3_at {bs:List UInt8} {p:Nat} {v:Qaj} (h:Yx bs p (Qgf v)):p+32<=bs.length/\le4 bs (p+0)=v.x.toNat/\le4 bs (p+4)=v.y.toNat/\le4 bs (p+8)=v.z.toNat/\le8 bs (p+16)=v.t1.toNat/\byteN bs (p+24)=v.t2.toNat/\le2 bs (p+26)=v.a.toNat/\byteN bs (p+28)=v.b.toNat:=by
 have hl:=h.1
 rw[vec3_len]at hl
 have h1:=h.right (Qc (v.x.toNat:Int) 4)
 have h2:=h1.right (Qc (v.y.toNat:Int) 4)
 have h3:=h2.right (Qc (v.z.toNat:Int) 4)
 have h4:=h3.right (n:=4) rfl
 have h5:=h4.right (Qc (v.t1.toNat:Int) 8)
 have h6:=h5.right (Qc (v.t2.toNat:Int) 1)
 have h7:=h6.right (n:=1) rfl
 have h8:=h7.right (Qc (v.a.toNat:Int) 2)
 have:=v.x.toNat_lt;have:=v.y.toNat_lt;have:=v.z.toNat_lt;have:=v.t1.toNat_lt;have:=v.t2.toNat_lt;have:=v.a.toNat_lt;have:=v.b.toNat_lt
 refine ⟨hl,?_,?_,?_,?_,?_,?_,?_⟩
 ·rw[Nat.add_zero,leB4_at h.left];omega
 ·rw[leB4_at h1.left];omega
 ·rw[leB4_at (x:=v.z.toNat) (p:=p+8) h2.left];omega
 ·rw[leB8_at (x:=v.t1.toNat) (p:=p+16) h4.left];omega
 ·rw[leB1_at (x:=v.t2.toNat) (p:=p+24) h5.left];omega
 ·rw[leB2_at (x:=v.a.toNat) (p:=p+26) h7.left];omega
 ·rw[leB1_at (x:=v.b.toNat) (p:=p+28) h8.left];omega
end Go.Proofs
namespace Go.Proofs
open Go Go.Vc
open Tryz (prog)
def Qby (P:PP):PP:=fun A bs f=>f+4<=bs.length/\True/\tgt bs f<=bs.length/\P A bs (tgt bs f)
def StrW (xs:List UInt8):PP:=fun _ bs t=>t+4+xs.length<bs.length/\le4 bs t=xs.length/\(bs.drop (t+4)).take xs.length=xs
def Qed (k:Nat) (items:List (List UInt8)):PP:=fun _ bs t=>t+4+k*items.length<=bs.length/\le4 bs t=items.length/\(bs.drop (t+4)).take items.flatten.length=items.flatten
def VecPW (k n:Nat):PP:=fun _ bs t=>t+4+k*n<=bs.length/\le4 bs t=n
def VecTW {α:Type} (l:List α) (P:α->PP):PP:=fun A bs t=>VecPW 4 l.length A bs t/\∀(i:Nat) a,l[i]?=some a->Qby (P a) A bs (t+4+4*i)
def RefPW (x:UInt64):PP:=fun _ bs p=>∃vt,VT bs p vt/\Sc 8 bs p vt 4 0 x.toNat
def SimpleW (x:UInt8):PP:=fun _ bs p=>∃vt,VT bs p vt/\Sc 1 bs p vt 4 2 x.toNat
def ParentW:PP:=fun _ _ _=>True
def StatW (d:Qaa):PP:=fun A bs p=>∃vt,VT bs p vt/\QM A bs p vt 4 False (Qby (StrW d.id))/\Sc 8 bs p vt 6 0 d.val.toNat/\Sc 2 bs p vt 8 0 d.count.toNat
def posW (pos:Option Qaj):PP:=fun _ bs p=>match pos with|none=>True|some v=>Yx bs p (Qgf v)
def UnW (amb:Bool) (ty color:UInt8) (K:PP):PP:=fun A bs t=>if amb=false/\ty=2 then SimpleW color A bs t else K A bs t
theorem StrW.at {A:Nat} {bs xs:List UInt8} {o:Nat} (h:Qby (StrW xs) A bs o):StrAt bs o xs.length/\Yx bs (tgt bs o+4) xs:=by
 obtain ⟨h1,_,h3,h4,h6,h7⟩:=h
 exact ⟨⟨h1,h6,h4⟩,by omega,h7⟩
theorem QM.strW {A:Nat} {bs xs:List UInt8} {pos vt vo:Nat} (h:QM A bs pos vt vo (xs=[]) (Qby (StrW xs))):∃at_,Qhv 1 bs pos vt vo xs.length at_/\Yx bs at_ xs:=by
 rcases h with ⟨h1,h2⟩|⟨h1,_,h3⟩
 ·exact ⟨0,Or.inl ⟨h1,by rw[h2];rfl⟩,by subst h2;exact ⟨Nat.zero_le _,rfl⟩⟩
 ·obtain ⟨h5,h6⟩:=StrW.at h3
  exact ⟨tgt bs (pos+slotAt bs vt vo)+4,Or.inr ⟨h1,h5.1,rfl,h5.2.1,by have:=h5.2.2;omega,by have:=h5.2.2;omega⟩,h6⟩
theorem items_at {k:Nat} {items:List (List UInt8)} {bs:List UInt8} {a:Nat} (hi:∀x∈items,x.length=k) (hl:a+k*items.length<=bs.length) (hb:(bs.drop a).take items.flatten.length=items.flatten) {i:Nat} {x:List UInt8} (hx:items[i]?=some x):Yx bs (a+k*i) x:=by
 have hf:=Qaz items hi
 have hB:Yx bs a items.flatten:=⟨by omega,hb⟩
 have hfx:∀(l:List (List UInt8)),(∀y∈l,y.length=k)->∀j,l[j]?=some x->Yx l.flatten (k*j) x:=by
  intro l hl2
  induction l with
  |nil=>intro j hj;simp at hj
  |cons y ys ih=>
   intro j hj
   have hy:=hl2 y List.mem_cons_self
   cases j with
   |zero=>
    have:y=x:=by simpa using hj
    subst this
    rw[List.flatten_cons,Nat.mul_zero]
    exact ⟨by rw[List.length_append];omega,by rw[List.drop_zero,List.take_left]⟩
   |succ j=>
    have:=ih (fun z hz=>hl2 z (List.mem_cons_of_mem _ hz)) j (by simpa using hj)
    rw[List.flatten_cons]
    refine ⟨by rw[List.length_append,Nat.mul_add];have:=this.1;omega,?_⟩
    rw[show k*(j+1)=y.length+k*j by rw[hy,Nat.mul_add];omega,List.drop_append,List.drop_eq_nil_of_le (by omega),List.nil_append,show y.length+k*j-y.length=k*j by omega]
    exact this.2
 exact hB.sub (hfx items hi i hx)
theorem QM.vecW {A k:Nat} {bs:List UInt8} {items:List (List UInt8)} {pos vt vo:Nat} (hi:∀x∈items,x.length=k) (h:QM A bs pos vt vo (items=[]) (Qby (Qed k items))):
  ∃at_,Qhv k bs pos vt vo items.length at_/\∀(i:Nat) x,items[i]?=some x->Yx bs (at_+k*i) x:=by
 rcases h with ⟨h1,h2⟩|⟨h1,_,h3⟩
 ·subst h2
  exact ⟨0,Or.inl ⟨h1,rfl⟩,fun i x h=>by simp at h⟩
 ·obtain ⟨q1,_,q3,v1,v2,v3⟩:=h3
  exact ⟨tgt bs (pos+slotAt bs vt vo)+4,Or.inr ⟨h1,q1,rfl,v2,v1,by omega⟩,fun i x hx=>items_at hi v1 v3 hx⟩
theorem QM.vecTW {α:Type} {A:Nat} {bs:List UInt8} {l:List α} {P:α->PP} {pos vt vo:Nat} (h:QM A bs pos vt vo (l=[]) (Qby (VecTW l P))):
  ∃at_,Qhv 4 bs pos vt vo l.length at_/\∀(i:Nat) a,l[i]?=some a->Qby (P a) A bs (at_+4*i):=by
 rcases h with ⟨h1,h2⟩|⟨h1,_,h3⟩
 ·subst h2
  exact ⟨0,Or.inl ⟨h1,rfl⟩,fun i x h=>by simp at h⟩
 ·obtain ⟨q1,_,q3,⟨v1,v2⟩,q5⟩:=h3
  exact ⟨tgt bs (pos+slotAt bs vt vo)+4,Or.inr ⟨h1,q1,rfl,v2,v1,by omega⟩,q5⟩
structure OwnW (A:Nat) (bs:List UInt8) (pos vt:Nat) (d:ZT):Prop where
 tab:VT bs pos vt
 pos0:QM A bs pos vt 4 (d.pos=none) (posW d.pos)
 mana:Sc 2 bs pos vt 6 150 d.mana.toNat
 hp:Sc 2 bs pos vt 8 100 d.hp.toNat
 name:QM A bs pos vt 10 (False) (Qby (StrW d.name))
 inventory:QM A bs pos vt 14 (d.inventory=[]) (Qby (StrW d.inventory))
 color:Sc 1 bs pos vt 16 8 d.color.toNat
 testTy:Sc 1 bs pos vt 18 0 d.testTy.toNat
 test4:QM A bs pos vt 22 ((d.test4.map fun t=>QaW t.a.toNat t.b.toNat)=[]) (Qby (Qed 4 (d.test4.map fun t=>QaW t.a.toNat t.b.toNat)))
 strings:QM A bs pos vt 24 (d.strings=[]) (Qby (VecTW d.strings StrW))
 nested:QM A bs pos vt 30 (d.nested=[]) (Qby (StrW d.nested))
 empty:QM A bs pos vt 32 (d.empty=none) (Qby ((fun A bs p=>∀s,d.empty=some s->StatW s A bs p)))
 bool:Sc 1 bs pos vt 34 0 (if d.bool then 1 else 0)
 s32:Sc 4 bs pos vt 36 0 d.s32.toNat
 u32:Sc 4 bs pos vt 38 0 d.u32.toNat
 s64:Sc 8 bs pos vt 40 0 d.s64.toNat
 u64:Sc 8 bs pos vt 42 0 d.u64.toNat
 s32a:Sc 4 bs pos vt 44 0 d.s32a.toNat
 u32a:Sc 4 bs pos vt 46 0 d.u32a.toNat
 s64a:Sc 8 bs pos vt 48 0 d.s64a.toNat
 u64a:Sc 8 bs pos vt 50 0 d.u64a.toNat
 bools:QM A bs pos vt 52 ((d.bools.map Qfe)=[]) (Qby (Qed 1 (d.bools.map Qfe)))
 f:Sc 4 bs pos vt 54 1078530000 d.f.toNat
 f2:Sc 4 bs pos vt 56 1077936128 d.f2.toNat
 f3:Sc 4 bs pos vt 58 0 d.f3.toNat
 strings2:QM A bs pos vt 60 (d.strings2=[]) (Qby (VecTW d.strings2 StrW))
 abilities:QM A bs pos vt 62 ((d.abilities.map fun t=>Z9 t.id.toNat t.dist.toNat)=[]) (Qby (Qed 8 (d.abilities.map fun t=>Z9 t.id.toNat t.dist.toNat)))
 flex:QM A bs pos vt 64 (d.flex=[]) (Qby (StrW d.flex))
 test5:QM A bs pos vt 66 ((d.test5.map fun t=>QaW t.a.toNat t.b.toNat)=[]) (Qby (Qed 4 (d.test5.map fun t=>QaW t.a.toNat t.b.toNat)))
 longs:QM A bs pos vt 68 ((d.longs.map QaB)=[]) (Qby (Qed 8 (d.longs.map QaB)))
 doubles:QM A bs pos vt 70 ((d.doubles.map QaB)=[]) (Qby (Qed 8 (d.doubles.map QaB)))
 parent:QM A bs pos vt 72 (d.parent=false) (Qby (ParentW))
 refs:QM A bs pos vt 74 (d.refs=[]) (Qby (VecTW d.refs RefPW))
 singleWeak:Sc 8 bs pos vt 76 0 d.singleWeak.toNat
 weak:QM A bs pos vt 78 ((d.weak.map QaB)=[]) (Qby (Qed 8 (d.weak.map QaB)))
 strong:QM A bs pos vt 80 (d.strong=[]) (Qby (VecTW d.strong RefPW))
 coOwning:Sc 8 bs pos vt 82 0 d.coOwning.toNat
 coOwnings:QM A bs pos vt 84 ((d.coOwnings.map QaB)=[]) (Qby (Qed 8 (d.coOwnings.map QaB)))
 nonOwning:Sc 8 bs pos vt 86 0 d.nonOwning.toNat
 nonOwnings:QM A bs pos vt 88 ((d.nonOwnings.map QaB)=[]) (Qby (Qed 8 (d.nonOwnings.map QaB)))
 uniqTy:Sc 1 bs pos vt 90 0 d.uniqTy.toNat
 ambTy:Sc 1 bs pos vt 94 0 d.ambTy.toNat
 enums:QM A bs pos vt 98 ((d.enums.map fun b=>[b])=[]) (Qby (Qed 1 (d.enums.map fun b=>[b])))
 signedEnum:Sc 1 bs pos vt 100 255 d.signedEnum.toNat
def flU (x D:UInt32):UInt32:=if FloatKind.f32.format.order x.toNat D.toNat=some .eq then D else x
theorem flU_toNat (x D:UInt32):(flU x D).toNat=flR x.toNat D.toNat:=by unfold flU flR;split<;>rfl
def flD (d:ZT):ZT:={d with f:=flU d.f 1078530000,f2:=flU d.f2 1077936128,f3:=flU d.f3 0}
def flDF (fc:Nat) (d:ZT):ZT:={d with f:=if fc=25 then d.f else flU d.f 1078530000,f2:=if fc=26 then d.f2 else flU d.f2 1077936128,f3:=if fc=27 then d.f3 else flU d.f3 0}
theorem flU_if (p:Prop) [Decidable p] (x D:UInt32):(if p then x else flU x D).toNat=if p then x.toNat else flR x.toNat D.toNat:=by split;rfl;exact flU_toNat x D
theorem QM.scFF {A fc o:Nat} {bs:List UInt8} {pos vt vo x d:Nat} (h:QM A bs pos vt vo (FloatKind.f32.format.order x d=some .eq/\fc≠o) (ZW 4 x)):Sc 4 bs pos vt vo d (if fc=o then x else flR x d):=by
 unfold flR
 rcases h with ⟨h1,h2⟩|⟨h1,h2,h3⟩
 ·rw[if_neg h2.2,if_pos h2.1];exact Or.inl ⟨h1,rfl⟩
 ·by_cases hf:fc=o
  ·rw[if_pos hf];exact Or.inr ⟨h1,h3.1,h3.2.2.symm⟩
  ·rw[if_neg hf,if_neg (fun g=>h2 ⟨g,hf⟩)];exact Or.inr ⟨h1,h3.1,h3.2.2.symm⟩
theorem QM.map {A:Nat} {bs:List UInt8} {pos vt vo:Nat} {ab:Prop} {Q Q':PP} (h:QM A bs pos vt vo ab Q) (hQ:Q A bs (pos+slotAt bs vt vo)->Q' A bs (pos+slotAt bs vt vo)):QM A bs pos vt vo ab Q':=by
 rcases h with h|⟨h1,h2,h3⟩
 ·exact Or.inl h
 ·exact Or.inr ⟨h1,h2,hQ h3⟩
theorem QM.iff {A:Nat} {bs:List UInt8} {pos vt vo:Nat} {ab ab':Prop} {Q:PP} (h:QM A bs pos vt vo ab Q) (hab:ab↔ab'):QM A bs pos vt vo ab' Q:=by
 rw[<-propext hab];exact h
theorem Qdm {A:Nat} {bs:List UInt8} {o:Nat} {P P':PP} (hP:P A bs (tgt bs o)->P' A bs (tgt bs o)) (h:QaQ P A bs o):Qby P' A bs o:=⟨h.1,trivial,h.2.2.1.2,hP h.2.2.2⟩
theorem Qhi {A:Nat} {bs:List UInt8} {o:Nat} {xs:List UInt8} (h:QaQ (Qd2 xs) A bs o):Qby (StrW xs) A bs o:=Qdm (fun ⟨h1,_,h3,h4,_⟩=>⟨h1,h3,h4⟩) h
theorem Qd7 {A k al:Nat} {bs:List UInt8} {o:Nat} {items:List (List UInt8)} (h:QaQ (Qbn k al items) A bs o):Qby (Qed k items) A bs o:=Qdm (fun ⟨⟨v1,_,_,v4⟩,v5⟩=>⟨v1,v4,v5⟩) h
theorem vecTW_of {α:Type} {l:List α} {P P':α->PP} {A:Nat} {bs:List UInt8} {o:Nat} (hP:∀a p,QaQ (P a) A bs p->Qby (P' a) A bs p) (h:QaQ (Qhb l P) A bs o):Qby (VecTW l P') A bs o:=Qdm (fun ⟨⟨v1,_,_,v4⟩,v5⟩=>⟨⟨v1,v4⟩,fun i a ha=>hP a _ (v5 i a ha)⟩) h
theorem refPW_of {A:Nat} {bs:List UInt8} {o:Nat} {x:UInt64} (h:QaQ (RefP x) A bs o):Qby (RefPW x) A bs o:=Qdm (fun ⟨vt,h1,h2⟩=>⟨vt,h1.ok,h2.sc fun g=>g⟩) h
theorem simpleW_of {A:Nat} {bs:List UInt8} {o:Nat} {x:UInt8} (h:Qiy x A bs o):SimpleW x A bs o:=by
 obtain ⟨vt,h1,h2⟩:=h
 exact ⟨vt,h1.ok,h2.sc fun g=>g⟩
theorem statW_of {A:Nat} {bs:List UInt8} {o:Nat} {s:Qaa} (h:StatP s A bs o):StatW s A bs o:=by
 obtain ⟨vt,h1,h2,h3,h4⟩:=h
 exact ⟨vt,h1.ok,h2.map Qhi,h3.sc fun g=>g,h4.sc fun g=>g⟩
theorem OwnRd.toW {A:Nat} {bs:List UInt8} {pos vt fc:Nat} {d:ZT} (h:OwnRd A bs pos vt fc d):OwnW A bs pos vt (flDF fc d) where
 tab:=h.tab.ok
 pos0:=h.pos0.map fun g=>by
  unfold posQ at g
  unfold posW
  rw[show (flDF fc d).pos=d.pos from rfl]
  cases hp:d.pos with
  |none=>trivial
  |some v=>rw[hp]at g;show Yx bs _ (Qgf v);have g:BytesP 8 (Qgf v) A bs (pos+slotAt bs vt 4):=g;exact ⟨g.1,g.2.2⟩
 mana:=h.mana.sc (fun g=>g.1)
 hp:=h.hp.sc (fun g=>g.1)
 name:=h.name.map Qhi
 inventory:=h.inventory.map Qhi
 color:=h.color.sc (fun g=>g.1)
 testTy:=h.testTy.sc (fun g=>by rw[g];rfl)
 test4:=h.test4.map Qd7
 strings:=h.strings.map (vecTW_of fun _ _=>Qhi)
 nested:=h.nested.map Qhi
 empty:=h.empty.map (Qdm fun g s hs=>statW_of (g s hs))
 bool:=h.bool.sc (fun g=>g.1)
 s32:=h.s32.sc (fun g=>g.1)
 u32:=h.u32.sc (fun g=>g.1)
 s64:=h.s64.sc (fun g=>g.1)
 u64:=h.u64.sc (fun g=>g.1)
 s32a:=h.s32a.sc (fun g=>g.1)
 u32a:=h.u32a.sc (fun g=>g.1)
 s64a:=h.s64a.sc (fun g=>g.1)
 u64a:=h.u64a.sc (fun g=>g.1)
 bools:=h.bools.map Qd7
 f:=by have:=h.f.scFF;rw[show (if fc=25 then d.f.toNat else flR d.f.toNat 1078530000)=(flDF fc d).f.toNat from (flU_if (fc=25) d.f 1078530000).symm]at this;exact this
 f2:=by have:=h.f2.scFF;rw[show (if fc=26 then d.f2.toNat else flR d.f2.toNat 1077936128)=(flDF fc d).f2.toNat from (flU_if (fc=26) d.f2 1077936128).symm]at this;exact this
 f3:=by have:=h.f3.scFF;rw[show (if fc=27 then d.f3.toNat else flR d.f3.toNat 0)=(flDF fc d).f3.toNat from (flU_if (fc=27) d.f3 0).symm]at this;exact this
 strings2:=h.strings2.map (vecTW_of fun _ _=>Qhi)
 abilities:=h.abilities.map Qd7
 flex:=h.flex.map Qhi
 test5:=h.test5.map Qd7
 longs:=h.longs.map Qd7
 doubles:=h.doubles.map Qd7
 parent:=h.parent.map (Qdm fun _=>trivial)
 refs:=h.refs.map (vecTW_of fun _ _=>refPW_of)
 singleWeak:=h.singleWeak.sc (fun g=>g.1)
 weak:=h.weak.map Qd7
 strong:=h.strong.map (vecTW_of fun _ _=>refPW_of)
 coOwning:=h.coOwning.sc (fun g=>g.1)
 coOwnings:=h.coOwnings.map Qd7
 nonOwning:=h.nonOwning.sc (fun g=>g.1)
 nonOwnings:=h.nonOwnings.map Qd7
 uniqTy:=h.uniqTy.sc (fun g=>by rw[g];rfl)
 ambTy:=h.ambTy.sc (fun g=>by rw[g];rfl)
 enums:=h.enums.map Qd7
 signedEnum:=h.signedEnum.sc (fun g=>g.1)
def MonW (d:ZT) (abT:Prop) (PT:PP) (abE:Prop) (PE PU PQ PA:PP):PP:=fun A bs pos=>∃vt,OwnW A bs pos vt d/\
 QM A bs pos vt 26 abT (Qby PT)/\QM A bs pos vt 28 abE (Qby PE)/\QM A bs pos vt 20 (d.testTy=0) (Qby (UnW false d.testTy d.testColor PU))/\
 QM A bs pos vt 92 (d.uniqTy=0) (Qby (UnW false d.uniqTy d.uniqColor PQ))/\QM A bs pos vt 96 (d.ambTy=0) (Qby (UnW true d.ambTy d.ambColor PA))
mutual
def RwM:Mon->PP
 |.mk d tables enemy test uniq amb=>MonW d (tables=[]) (fun A bs t=>VecPW 4 tables.length A bs t/\RwL tables A bs (t+4)) (enemy=[]) (Rw1 enemy) (Rw1 test) (Rw1 uniq) (Rw1 amb)
def RwL:List Mon->PP
 |[]=>fun _ _ _=>True
 |m::ms=>fun A bs p=>Qby (RwM m) A bs p/\RwL ms A bs (p+4)
def Rw1:List Mon->PP
 |[]=>fun _ _ _=>False
 |m::_=>RwM m
end
theorem RwL_get:∀(ms:List Mon) {A:Nat} {bs:List UInt8} {p:Nat},RwL ms A bs p->∀(i:Nat) a,ms[i]?=some a->Qby (RwM a) A bs (p+4*i)
 |[],_,_,_,_,i,a,h=>by simp at h
 |m::ms,A,bs,p,h,i,a,ha=>by
  rw[RwL]at h
  cases i with
  |zero=>
   have:m=a:=by simpa using ha
   subst this;exact h.1
  |succ i=>
   have:=RwL_get ms h.2 i a (by simpa using ha)
   rwa [show p+4*(i+1)=p+4+4*i by omega]
mutual
def flM:Mon->Mon
 |.mk d tables enemy test uniq amb=>.mk (flD d) (QgX tables) (QgX enemy) (QgX test) (QgX uniq) (QgX amb)
def QgX:List Mon->List Mon
 |[]=>[]
 |m::ms=>flM m::QgX ms
end
theorem flMs_nil {ms:List Mon}:ms=[]↔QgX ms=[]:=by
 cases ms with
 |nil=>rw[QgX]
 |cons m ms=>rw[QgX];constructor<;>(intro h;cases h)
theorem flMs_len:∀ms:List Mon,(QgX ms).length=ms.length
 |[]=>by rw[QgX]
 |m::ms=>by rw[QgX,List.length_cons,List.length_cons,flMs_len ms]
theorem unW_of {amb:Bool} {ty color:UInt8} {K K':PP} {A:Nat} {bs:List UInt8} {t:Nat} (hK:K A bs t->K' A bs t) (h:UnP amb ty color K A bs t):UnW amb ty color K' A bs t:=by
 unfold UnP at h
 unfold UnW
 split
 ·rename_i hc;rw[if_pos hc]at h;exact simpleW_of h
 ·rename_i hc;rw[if_neg hc]at h;exact hK h
def flMF (fc:Nat):Mon->Mon
 |.mk d tables enemy test uniq amb=>.mk (flDF fc d) (QgX tables) (QgX enemy) (QgX test) (QgX uniq) (QgX amb)
theorem flMF_49:∀m:Mon,flMF 49 m=flM m
 |.mk d tables enemy test uniq amb=>by rw[flM];rfl
theorem RdMF.step (fc:Nat) {d:ZT} {tables enemy test uniq amb:List Mon} {A:Nat} {bs:List UInt8} {p:Nat} (hT:∀p,RdL tables A bs p->RwL (QgX tables) A bs p) (hE:∀p,Rd1 enemy A bs p->Rw1 (QgX enemy) A bs p)
  (hU:∀p,Rd1 test A bs p->Rw1 (QgX test) A bs p) (hQ:∀p,Rd1 uniq A bs p->Rw1 (QgX uniq) A bs p) (hA:∀p,Rd1 amb A bs p->Rw1 (QgX amb) A bs p) (h:RdMF fc (.mk d tables enemy test uniq amb) A bs p):RwM (flMF fc (.mk d tables enemy test uniq amb)) A bs p:=by
 rw[RdMF]at h
 rw[flMF,RwM]
 obtain ⟨vt,own,sT,sE,sU,sQ,sA⟩:=h
 refine ⟨vt,own.toW,(sT.iff flMs_nil).map (Qdm fun ⟨⟨v1,_,_,v4⟩,v5⟩=>⟨?_,hT _ v5⟩),(sE.iff flMs_nil).map (Qdm (hE _)),sU.map (Qdm (unW_of (hU _))),sQ.map (Qdm (unW_of (hQ _))),sA.map (Qdm (unW_of (hA _)))⟩
 rw[flMs_len];exact ⟨v1,v4⟩
mutual
theorem RdM.weak:∀(m:Mon) (A:Nat) (bs:List UInt8) (p:Nat),RdM m A bs p->RwM (flM m) A bs p
 |.mk d tables enemy test uniq amb,A,bs,p,h=>by
  rw[<-RdMF_49]at h
  rw[<-flMF_49]
  exact RdMF.step 49 (RdL.weak tables A bs) (Rd1.weak enemy A bs) (Rd1.weak test A bs) (Rd1.weak uniq A bs) (Rd1.weak amb A bs) h
theorem RdL.weak:∀(ms:List Mon) (A:Nat) (bs:List UInt8) (p:Nat),RdL ms A bs p->RwL (QgX ms) A bs p
 |[],_,_,_,_=>by rw[QgX,RwL];trivial
 |m::ms,A,bs,p,h=>by
  rw[RdL]at h
  rw[QgX,RwL]
  exact ⟨Qdm (RdM.weak m A bs _) h.1,RdL.weak ms A bs _ h.2⟩
theorem Rd1.weak:∀(ms:List Mon) (A:Nat) (bs:List UInt8) (p:Nat),Rd1 ms A bs p->Rw1 (QgX ms) A bs p
 |[],_,_,_,h=>by rw[Rd1]at h;exact h.elim
 |m::ms,A,bs,p,h=>by
  rw[Rd1]at h
  rw[QgX,Rw1]
  exact RdM.weak m A bs p h
end
structure RootRw (bs:List UInt8) (m:Mon):Prop where
 len:4<=bs.length
 le:le4 bs 0<=bs.length
 rd:∃A,RwM m A bs (le4 bs 0)
theorem RootRdF.weak {fc:Nat} {bs:List UInt8}:∀{m:Mon},RootRdF fc bs m->RootRw bs (flMF fc m)
 |.mk d tables enemy test uniq amb,h=>by
  obtain ⟨A,_,_,_,hr⟩:=h.al
  exact ⟨h.len,h.le,A,RdMF.step fc (RdL.weak tables A bs) (Rd1.weak enemy A bs) (Rd1.weak test A bs) (Rd1.weak uniq A bs) (Rd1.weak amb A bs) hr⟩
theorem RootRd.weak {bs:List UInt8} {m:Mon} (h:RootRd bs m):RootRw bs (flM m):=by
 rw[<-flMF_49];exact RootRdF.weak h
end Go.Proofs
namespace Go.Proofs
open Go Go.Vc
open Tryz (prog)
def Sim (w w' z:List UInt8) (S S':BS):Prop:=∃u,S.buf=u++(w++z)/\S'={S with buf:=u++(w'++z)}
theorem Sim.len {w w' z:List UInt8} {S S':BS} (h:Sim w w' z S S') (hw:w.length=w'.length):S'.buf.length=S.buf.length:=by
 obtain ⟨u,h1,rfl⟩:=h
 rw[h1];simp[hw]
structure Y2 (f:BS->BS):Prop where
 app:∀{w w' z:List UInt8} {S S':BS},w.length=w'.length->Sim w w' z S S'->Sim w w' z (f S) (f S')
theorem Y2.place (xs:List UInt8):Y2 (Vc.place xs):=⟨by
 rintro w w' z S S' hw ⟨u,h1,rfl⟩
 exact ⟨xs++u,by simp[Vc.place,h1],by simp[Vc.place]⟩⟩
theorem Y2.prep (k a:Nat):Y2 (Vc.prep k a):=⟨by
 intro w w' z S S' hw h
 have hl:=h.len hw
 have h2:Sim w w' z {S with min:=Nat.max S.min k} {S' with min:=Nat.max S'.min k}:=by
  obtain ⟨u,h1,rfl⟩:=h
  exact ⟨u,h1,rfl⟩
 unfold Vc.prep
 rw[hl]
 exact (Y2.place _).app hw h2⟩
theorem Y2.slot (o:Nat):Y2 (slot o):=⟨by
 intro w w' z S S' hw h
 have hl:=h.len hw
 obtain ⟨u,h1,rfl⟩:=h
 exact ⟨u,h1,by unfold Proofs.slot;rw[hl]⟩⟩
theorem Y2.comp {f g:BS->BS} (hf:Y2 f) (hg:Y2 g):Y2 (fun S=>g (f S)):=⟨fun hw h=>hg.app hw (hf.app hw h)⟩
theorem Y2.id:Y2 fun S=>S:=⟨fun _ h=>h⟩
theorem Y2.putN (k:Nat) (xs:List UInt8):Y2 (putN k xs):=(Y2.prep k 0).comp (Y2.place xs)
theorem Y2.putOff (off:Nat):Y2 (putOff off):=⟨by
 intro w w' z S S' hw h
 have h2:=(Y2.prep 4 0).app hw h
 unfold Proofs.putOff
 rw[h2.len hw]
 exact (Y2.place _).app hw h2⟩
theorem Y2.ite {p:Prop} [Decidable p] {f g:BS->BS} (hf:Y2 f) (hg:Y2 g):Y2 fun S=>if p then f S else g S:=by
 by_cases hp:p
 ·simp only[if_pos hp];exact hf
 ·simp only[if_neg hp];exact hg
theorem Y2.put (k o:Nat) (xs:List UInt8):Y2 fun S=>Proofs.slot o (Proofs.putN k xs S):=(Y2.putN k xs).comp (Y2.slot o)
theorem Y2.slotNF (fc k x d o:Nat):Y2 (slotNF fc k x d o):=show Y2 (fun S=>if x=d/\fc≠o then S else Proofs.slot o (Proofs.putN k (leB (x:Int) k) S)) from Y2.ite Y2.id (Y2.put k o _)
theorem Y2.slotFF (fc x d o:Nat):Y2 (slotFF fc x d o):=show Y2 (fun S=>if FloatKind.f32.format.order x d=some .eq/\fc≠o then S else Proofs.slot o (Proofs.putN 4 (leB (x:Int) 4) S)) from Y2.ite Y2.id (Y2.put 4 o _)
theorem Y2.slotOff (off o:Nat):Y2 (slotOff off o):=show Y2 (fun S=>if off=0 then S else Proofs.slot o (Proofs.putOff off S)) from Y2.ite Y2.id ((Y2.putOff off).comp (Y2.slot o))
theorem Y2.slotTy (ty:UInt8) (o:Nat):Y2 (slotTy ty o):=show Y2 (fun S=>if ty=0 then S else if ty.toNat=0 then S else Proofs.slot o (Proofs.putN 1 (leB (ty.toNat:Int) 1) S)) from Y2.ite Y2.id (Y2.ite Y2.id (Y2.put 1 o _))
theorem Y2.slotPos (pos:Option Qaj):Y2 (slotPos pos):=by
 cases pos with
 |none=>exact Y2.id
 |some v=>
  refine ⟨fun {w w' z S S'} hw h=>?_⟩
  have h2:=(Y2.place (Qgf v)).app hw ((Y2.prep 8 32).app hw h)
  show Sim w w' z (slotStruct (Vc.place (Qgf v) (Vc.prep 8 32 S)).buf.length 0 _) (slotStruct (Vc.place (Qgf v) (Vc.prep 8 32 S')).buf.length 0 _)
  rw[h2.len hw]
  exact (show Y2 (slotStruct (Vc.place (Qgf v) (Vc.prep 8 32 S)).buf.length 0) from Y2.ite Y2.id (Y2.slot 0)).app hw h2
set_option maxRecDepth 4000 in
theorem slotsF_blind (fc:Nat) (d:ZT) (o:List Nat):∀f∈Yp fc d o,Y2 f:=by
 intro f hf
 unfold Yp at hf
 simp only[List.mem_cons,List.not_mem_nil,or_false]at hf
 rcases hf with rfl|rfl|rfl|rfl|rfl|rfl|rfl|rfl|rfl|rfl|rfl|rfl|rfl|rfl|rfl|rfl|rfl|rfl|rfl|rfl|rfl|rfl|rfl|rfl|rfl|rfl|rfl|rfl|rfl|rfl|rfl|rfl|rfl|rfl|rfl|rfl|rfl|rfl|rfl|rfl|rfl|rfl|rfl|rfl|rfl|rfl|rfl|rfl
 all_goals first
  |exact Y2.slotNF _ _ _ _ _
  |exact Y2.slotOff _ _
  |exact Y2.slotFF _ _ _ _
  |exact Y2.slotTy _ _
  |exact Y2.slotPos _
theorem runS_sim {w w' z:List UInt8} (hw:w.length=w'.length):∀(fs:List (BS->BS)),(∀f∈fs,Y2 f)->∀{S S':BS},Sim w w' z S S'->Sim w w' z (QfT fs S) (QfT fs S')
 |[],_,_,_,h=>h
 |f::fs,hb,_,_,h=>runS_sim hw fs (fun g hg=>hb g (List.mem_cons_of_mem _ hg)) ((hb f List.mem_cons_self).app hw h)
theorem Y2.wrEnt (oo:Nat):∀vs:List Nat,Y2 (wrEnt oo vs)
 |[]=>Y2.id
 |v::vs=>(Y2.wrEnt oo vs).comp (Y2.putN 2 _)
theorem putL_append {u t xs:List UInt8} {q:Nat} (h:q+xs.length<=u.length):Qab (u++t) q xs=Qab u q xs++t:=by
 rw[Qd0 _ _ _ (by rw[List.length_append];omega),Qd0 _ _ _ h,List.take_append_of_le_length (by omega),List.drop_append_of_le_length h]
 simp
theorem Sim.patch {w w' z:List UInt8} {S S':BS} {q:Nat} (x:Int) (hq:q+4+(w.length+z.length)<=S.buf.length) (h:Sim w w' z S S'):Sim w w' z (patch q x S) (patch q x S'):=by
 obtain ⟨u,h1,rfl⟩:=h
 have hu:q+(leB x 4).length<=u.length:=by rw[Qc];rw[h1]at hq;simp only[List.length_append]at hq;omega
 refine ⟨Qab u q (leB x 4),?_,?_⟩
 ·show Qab S.buf q (leB x 4)=_
  rw[h1,putL_append hu]
 ·show ({S with buf:=Qab (u++(w'++z)) q (leB x 4)}:BS)=_
  rw[putL_append hu];rfl
theorem QiY {f g:Nat->Bool}:∀{l:List Nat},(∀x∈l,f x=g x)->Qai f l=Qai g l
 |[],_=>rfl
 |x::xs,h=>by
  rw[Qai,Qai,QiY (fun y hy=>h y (List.mem_cons_of_mem _ hy)),h x List.mem_cons_self]
def VtIn (z:List UInt8) (o:Nat):Prop:=0<o/\o<=z.length/\4<=le2 z (z.length-o)/\le2 z (z.length-o)<=o
theorem vtServes_in {vt:List Nat} {u z:List UInt8} {o:Nat} (h:VtIn z o):Z5 vt (u++z).length (u++z) o=QgZ vt (u++z).length z (z.length-o+4) (le2 z (z.length-o)-4):=by
 obtain ⟨h1,h2,h3,h4⟩:=h
 unfold Z5
 have e:(u++z).length-o=u.length+(z.length-o):=by rw[List.length_append];omega
 rw[e,YC,Nat.add_assoc]
 exact Qg3 fun i _=>by rw[Nat.add_assoc,Qc4]
theorem endObj_sim {w w' z:List UInt8} {S S':BS} (hw:w.length=w'.length) (h:Sim w w' z S S') (hv:∀o∈S.vts,VtIn z o):Sim w w' z (endObj S) (endObj S'):=by
 have h1:=(Y2.putOff 0).app hw h
 have hl1:=h1.len hw
 have hS:w.length+z.length<=S.buf.length:=by obtain ⟨u,hu,_⟩:=h;rw[hu];simp only[List.length_append];omega
 obtain ⟨x,hx,hx4,_⟩:=QcX 0 S
 have hlx:(putOff 0 S).buf.length=x.length+S.buf.length:=by rw[hx,List.length_append]
 have hoe:S'.oe=S.oe:=by obtain ⟨u,_,rfl⟩:=h;rfl
 have hvs:(putOff 0 S).vts=S.vts:=rfl
 rw[Qe5 S _ _ _ _ rfl rfl rfl rfl,Qe5 S' _ _ _ _ rfl rfl rfl rfl,hoe]
 generalize putOff 0 S=S1 at *
 generalize putOff 0 S'=S1' at *
 have hvt:S1'.vt=S1.vt/\S1'.vts=S1.vts:=by obtain ⟨u,_,rfl⟩:=h1;exact ⟨rfl,rfl⟩
 have hex:Qai (Z5 (S1'.vt.take (Ys S1'.vt)) S1'.buf.length S1'.buf) S1'.vts=Qai (Z5 (S1.vt.take (Ys S1.vt)) S1.buf.length S1.buf) S1.vts:=by
  rw[hvt.1,hvt.2,hvs,hl1]
  refine QiY fun o ho=>?_
  obtain ⟨u,hu,rfl⟩:=h1
  have e:=hl1
  show Z5 _ _ (u++(w'++z)) o=_
  have hl2:S1.buf.length=((u++w')++z).length:=by rw[<-e,List.append_assoc]
  rw[hu,<-List.append_assoc,<-List.append_assoc,vtServes_in (hv o ho),show ((u++w)++z).length=((u++w')++z).length by simp[hw],vtServes_in (hv o ho)]
 rw[hex,hl1,hvt.1,hvt.2]
 split
 ·have h2:Sim w w' z ({S1 with vt:=S1.vt.take (Ys S1.vt)}) ({S1' with vt:=S1.vt.take (Ys S1.vt),vts:=S1.vts}):=by
   obtain ⟨u,hu,rfl⟩:=h1
   exact ⟨u,hu,rfl⟩
  have h3:=(Y2.putN 2 (leB ((2*((S1.vt.take (Ys S1.vt)).length+2):Nat):Int) 2)).app hw ((Y2.putN 2 (leB ((S1.buf.length-S.oe:Nat):Int) 2)).app hw ((Y2.wrEnt S1.buf.length (S1.vt.take (Ys S1.vt))).app hw h2))
  have hle:S1.buf.length<=(putN 2 (leB ((2*((S1.vt.take (Ys S1.vt)).length+2):Nat):Int) 2) (putN 2 (leB ((S1.buf.length-S.oe:Nat):Int) 2) (wrEnt S1.buf.length (S1.vt.take (Ys S1.vt)) {S1 with vt:=S1.vt.take (Ys S1.vt)}))).buf.length:=by
   have:=(QhO S1.buf.length (S1.vt.take (Ys S1.vt)) {S1 with vt:=S1.vt.take (Ys S1.vt)}).1
   rw[QdB,QdB]
   have this':S1.buf.length<=(wrEnt S1.buf.length (S1.vt.take (Ys S1.vt)) {S1 with vt:=S1.vt.take (Ys S1.vt)}).buf.length:=this
   omega
  rw[h3.len hw]
  generalize putN 2 (leB ((2*((S1.vt.take (Ys S1.vt)).length+2):Nat):Int) 2) (putN 2 (leB ((S1.buf.length-S.oe:Nat):Int) 2) (wrEnt S1.buf.length (S1.vt.take (Ys S1.vt)) {S1 with vt:=S1.vt.take (Ys S1.vt)}))=S2 at *
  generalize putN 2 (leB ((2*((S1.vt.take (Ys S1.vt)).length+2):Nat):Int) 2) (putN 2 (leB ((S1.buf.length-S.oe:Nat):Int) 2) (wrEnt S1.buf.length (S1.vt.take (Ys S1.vt)) {S1' with vt:=S1.vt.take (Ys S1.vt),vts:=S1.vts}))=S2' at *
  obtain ⟨u,hu,e⟩:=h3.patch ((S2.buf.length-S1.buf.length:Nat):Int) (q:=S2.buf.length-S1.buf.length) (by omega)
  exact ⟨u,hu,by rw[e]⟩
 ·obtain ⟨u,hu,e⟩:=h1.patch ((Qai (Z5 (S1.vt.take (Ys S1.vt)) S1.buf.length S1.buf) S1.vts:Int)-(S1.buf.length:Int)) (q:=0) (by omega)
  exact ⟨u,hu,by rw[e]⟩
theorem finish_sim {w w' z:List UInt8} {S S':BS} (hw:w.length=w'.length) (off:Nat) (h:Sim w w' z S S'):Sim w w' z (QcM off S) (QcM off S'):=by
 have hm:S'.min=S.min:=by obtain ⟨u,_,rfl⟩:=h;rfl
 unfold QcM
 rw[hm]
 obtain ⟨u,hu,e⟩:=(Y2.putOff off).app hw ((Y2.prep S.min 4).app hw h)
 exact ⟨u,hu,by rw[e]⟩
theorem QhQ.drop {L0:Nat}:∀(n:Nat) {fs:List (BS->BS)} {ss:List Spec},QhQ L0 fs ss->QhQ L0 (fs.drop n) (ss.drop n)
 |0,_,_,h=>h
 |_+1,[],[],_=>trivial
 |n+1,_::_,_::_,h=>QhQ.drop n h.2
 |_+1,[],_::_,h=>h.elim
 |_+1,_::_,[],h=>h.elim
theorem runS_oth {L0:Nat}:∀(fs:List (BS->BS)) (ss:List Spec),QhQ L0 fs ss->∀(S:BS) (j:Nat),(∀s∈ss,j≠s.o)->(QfT fs S).vt.getD j 0=S.vt.getD j 0
 |[],[],_,_,_,_=>rfl
 |f::fs,s::ss,h,S,j,hj=>by rw[QfT,runS_oth fs ss h.2 _ j (fun s' hs'=>hj s' (List.mem_cons_of_mem _ hs')),h.1.oth S j (hj s List.mem_cons_self)]
 |[],_::_,h,_,_,_=>h.elim
 |_::_,[],h,_,_,_=>h.elim
theorem runS_append (gs:List (BS->BS)):∀(fs:List (BS->BS)) (S:BS),QfT (fs++gs) S=QfT gs (QfT fs S)
 |[],_=>rfl
 |f::fs,S=>by rw[List.cons_append,QfT,QfT,runS_append gs fs]
theorem packM_q {d:ZT} {tables enemy test uniq amb:List Mon} (hw:WfM (.mk d tables enemy test uniq amb)) {S:BS} (hI:Inv S) (h2:Qbm S) (hB:S.buf.length+Yy (.mk d tables enemy test uniq amb)<=500000000):
  MkQ S d (tables=[]) (fun A bs t=>VecP 4 4 tables.length A bs t/\RdL tables A bs (t+4)) (enemy=[]) (Rd1 enemy) (Rd1 test) (Rd1 uniq) (Rd1 amb) (Qx (fun f=>f) (Qbo d (QaE tables) (Ya enemy) (Ya test) (Ya uniq) (Ya amb)) S):=by
 rw[WfM]at hw
 obtain ⟨⟨w1,w2,w3⟩,w4,w5,w6,w7,w8⟩:=hw
 exact mon_q w1 w2 w3 (YW tables w4) (YW enemy w5) (YW test w6) (YW uniq w7) (YW amb w8) hI h2 hB
def SlP (j L:Nat):PP:=fun _ bs p=>∃vt,VT bs p vt/\slotAt bs vt (4+2*j)≠0/\p+slotAt bs vt (4+2*j)+L=bs.length
theorem SlP.stable {j L:Nat}:QQ (SlP j L):=fun A A' bs x p hA h=>by
 obtain ⟨vt,h1,h2,h3⟩:=h
 refine ⟨_,h1.shift,?_,?_⟩
 ·rw[QbY];exact h2
 ·rw[QbY,List.length_append];omega
theorem Zp {d d':ZT} {tables enemy test uniq amb:List Mon} {j n k:Nat} {xs xs':List UInt8} (hl:xs.length=xs'.length) (hx:0<xs.length) (hmk:∀t e u q a,Qbo d' t e u q a=Qbo d t e u q a)
  (hA:∀o,Yp j d o=(Yp j d o).take n++(fun S=>slot j (putN k xs S))::(Yp j d o).drop (n+1)) (hB:∀o,Yp j d' o=(Yp j d o).take n++(fun S=>slot j (putN k xs' S))::(Yp j d o).drop (n+1))
  (hO:∀o,∀s∈(Qfa j d o).drop (n+1),j≠s.o) (hj:j<49) (hw:WfM (.mk d tables enemy test uniq amb)) (hc:Yy (.mk d tables enemy test uniq amb)<=400000000):
  ∃u z vt,Qdc j (.mk d tables enemy test uniq amb)=u++(xs++z)/\Qdc j (.mk d' tables enemy test uniq amb)=u++(xs'++z)/\
   VT (u++(xs++z)) (le4 (u++(xs++z)) 0) vt/\slotAt (u++(xs++z)) vt (4+2*j)≠0/\le4 (u++(xs++z)) 0+slotAt (u++(xs++z)) vt (4+2*j)=u.length:=by
 have hn:Qan.buf.length=0:=rfl
 have hq:=packM_q hw Inv.new Qbm.new (by rw[hn];omega)
 have hp:=packMF_ok j (.mk d tables enemy test uniq amb) Qan Inv.new
 have e0:Qdt j (.mk d tables enemy test uniq amb) Qan=endT (QfT (Yp j d (Qx (fun f=>f) (Qbo d (QaE tables) (Ya enemy) (Ya test) (Ya uniq) (Ya amb)) Qan).2) (YJ 49 (Qx (fun f=>f) (Qbo d (QaE tables) (Ya enemy) (Ya test) (Ya uniq) (Ya amb)) Qan).1)):=by
  rw[Qdt];rfl
 have e0':Qdt j (.mk d' tables enemy test uniq amb) Qan=endT (QfT (Yp j d' (Qx (fun f=>f) (Qbo d (QaE tables) (Ya enemy) (Ya test) (Ya uniq) (Ya amb)) Qan).2) (YJ 49 (Qx (fun f=>f) (Qbo d (QaE tables) (Ya enemy) (Ya test) (Ya uniq) (Ya amb)) Qan).1)):=by
  rw[Qdt];unfold QiS;rw[hmk]
 have g1:=hp.len
 have g2:=hp.inv.min
 unfold Qdc
 rw[e0]at g1 g2⊢
 rw[e0']
 clear hp e0 e0'
 generalize Qx (fun f=>f) (Qbo d (QaE tables) (Ya enemy) (Ya test) (Ya uniq) (Ya amb)) Qan=q at *
 have hlen:=hq.len
 obtain ⟨T,hT,_,_,_,_,e1,⟨y,hy⟩,e2,e3,vt,e4⟩:=endT_read (fs:=Yp j d q.2) (ss:=Qfa j d q.2) (n:=49) hq.inv hq.inv2 (Qi6 j d hq.off) (by rw[slSpecs_o];decide)
  (fun s hs=>by have:=List.mem_map_of_mem (f:=Spec.o) hs;rw[slSpecs_o]at this;revert this;generalize s.o=i;revert i;decide) (by decide) (Qgo j d q.2) (show 48<600 by decide) (by omega)
 have hr:=runS_ok (Yp j d q.2) (Qgo j d q.2) 0 _ (Y8.start (n:=49) hq.inv.min)
 have i1:=runS_ok ((Yp j d q.2).take n) (fun f hf=>Qgo j d q.2 f (List.mem_of_mem_take hf)) 0 _ (Y8.start (n:=49) hq.inv.min)
 have hTA:=congrArg (fun l=>QfT l (YJ 49 q.1)) (hA q.2)
 have hTB:=congrArg (fun l=>QfT l (YJ 49 q.1)) (hB q.2)
 simp only[runS_append,QfT]at hTA hTB
 rw[hTB]
 rw[<-hT]at hr hTA g1 g2⊢
 generalize QfT ((Yp j d q.2).take n) (YJ 49 q.1)=S1 at *
 have hs1:Sim xs xs' (prep k 0 S1).buf (slot j (putN k xs S1)) (slot j (putN k xs' S1)):=by
  have hlen:(putN k xs' S1).buf.length=(putN k xs S1).buf.length:=by rw[QdB,QdB,hl]
  refine ⟨[],rfl,?_⟩
  unfold slot
  rw[hlen];rfl
 have hs2:=runS_sim hl ((Yp j d q.2).drop (n+1)) (fun f hf=>slotsF_blind j d q.2 f (List.mem_of_mem_drop hf)) hs1
 have hvt:=runS_oth _ _ (QhQ.drop (n+1) (Qi6 j d hq.off)) (slot j (putN k xs S1)) j (hO q.2)
 rw[slot_own (by rw[putN_vt,i1.vtl];exact hj)]at hvt
 rw[<-hTA]at hs2 hvt
 obtain ⟨x1,hx1⟩:=i1.ext
 have hz:(prep k 0 S1).buf=(List.replicate (padOf k (S1.buf.length+0)) 0++x1)++q.1.buf:=by
  show List.replicate (padOf k (S1.buf.length+0)) 0++S1.buf=_
  rw[hx1,List.append_assoc]
 have hzl:(putN k xs S1).buf.length=xs.length+(prep k 0 S1).buf.length:=by show (xs++_).length=_;rw[List.length_append]
 rw[hzl]at hvt
 generalize (prep k 0 S1).buf=z at *
 have hs3:=endObj_sim hl hs2 fun o ho=>by
  rw[hr.vts]at ho
  obtain ⟨k1,k2,k3,k4⟩:=hq.inv.vts o ho
  have e:z.length-o=(List.replicate (padOf k (S1.buf.length+0)) 0++x1).length+(q.1.buf.length-o):=by rw[hz,List.length_append (bs:=q.1.buf)];omega
  refine ⟨k1,by rw[hz,List.length_append (bs:=q.1.buf)];omega,?_,?_⟩
  ·rw[e,hz,YC];exact k3
  ·rw[e,hz,YC];exact k4
 have hoff:=((Y2.putOff 0).app hl hs2).len hl
 generalize QfT ((Yp j d q.2).drop (n+1)) (slot j (putN k xs' S1))=T' at *
 have e4s:=e4.sl j hj
 have e4p:=e4.pl j hj
 have o2:SlP j (xs.length+z.length) (endObj T).min (endObj T).buf ((endObj T).buf.length-(putOff 0 T).buf.length):=by
  have hv:T.vt.getD j 0≠0:=by rw[hvt];omega
  rw[if_neg hv]at e4s
  have:=e4p hv
  rw[hvt]at this e4s
  exact ⟨vt,e4.ok,by omega,by omega⟩
 obtain ⟨_,_,⟨_,f3⟩,_⟩:=finish_rd (q:=endT T) SlP.stable g2 (endObj_min T).2 (by show (endObj T).buf.length<=_;have:(endObj T).buf.length<=Qan.buf.length+_:=g1;omega) e2 o2
 have hs4:=finish_sim hl (putOff 0 T).buf.length hs3
 show ∃u z vt,(QcM (putOff 0 T).buf.length (endObj T)).buf=_/\(QcM (putOff 0 T').buf.length (endObj T')).buf=_/\_
 rw[hoff]
 have f3':SlP j (xs.length+z.length) (endObj T).min (QcM (putOff 0 T).buf.length (endObj T)).buf (le4 (QcM (putOff 0 T).buf.length (endObj T)).buf 0):=f3
 obtain ⟨u,hu,hu'⟩:=hs4
 rw[hu]at f3'⊢
 rw[hu']
 obtain ⟨vt',v1,v2,v3⟩:=f3'
 refine ⟨u,z,vt',rfl,rfl,v1,v2,?_⟩
 simp only[List.length_append]at v3
 omega
end Go.Proofs
namespace Go.Proofs
open Go Go.Vc
open Tryz (prog)
def Qfn:Nat->Nat
 |0=>1
 |1=>2
 |2=>6
 |3=>15
 |4=>16
 |5=>17
 |6=>18
 |7=>19
 |8=>20
 |9=>21
 |10=>22
 |11=>23
 |12=>25
 |13=>26
 |14=>27
 |15=>36
 |16=>39
 |17=>41
 |_=>48
def QgL:Nat->Nat
 |0=>2
 |1=>2
 |2=>1
 |3=>1
 |4=>4
 |5=>4
 |6=>8
 |7=>8
 |8=>4
 |9=>4
 |10=>8
 |11=>8
 |12=>4
 |13=>4
 |14=>4
 |15=>8
 |16=>8
 |17=>8
 |_=>1
def numW:Nat->ZT->Nat
 |0,d=>d.mana.toNat
 |1,d=>d.hp.toNat
 |2,d=>d.color.toNat
 |3,d=>(if d.bool then 1 else 0)
 |4,d=>d.s32.toNat
 |5,d=>d.u32.toNat
 |6,d=>d.s64.toNat
 |7,d=>d.u64.toNat
 |8,d=>d.s32a.toNat
 |9,d=>d.u32a.toNat
 |10,d=>d.s64a.toNat
 |11,d=>d.u64a.toNat
 |12,d=>d.f.toNat
 |13,d=>d.f2.toNat
 |14,d=>d.f3.toNat
 |15,d=>d.singleWeak.toNat
 |16,d=>d.coOwning.toNat
 |17,d=>d.nonOwning.toNat
 |_,d=>d.signedEnum.toNat
def Qdk:Nat->Nat->ZT->ZT
 |0,n,d=>{d with mana:=UInt16.ofNat n}
 |1,n,d=>{d with hp:=UInt16.ofNat n}
 |2,n,d=>{d with color:=UInt8.ofNat n}
 |3,n,d=>{d with bool:=decide (n≠0)}
 |4,n,d=>{d with s32:=UInt32.ofNat n}
 |5,n,d=>{d with u32:=UInt32.ofNat n}
 |6,n,d=>{d with s64:=UInt64.ofNat n}
 |7,n,d=>{d with u64:=UInt64.ofNat n}
 |8,n,d=>{d with s32a:=UInt32.ofNat n}
 |9,n,d=>{d with u32a:=UInt32.ofNat n}
 |10,n,d=>{d with s64a:=UInt64.ofNat n}
 |11,n,d=>{d with u64a:=UInt64.ofNat n}
 |12,n,d=>{d with f:=UInt32.ofNat n}
 |13,n,d=>{d with f2:=UInt32.ofNat n}
 |14,n,d=>{d with f3:=UInt32.ofNat n}
 |15,n,d=>{d with singleWeak:=UInt64.ofNat n}
 |16,n,d=>{d with coOwning:=UInt64.ofNat n}
 |17,n,d=>{d with nonOwning:=UInt64.ofNat n}
 |_,n,d=>{d with signedEnum:=UInt8.ofNat n}
def newW (w n:Nat):Nat:=if w=3 then (if n=0 then 0 else 1) else n%256^QgL w
def stW:Nat->ZT->Bool
 |0,d=>decide (d.mana.toNat≠150)
 |1,d=>decide (d.hp.toNat≠100)
 |2,d=>decide (d.color.toNat≠8)
 |3,d=>d.bool
 |4,d=>decide (d.s32.toNat≠0)
 |5,d=>decide (d.u32.toNat≠0)
 |6,d=>decide (d.s64.toNat≠0)
 |7,d=>decide (d.u64.toNat≠0)
 |8,d=>decide (d.s32a.toNat≠0)
 |9,d=>decide (d.u32a.toNat≠0)
 |10,d=>decide (d.s64a.toNat≠0)
 |11,d=>decide (d.u64a.toNat≠0)
 |12,d=>FloatKind.f32.format.order d.f.toNat 1078530000 !=some .eq
 |13,d=>FloatKind.f32.format.order d.f2.toNat 1077936128 !=some .eq
 |14,d=>FloatKind.f32.format.order d.f3.toNat 0 !=some .eq
 |15,d=>decide (d.singleWeak.toNat≠0)
 |16,d=>decide (d.coOwning.toNat≠0)
 |17,d=>decide (d.nonOwning.toNat≠0)
 |_,d=>decide (d.signedEnum.toNat≠255)
theorem num_set (n:Nat) (d:ZT):∀w,w<19->numW w (Qdk w n d)=newW w n
 |0,_=>show (UInt16.ofNat n).toNat=n%256^2 from UInt16.toNat_ofNat'
 |1,_=>show (UInt16.ofNat n).toNat=n%256^2 from UInt16.toNat_ofNat'
 |2,_=>show (UInt8.ofNat n).toNat=n%256^1 from UInt8.toNat_ofNat'
 |3,_=>by
  show (if decide (n≠0)=true then 1 else 0)=(if n=0 then 0 else 1)
  by_cases h:n=0<;>simp[h]
 |4,_=>show (UInt32.ofNat n).toNat=n%256^4 from UInt32.toNat_ofNat'
 |5,_=>show (UInt32.ofNat n).toNat=n%256^4 from UInt32.toNat_ofNat'
 |6,_=>show (UInt64.ofNat n).toNat=n%256^8 from UInt64.toNat_ofNat'
 |7,_=>show (UInt64.ofNat n).toNat=n%256^8 from UInt64.toNat_ofNat'
 |8,_=>show (UInt32.ofNat n).toNat=n%256^4 from UInt32.toNat_ofNat'
 |9,_=>show (UInt32.ofNat n).toNat=n%256^4 from UInt32.toNat_ofNat'
 |10,_=>show (UInt64.ofNat n).toNat=n%256^8 from UInt64.toNat_ofNat'
 |11,_=>show (UInt64.ofNat n).toNat=n%256^8 from UInt64.toNat_ofNat'
 |12,_=>show (UInt32.ofNat n).toNat=n%256^4 from UInt32.toNat_ofNat'
 |13,_=>show (UInt32.ofNat n).toNat=n%256^4 from UInt32.toNat_ofNat'
 |14,_=>show (UInt32.ofNat n).toNat=n%256^4 from UInt32.toNat_ofNat'
 |15,_=>show (UInt64.ofNat n).toNat=n%256^8 from UInt64.toNat_ofNat'
 |16,_=>show (UInt64.ofNat n).toNat=n%256^8 from UInt64.toNat_ofNat'
 |17,_=>show (UInt64.ofNat n).toNat=n%256^8 from UInt64.toNat_ofNat'
 |18,_=>show (UInt8.ofNat n).toNat=n%256^1 from UInt8.toNat_ofNat'
 |w+19,h=>absurd h (by omega)
theorem QV (o k x D:Nat):slotNF o k x D o=fun S=>slot o (putN k (leB (x:Int) k) S):=by
 funext S
 unfold slotNF
 rw[if_neg (fun h=>h.2 rfl)]
theorem QcQ (o x D:Nat):slotFF o x D o=fun S=>slot o (putN 4 (leB (x:Int) 4) S):=by
 funext S
 unfold slotFF
 rw[if_neg (fun h=>h.2 rfl)]
theorem ZE {fc k x D o:Nat} (h:x≠D):slotNF fc k x D o=slotN k x D o:=by
 funext S
 unfold slotNF slotN
 rw[if_neg (fun g=>h g.1),if_neg h]
theorem slotFF_st {fc x D o:Nat} (h:(FloatKind.f32.format.order x D !=some .eq)=true):slotFF fc x D o=slotF x D o:=by
 funext S
 unfold slotFF slotF
 rw[if_neg (fun g=>by rw[g.1]at h;exact absurd h (by decide)),if_pos h]
theorem YD {j:Nat} {d:ZT} {tables enemy test uniq amb:List Mon} (h:∀o,Yp j d o=Qa7 d o):Qdc j (.mk d tables enemy test uniq amb)=Y5 (.mk d tables enemy test uniq amb):=by
 have e:Qdt j (.mk d tables enemy test uniq amb)=Zt (.mk d tables enemy test uniq amb):=by
  funext S
  rw[Qdt,Zt]
  unfold QiS packT
  rw[h]
 rw[Qdc,Y5,e]
theorem QcF {j n:Nat} {d:ZT} {o:List Nat} {l:List Nat} (e:((Qfa j d o).map Spec.o).drop n=l) (h:j∉l):∀s∈(Qfa j d o).drop n,j≠s.o:=fun s hs hj=>h (by
 have:=List.mem_map_of_mem (f:=Spec.o) hs
 rw[List.map_drop,e]at this
 rw[hj];exact this)
def Qfv (w n:Nat) (d:ZT) (tables enemy test uniq amb:List Mon):Prop:=∃u z vt,Y5 (.mk d tables enemy test uniq amb)=u++(leB (numW w d:Int) (QgL w)++z)/\
 Qdc (Qfn w) (.mk (Qdk w n d) tables enemy test uniq amb)=u++(leB (numW w (Qdk w n d):Int) (QgL w)++z)/\
 VT (u++(leB (numW w d:Int) (QgL w)++z)) (le4 (u++(leB (numW w d:Int) (QgL w)++z)) 0) vt/\slotAt (u++(leB (numW w d:Int) (QgL w)++z)) vt (4+2*Qfn w)≠0/\
 le4 (u++(leB (numW w d:Int) (QgL w)++z)) 0+slotAt (u++(leB (numW w d:Int) (QgL w)++z)) vt (4+2*Qfn w)=u.length
section
variable {n:Nat} {d:ZT} {tables enemy test uniq amb:List Mon} (hw:WfM (.mk d tables enemy test uniq amb)) (hc:Yy (.mk d tables enemy test uniq amb)<=400000000)
include hw hc
set_option maxRecDepth 4000 in
theorem set_0 (h:stW 0 d=true):Qfv 0 n d tables enemy test uniq amb:=by
 have e:∀o,Yp 1 d o=Qa7 d o:=fun o=>by
  have h':slotNF 1 2 d.mana.toNat 150 1=slotN 2 d.mana.toNat 150 1:=ZE (of_decide_eq_true h)
  unfold Yp Qa7
  simp (decide:=true) only[Zg,Ze,h']
 unfold Qfv
 rw[<-YD e]
 refine Zp (d:=d) (d':=Qdk 0 n d) (j:=1) (n:=1) (k:=2) (by rw[Qc,Qc]) (by rw[Qc];decide) (fun _ _ _ _ _=>rfl) (fun o=>?_) (fun o=>?_) (fun o=>QcF (l:=[2,3,5,6,7,8,9,10,11,12,13,14,15,16,17,18,19,20,21,22,23,24,25,26,27,28,29,30,31,32,33,34,35,36,37,38,39,40,41,42,43,44,45,46,47,48]) rfl (by decide)) (by decide) hw hc
 ·have s:=QV 1 2 d.mana.toNat 150
  show _=_++(fun S=>slot 1 (putN 2 (leB ((d.mana.toNat:Nat):Int) 2) S))::_
  rw[<-s];rfl
 ·have s:=QV 1 2 (UInt16.ofNat n).toNat 150
  show _=_++(fun S=>slot 1 (putN 2 (leB (((UInt16.ofNat n).toNat:Nat):Int) 2) S))::_
  rw[<-s];rfl
set_option maxRecDepth 4000 in
theorem set_1 (h:stW 1 d=true):Qfv 1 n d tables enemy test uniq amb:=by
 have e:∀o,Yp 2 d o=Qa7 d o:=fun o=>by
  have h':slotNF 2 2 d.hp.toNat 100 2=slotN 2 d.hp.toNat 100 2:=ZE (of_decide_eq_true h)
  unfold Yp Qa7
  simp (decide:=true) only[Zg,Ze,h']
 unfold Qfv
 rw[<-YD e]
 refine Zp (d:=d) (d':=Qdk 1 n d) (j:=2) (n:=2) (k:=2) (by rw[Qc,Qc]) (by rw[Qc];decide) (fun _ _ _ _ _=>rfl) (fun o=>?_) (fun o=>?_) (fun o=>QcF (l:=[3,5,6,7,8,9,10,11,12,13,14,15,16,17,18,19,20,21,22,23,24,25,26,27,28,29,30,31,32,33,34,35,36,37,38,39,40,41,42,43,44,45,46,47,48]) rfl (by decide)) (by decide) hw hc
 ·have s:=QV 2 2 d.hp.toNat 100
  show _=_++(fun S=>slot 2 (putN 2 (leB ((d.hp.toNat:Nat):Int) 2) S))::_
  rw[<-s];rfl
 ·have s:=QV 2 2 (UInt16.ofNat n).toNat 100
  show _=_++(fun S=>slot 2 (putN 2 (leB (((UInt16.ofNat n).toNat:Nat):Int) 2) S))::_
  rw[<-s];rfl
set_option maxRecDepth 4000 in
theorem set_2 (h:stW 2 d=true):Qfv 2 n d tables enemy test uniq amb:=by
 have e:∀o,Yp 6 d o=Qa7 d o:=fun o=>by
  have h':slotNF 6 1 d.color.toNat 8 6=slotN 1 d.color.toNat 8 6:=ZE (of_decide_eq_true h)
  unfold Yp Qa7
  simp (decide:=true) only[Zg,Ze,h']
 unfold Qfv
 rw[<-YD e]
 refine Zp (d:=d) (d':=Qdk 2 n d) (j:=6) (n:=5) (k:=1) (by rw[Qc,Qc]) (by rw[Qc];decide) (fun _ _ _ _ _=>rfl) (fun o=>?_) (fun o=>?_) (fun o=>QcF (l:=[7,8,9,10,11,12,13,14,15,16,17,18,19,20,21,22,23,24,25,26,27,28,29,30,31,32,33,34,35,36,37,38,39,40,41,42,43,44,45,46,47,48]) rfl (by decide)) (by decide) hw hc
 ·have s:=QV 6 1 d.color.toNat 8
  show _=_++(fun S=>slot 6 (putN 1 (leB ((d.color.toNat:Nat):Int) 1) S))::_
  rw[<-s];rfl
 ·have s:=QV 6 1 (UInt8.ofNat n).toNat 8
  show _=_++(fun S=>slot 6 (putN 1 (leB (((UInt8.ofNat n).toNat:Nat):Int) 1) S))::_
  rw[<-s];rfl
set_option maxRecDepth 4000 in
theorem set_3 (h:stW 3 d=true):Qfv 3 n d tables enemy test uniq amb:=by
 have e:∀o,Yp 15 d o=Qa7 d o:=fun o=>by
  have h':slotNF 15 1 (if d.bool then 1 else 0) 0 15=slotN 1 (if d.bool then 1 else 0) 0 15:=ZE (show (if d.bool then 1 else 0)≠0 by rw[show d.bool=true from h];decide)
  unfold Yp Qa7
  simp (decide:=true) only[Zg,Ze,h']
 unfold Qfv
 rw[<-YD e]
 refine Zp (d:=d) (d':=Qdk 3 n d) (j:=15) (n:=14) (k:=1) (by rw[Qc,Qc]) (by rw[Qc];decide) (fun _ _ _ _ _=>rfl) (fun o=>?_) (fun o=>?_) (fun o=>QcF (l:=[16,17,18,19,20,21,22,23,24,25,26,27,28,29,30,31,32,33,34,35,36,37,38,39,40,41,42,43,44,45,46,47,48]) rfl (by decide)) (by decide) hw hc
 ·have s:=QV 15 1 (if d.bool then 1 else 0) 0
  show _=_++(fun S=>slot 15 (putN 1 (leB (((if d.bool then 1 else 0):Nat):Int) 1) S))::_
  rw[<-s];rfl
 ·have s:=QV 15 1 (if decide (n≠0) then 1 else 0) 0
  show _=_++(fun S=>slot 15 (putN 1 (leB ((if decide (n≠0) then 1 else 0:Nat):Int) 1) S))::_
  rw[<-s];rfl
set_option maxRecDepth 4000 in
theorem set_4 (h:stW 4 d=true):Qfv 4 n d tables enemy test uniq amb:=by
 have e:∀o,Yp 16 d o=Qa7 d o:=fun o=>by
  have h':slotNF 16 4 d.s32.toNat 0 16=slotN 4 d.s32.toNat 0 16:=ZE (of_decide_eq_true h)
  unfold Yp Qa7
  simp (decide:=true) only[Zg,Ze,h']
 unfold Qfv
 rw[<-YD e]
 refine Zp (d:=d) (d':=Qdk 4 n d) (j:=16) (n:=15) (k:=4) (by rw[Qc,Qc]) (by rw[Qc];decide) (fun _ _ _ _ _=>rfl) (fun o=>?_) (fun o=>?_) (fun o=>QcF (l:=[17,18,19,20,21,22,23,24,25,26,27,28,29,30,31,32,33,34,35,36,37,38,39,40,41,42,43,44,45,46,47,48]) rfl (by decide)) (by decide) hw hc
 ·have s:=QV 16 4 d.s32.toNat 0
  show _=_++(fun S=>slot 16 (putN 4 (leB ((d.s32.toNat:Nat):Int) 4) S))::_
  rw[<-s];rfl
 ·have s:=QV 16 4 (UInt32.ofNat n).toNat 0
  show _=_++(fun S=>slot 16 (putN 4 (leB (((UInt32.ofNat n).toNat:Nat):Int) 4) S))::_
  rw[<-s];rfl
set_option maxRecDepth 4000 in
theorem set_5 (h:stW 5 d=true):Qfv 5 n d tables enemy test uniq amb:=by
 have e:∀o,Yp 17 d o=Qa7 d o:=fun o=>by
  have h':slotNF 17 4 d.u32.toNat 0 17=slotN 4 d.u32.toNat 0 17:=ZE (of_decide_eq_true h)
  unfold Yp Qa7
  simp (decide:=true) only[Zg,Ze,h']
 unfold Qfv
 rw[<-YD e]
 refine Zp (d:=d) (d':=Qdk 5 n d) (j:=17) (n:=16) (k:=4) (by rw[Qc,Qc]) (by rw[Qc];decide) (fun _ _ _ _ _=>rfl) (fun o=>?_) (fun o=>?_) (fun o=>QcF (l:=[18,19,20,21,22,23,24,25,26,27,28,29,30,31,32,33,34,35,36,37,38,39,40,41,42,43,44,45,46,47,48]) rfl (by decide)) (by decide) hw hc
 ·have s:=QV 17 4 d.u32.toNat 0
  show _=_++(fun S=>slot 17 (putN 4 (leB ((d.u32.toNat:Nat):Int) 4) S))::_
  rw[<-s];rfl
 ·have s:=QV 17 4 (UInt32.ofNat n).toNat 0
  show _=_++(fun S=>slot 17 (putN 4 (leB (((UInt32.ofNat n).toNat:Nat):Int) 4) S))::_
  rw[<-s];rfl
set_option maxRecDepth 4000 in
theorem set_6 (h:stW 6 d=true):Qfv 6 n d tables enemy test uniq amb:=by
 have e:∀o,Yp 18 d o=Qa7 d o:=fun o=>by
  have h':slotNF 18 8 d.s64.toNat 0 18=slotN 8 d.s64.toNat 0 18:=ZE (of_decide_eq_true h)
  unfold Yp Qa7
  simp (decide:=true) only[Zg,Ze,h']
 unfold Qfv
 rw[<-YD e]
 refine Zp (d:=d) (d':=Qdk 6 n d) (j:=18) (n:=17) (k:=8) (by rw[Qc,Qc]) (by rw[Qc];decide) (fun _ _ _ _ _=>rfl) (fun o=>?_) (fun o=>?_) (fun o=>QcF (l:=[19,20,21,22,23,24,25,26,27,28,29,30,31,32,33,34,35,36,37,38,39,40,41,42,43,44,45,46,47,48]) rfl (by decide)) (by decide) hw hc
 ·have s:=QV 18 8 d.s64.toNat 0
  show _=_++(fun S=>slot 18 (putN 8 (leB ((d.s64.toNat:Nat):Int) 8) S))::_
  rw[<-s];rfl
 ·have s:=QV 18 8 (UInt64.ofNat n).toNat 0
  show _=_++(fun S=>slot 18 (putN 8 (leB (((UInt64.ofNat n).toNat:Nat):Int) 8) S))::_
  rw[<-s];rfl
set_option maxRecDepth 4000 in
theorem set_7 (h:stW 7 d=true):Qfv 7 n d tables enemy test uniq amb:=by
 have e:∀o,Yp 19 d o=Qa7 d o:=fun o=>by
  have h':slotNF 19 8 d.u64.toNat 0 19=slotN 8 d.u64.toNat 0 19:=ZE (of_decide_eq_true h)
  unfold Yp Qa7
  simp (decide:=true) only[Zg,Ze,h']
 unfold Qfv
 rw[<-YD e]
 refine Zp (d:=d) (d':=Qdk 7 n d) (j:=19) (n:=18) (k:=8) (by rw[Qc,Qc]) (by rw[Qc];decide) (fun _ _ _ _ _=>rfl) (fun o=>?_) (fun o=>?_) (fun o=>QcF (l:=[20,21,22,23,24,25,26,27,28,29,30,31,32,33,34,35,36,37,38,39,40,41,42,43,44,45,46,47,48]) rfl (by decide)) (by decide) hw hc
 ·have s:=QV 19 8 d.u64.toNat 0
  show _=_++(fun S=>slot 19 (putN 8 (leB ((d.u64.toNat:Nat):Int) 8) S))::_
  rw[<-s];rfl
 ·have s:=QV 19 8 (UInt64.ofNat n).toNat 0
  show _=_++(fun S=>slot 19 (putN 8 (leB (((UInt64.ofNat n).toNat:Nat):Int) 8) S))::_
  rw[<-s];rfl
set_option maxRecDepth 4000 in
theorem set_8 (h:stW 8 d=true):Qfv 8 n d tables enemy test uniq amb:=by
 have e:∀o,Yp 20 d o=Qa7 d o:=fun o=>by
  have h':slotNF 20 4 d.s32a.toNat 0 20=slotN 4 d.s32a.toNat 0 20:=ZE (of_decide_eq_true h)
  unfold Yp Qa7
  simp (decide:=true) only[Zg,Ze,h']
 unfold Qfv
 rw[<-YD e]
 refine Zp (d:=d) (d':=Qdk 8 n d) (j:=20) (n:=19) (k:=4) (by rw[Qc,Qc]) (by rw[Qc];decide) (fun _ _ _ _ _=>rfl) (fun o=>?_) (fun o=>?_) (fun o=>QcF (l:=[21,22,23,24,25,26,27,28,29,30,31,32,33,34,35,36,37,38,39,40,41,42,43,44,45,46,47,48]) rfl (by decide)) (by decide) hw hc
 ·have s:=QV 20 4 d.s32a.toNat 0
  show _=_++(fun S=>slot 20 (putN 4 (leB ((d.s32a.toNat:Nat):Int) 4) S))::_
  rw[<-s];rfl
 ·have s:=QV 20 4 (UInt32.ofNat n).toNat 0
  show _=_++(fun S=>slot 20 (putN 4 (leB (((UInt32.ofNat n).toNat:Nat):Int) 4) S))::_
  rw[<-s];rfl
set_option maxRecDepth 4000 in
theorem set_9 (h:stW 9 d=true):Qfv 9 n d tables enemy test uniq amb:=by
 have e:∀o,Yp 21 d o=Qa7 d o:=fun o=>by
  have h':slotNF 21 4 d.u32a.toNat 0 21=slotN 4 d.u32a.toNat 0 21:=ZE (of_decide_eq_true h)
  unfold Yp Qa7
  simp (decide:=true) only[Zg,Ze,h']
 unfold Qfv
 rw[<-YD e]
 refine Zp (d:=d) (d':=Qdk 9 n d) (j:=21) (n:=20) (k:=4) (by rw[Qc,Qc]) (by rw[Qc];decide) (fun _ _ _ _ _=>rfl) (fun o=>?_) (fun o=>?_) (fun o=>QcF (l:=[22,23,24,25,26,27,28,29,30,31,32,33,34,35,36,37,38,39,40,41,42,43,44,45,46,47,48]) rfl (by decide)) (by decide) hw hc
 ·have s:=QV 21 4 d.u32a.toNat 0
  show _=_++(fun S=>slot 21 (putN 4 (leB ((d.u32a.toNat:Nat):Int) 4) S))::_
  rw[<-s];rfl
 ·have s:=QV 21 4 (UInt32.ofNat n).toNat 0
  show _=_++(fun S=>slot 21 (putN 4 (leB (((UInt32.ofNat n).toNat:Nat):Int) 4) S))::_
  rw[<-s];rfl
set_option maxRecDepth 4000 in
theorem set_10 (h:stW 10 d=true):Qfv 10 n d tables enemy test uniq amb:=by
 have e:∀o,Yp 22 d o=Qa7 d o:=fun o=>by
  have h':slotNF 22 8 d.s64a.toNat 0 22=slotN 8 d.s64a.toNat 0 22:=ZE (of_decide_eq_true h)
  unfold Yp Qa7
  simp (decide:=true) only[Zg,Ze,h']
 unfold Qfv
 rw[<-YD e]
 refine Zp (d:=d) (d':=Qdk 10 n d) (j:=22) (n:=21) (k:=8) (by rw[Qc,Qc]) (by rw[Qc];decide) (fun _ _ _ _ _=>rfl) (fun o=>?_) (fun o=>?_) (fun o=>QcF (l:=[23,24,25,26,27,28,29,30,31,32,33,34,35,36,37,38,39,40,41,42,43,44,45,46,47,48]) rfl (by decide)) (by decide) hw hc
 ·have s:=QV 22 8 d.s64a.toNat 0
  show _=_++(fun S=>slot 22 (putN 8 (leB ((d.s64a.toNat:Nat):Int) 8) S))::_
  rw[<-s];rfl
 ·have s:=QV 22 8 (UInt64.ofNat n).toNat 0
  show _=_++(fun S=>slot 22 (putN 8 (leB (((UInt64.ofNat n).toNat:Nat):Int) 8) S))::_
  rw[<-s];rfl
set_option maxRecDepth 4000 in
theorem set_11 (h:stW 11 d=true):Qfv 11 n d tables enemy test uniq amb:=by
 have e:∀o,Yp 23 d o=Qa7 d o:=fun o=>by
  have h':slotNF 23 8 d.u64a.toNat 0 23=slotN 8 d.u64a.toNat 0 23:=ZE (of_decide_eq_true h)
  unfold Yp Qa7
  simp (decide:=true) only[Zg,Ze,h']
 unfold Qfv
 rw[<-YD e]
 refine Zp (d:=d) (d':=Qdk 11 n d) (j:=23) (n:=22) (k:=8) (by rw[Qc,Qc]) (by rw[Qc];decide) (fun _ _ _ _ _=>rfl) (fun o=>?_) (fun o=>?_) (fun o=>QcF (l:=[24,25,26,27,28,29,30,31,32,33,34,35,36,37,38,39,40,41,42,43,44,45,46,47,48]) rfl (by decide)) (by decide) hw hc
 ·have s:=QV 23 8 d.u64a.toNat 0
  show _=_++(fun S=>slot 23 (putN 8 (leB ((d.u64a.toNat:Nat):Int) 8) S))::_
  rw[<-s];rfl
 ·have s:=QV 23 8 (UInt64.ofNat n).toNat 0
  show _=_++(fun S=>slot 23 (putN 8 (leB (((UInt64.ofNat n).toNat:Nat):Int) 8) S))::_
  rw[<-s];rfl
set_option maxRecDepth 4000 in
theorem set_12 (h:stW 12 d=true):Qfv 12 n d tables enemy test uniq amb:=by
 have e:∀o,Yp 25 d o=Qa7 d o:=fun o=>by
  have h':slotFF 25 d.f.toNat 1078530000 25=slotF d.f.toNat 1078530000 25:=slotFF_st h
  unfold Yp Qa7
  simp (decide:=true) only[Zg,Ze,h']
 unfold Qfv
 rw[<-YD e]
 refine Zp (d:=d) (d':=Qdk 12 n d) (j:=25) (n:=24) (k:=4) (by rw[Qc,Qc]) (by rw[Qc];decide) (fun _ _ _ _ _=>rfl) (fun o=>?_) (fun o=>?_) (fun o=>QcF (l:=[26,27,28,29,30,31,32,33,34,35,36,37,38,39,40,41,42,43,44,45,46,47,48]) rfl (by decide)) (by decide) hw hc
 ·have s:=QcQ 25 d.f.toNat 1078530000
  show _=_++(fun S=>slot 25 (putN 4 (leB ((d.f.toNat:Nat):Int) 4) S))::_
  rw[<-s];rfl
 ·have s:=QcQ 25 (UInt32.ofNat n).toNat 1078530000
  show _=_++(fun S=>slot 25 (putN 4 (leB (((UInt32.ofNat n).toNat:Nat):Int) 4) S))::_
  rw[<-s];rfl
set_option maxRecDepth 4000 in
theorem set_13 (h:stW 13 d=true):Qfv 13 n d tables enemy test uniq amb:=by
 have e:∀o,Yp 26 d o=Qa7 d o:=fun o=>by
  have h':slotFF 26 d.f2.toNat 1077936128 26=slotF d.f2.toNat 1077936128 26:=slotFF_st h
  unfold Yp Qa7
  simp (decide:=true) only[Zg,Ze,h']
 unfold Qfv
 rw[<-YD e]
 refine Zp (d:=d) (d':=Qdk 13 n d) (j:=26) (n:=25) (k:=4) (by rw[Qc,Qc]) (by rw[Qc];decide) (fun _ _ _ _ _=>rfl) (fun o=>?_) (fun o=>?_) (fun o=>QcF (l:=[27,28,29,30,31,32,33,34,35,36,37,38,39,40,41,42,43,44,45,46,47,48]) rfl (by decide)) (by decide) hw hc
 ·have s:=QcQ 26 d.f2.toNat 1077936128
  show _=_++(fun S=>slot 26 (putN 4 (leB ((d.f2.toNat:Nat):Int) 4) S))::_
  rw[<-s];rfl
 ·have s:=QcQ 26 (UInt32.ofNat n).toNat 1077936128
  show _=_++(fun S=>slot 26 (putN 4 (leB (((UInt32.ofNat n).toNat:Nat):Int) 4) S))::_
  rw[<-s];rfl
set_option maxRecDepth 4000 in
theorem set_14 (h:stW 14 d=true):Qfv 14 n d tables enemy test uniq amb:=by
 have e:∀o,Yp 27 d o=Qa7 d o:=fun o=>by
  have h':slotFF 27 d.f3.toNat 0 27=slotF d.f3.toNat 0 27:=slotFF_st h
  unfold Yp Qa7
  simp (decide:=true) only[Zg,Ze,h']
 unfold Qfv
 rw[<-YD e]
 refine Zp (d:=d) (d':=Qdk 14 n d) (j:=27) (n:=26) (k:=4) (by rw[Qc,Qc]) (by rw[Qc];decide) (fun _ _ _ _ _=>rfl) (fun o=>?_) (fun o=>?_) (fun o=>QcF (l:=[28,29,30,31,32,33,34,35,36,37,38,39,40,41,42,43,44,45,46,47,48]) rfl (by decide)) (by decide) hw hc
 ·have s:=QcQ 27 d.f3.toNat 0
  show _=_++(fun S=>slot 27 (putN 4 (leB ((d.f3.toNat:Nat):Int) 4) S))::_
  rw[<-s];rfl
 ·have s:=QcQ 27 (UInt32.ofNat n).toNat 0
  show _=_++(fun S=>slot 27 (putN 4 (leB (((UInt32.ofNat n).toNat:Nat):Int) 4) S))::_
  rw[<-s];rfl
set_option maxRecDepth 4000 in
theorem set_15 (h:stW 15 d=true):Qfv 15 n d tables enemy test uniq amb:=by
 have e:∀o,Yp 36 d o=Qa7 d o:=fun o=>by
  have h':slotNF 36 8 d.singleWeak.toNat 0 36=slotN 8 d.singleWeak.toNat 0 36:=ZE (of_decide_eq_true h)
  unfold Yp Qa7
  simp (decide:=true) only[Zg,Ze,h']
 unfold Qfv
 rw[<-YD e]
 refine Zp (d:=d) (d':=Qdk 15 n d) (j:=36) (n:=35) (k:=8) (by rw[Qc,Qc]) (by rw[Qc];decide) (fun _ _ _ _ _=>rfl) (fun o=>?_) (fun o=>?_) (fun o=>QcF (l:=[37,38,39,40,41,42,43,44,45,46,47,48]) rfl (by decide)) (by decide) hw hc
 ·have s:=QV 36 8 d.singleWeak.toNat 0
  show _=_++(fun S=>slot 36 (putN 8 (leB ((d.singleWeak.toNat:Nat):Int) 8) S))::_
  rw[<-s];rfl
 ·have s:=QV 36 8 (UInt64.ofNat n).toNat 0
  show _=_++(fun S=>slot 36 (putN 8 (leB (((UInt64.ofNat n).toNat:Nat):Int) 8) S))::_
  rw[<-s];rfl
set_option maxRecDepth 4000 in
theorem set_16 (h:stW 16 d=true):Qfv 16 n d tables enemy test uniq amb:=by
 have e:∀o,Yp 39 d o=Qa7 d o:=fun o=>by
  have h':slotNF 39 8 d.coOwning.toNat 0 39=slotN 8 d.coOwning.toNat 0 39:=ZE (of_decide_eq_true h)
  unfold Yp Qa7
  simp (decide:=true) only[Zg,Ze,h']
 unfold Qfv
 rw[<-YD e]
 refine Zp (d:=d) (d':=Qdk 16 n d) (j:=39) (n:=38) (k:=8) (by rw[Qc,Qc]) (by rw[Qc];decide) (fun _ _ _ _ _=>rfl) (fun o=>?_) (fun o=>?_) (fun o=>QcF (l:=[40,41,42,43,44,45,46,47,48]) rfl (by decide)) (by decide) hw hc
 ·have s:=QV 39 8 d.coOwning.toNat 0
  show _=_++(fun S=>slot 39 (putN 8 (leB ((d.coOwning.toNat:Nat):Int) 8) S))::_
  rw[<-s];rfl
 ·have s:=QV 39 8 (UInt64.ofNat n).toNat 0
  show _=_++(fun S=>slot 39 (putN 8 (leB (((UInt64.ofNat n).toNat:Nat):Int) 8) S))::_
  rw[<-s];rfl
set_option maxRecDepth 4000 in
theorem set_17 (h:stW 17 d=true):Qfv 17 n d tables enemy test uniq amb:=by
 have e:∀o,Yp 41 d o=Qa7 d o:=fun o=>by
  have h':slotNF 41 8 d.nonOwning.toNat 0 41=slotN 8 d.nonOwning.toNat 0 41:=ZE (of_decide_eq_true h)
  unfold Yp Qa7
  simp (decide:=true) only[Zg,Ze,h']
 unfold Qfv
 rw[<-YD e]
 refine Zp (d:=d) (d':=Qdk 17 n d) (j:=41) (n:=40) (k:=8) (by rw[Qc,Qc]) (by rw[Qc];decide) (fun _ _ _ _ _=>rfl) (fun o=>?_) (fun o=>?_) (fun o=>QcF (l:=[42,43,44,45,46,47,48]) rfl (by decide)) (by decide) hw hc
 ·have s:=QV 41 8 d.nonOwning.toNat 0
  show _=_++(fun S=>slot 41 (putN 8 (leB ((d.nonOwning.toNat:Nat):Int) 8) S))::_
  rw[<-s];rfl
 ·have s:=QV 41 8 (UInt64.ofNat n).toNat 0
  show _=_++(fun S=>slot 41 (putN 8 (leB (((UInt64.ofNat n).toNat:Nat):Int) 8) S))::_
  rw[<-s];rfl
set_option maxRecDepth 4000 in
theorem set_18 (h:stW 18 d=true):Qfv 18 n d tables enemy test uniq amb:=by
 have e:∀o,Yp 48 d o=Qa7 d o:=fun o=>by
  have h':slotNF 48 1 d.signedEnum.toNat 255 48=slotN 1 d.signedEnum.toNat 255 48:=ZE (of_decide_eq_true h)
  unfold Yp Qa7
  simp (decide:=true) only[Zg,Ze,h']
 unfold Qfv
 rw[<-YD e]
 refine Zp (d:=d) (d':=Qdk 18 n d) (j:=48) (n:=47) (k:=1) (by rw[Qc,Qc]) (by rw[Qc];decide) (fun _ _ _ _ _=>rfl) (fun o=>?_) (fun o=>?_) (fun o=>QcF (l:=[]) rfl (by decide)) (by decide) hw hc
 ·have s:=QV 48 1 d.signedEnum.toNat 255
  show _=_++(fun S=>slot 48 (putN 1 (leB ((d.signedEnum.toNat:Nat):Int) 1) S))::_
  rw[<-s];rfl
 ·have s:=QV 48 1 (UInt8.ofNat n).toNat 255
  show _=_++(fun S=>slot 48 (putN 1 (leB (((UInt8.ofNat n).toNat:Nat):Int) 1) S))::_
  rw[<-s];rfl
theorem set_patch:∀w,w<19->stW w d=true->Qfv w n d tables enemy test uniq amb
 |0,_,h=>set_0 hw hc h
 |1,_,h=>set_1 hw hc h
 |2,_,h=>set_2 hw hc h
 |3,_,h=>set_3 hw hc h
 |4,_,h=>set_4 hw hc h
 |5,_,h=>set_5 hw hc h
 |6,_,h=>set_6 hw hc h
 |7,_,h=>set_7 hw hc h
 |8,_,h=>set_8 hw hc h
 |9,_,h=>set_9 hw hc h
 |10,_,h=>set_10 hw hc h
 |11,_,h=>set_11 hw hc h
 |12,_,h=>set_12 hw hc h
 |13,_,h=>set_13 hw hc h
 |14,_,h=>set_14 hw hc h
 |15,_,h=>set_15 hw hc h
 |16,_,h=>set_16 hw hc h
 |17,_,h=>set_17 hw hc h
 |18,_,h=>set_18 hw hc h
 |w+19,h,_=>absurd h (by omega)
end
theorem set_wf {n:Nat} {d:ZT} {tables enemy test uniq amb:List Mon} (hw:WfM (.mk d tables enemy test uniq amb)):∀w,w<19->WfM (.mk (Qdk w n d) tables enemy test uniq amb)
 |0,_=>by rw[WfM]at hw⊢;exact hw
 |1,_=>by rw[WfM]at hw⊢;exact hw
 |2,_=>by rw[WfM]at hw⊢;exact hw
 |3,_=>by rw[WfM]at hw⊢;exact hw
 |4,_=>by rw[WfM]at hw⊢;exact hw
 |5,_=>by rw[WfM]at hw⊢;exact hw
 |6,_=>by rw[WfM]at hw⊢;exact hw
 |7,_=>by rw[WfM]at hw⊢;exact hw
 |8,_=>by rw[WfM]at hw⊢;exact hw
 |9,_=>by rw[WfM]at hw⊢;exact hw
 |10,_=>by rw[WfM]at hw⊢;exact hw
 |11,_=>by rw[WfM]at hw⊢;exact hw
 |12,_=>by rw[WfM]at hw⊢;exact hw
 |13,_=>by rw[WfM]at hw⊢;exact hw
 |14,_=>by rw[WfM]at hw⊢;exact hw
 |15,_=>by rw[WfM]at hw⊢;exact hw
 |16,_=>by rw[WfM]at hw⊢;exact hw
 |17,_=>by rw[WfM]at hw⊢;exact hw
 |18,_=>by rw[WfM]at hw⊢;exact hw
 |w+19,h=>absurd h (by omega)
theorem set_cost {n:Nat} {d:ZT} {tables enemy test uniq amb:List Mon}:∀w,w<19->Yy (.mk (Qdk w n d) tables enemy test uniq amb)=Yy (.mk d tables enemy test uniq amb)
 |0,_=>by rw[Yy,Yy];rfl
 |1,_=>by rw[Yy,Yy];rfl
 |2,_=>by rw[Yy,Yy];rfl
 |3,_=>by rw[Yy,Yy];rfl
 |4,_=>by rw[Yy,Yy];rfl
 |5,_=>by rw[Yy,Yy];rfl
 |6,_=>by rw[Yy,Yy];rfl
 |7,_=>by rw[Yy,Yy];rfl
 |8,_=>by rw[Yy,Yy];rfl
 |9,_=>by rw[Yy,Yy];rfl
 |10,_=>by rw[Yy,Yy];rfl
 |11,_=>by rw[Yy,Yy];rfl
 |12,_=>by rw[Yy,Yy];rfl
 |13,_=>by rw[Yy,Yy];rfl
 |14,_=>by rw[Yy,Yy];rfl
 |15,_=>by rw[Yy,Yy];rfl
 |16,_=>by rw[Yy,Yy];rfl
 |17,_=>by rw[Yy,Yy];rfl
 |18,_=>by rw[Yy,Yy];rfl
 |w+19,h=>absurd h (by omega)
theorem QM.absent {A:Nat} {bs:List UInt8} {pos vt vo:Nat} {ab:Prop} {Q:PP} (h:QM A bs pos vt vo ab Q) (ha:ab):slotAt bs vt vo=0:=by
 rcases h with h|h
 ·exact h.1
 ·exact absurd ha h.2.1
theorem set_none {A:Nat} {bs:List UInt8} {pos vt:Nat} {d:ZT} (h:OwnRd A bs pos vt 49 d):∀w,w<19->stW w d=false->slotAt bs vt (4+2*Qfn w)=0
 |0,_,hs=>h.mana.absent ⟨by simpa [stW]using hs,by decide⟩
 |1,_,hs=>h.hp.absent ⟨by simpa [stW]using hs,by decide⟩
 |2,_,hs=>h.color.absent ⟨by simpa [stW]using hs,by decide⟩
 |3,_,hs=>h.bool.absent ⟨by rw[show d.bool=false from hs];rfl,by decide⟩
 |4,_,hs=>h.s32.absent ⟨by simpa [stW]using hs,by decide⟩
 |5,_,hs=>h.u32.absent ⟨by simpa [stW]using hs,by decide⟩
 |6,_,hs=>h.s64.absent ⟨by simpa [stW]using hs,by decide⟩
 |7,_,hs=>h.u64.absent ⟨by simpa [stW]using hs,by decide⟩
 |8,_,hs=>h.s32a.absent ⟨by simpa [stW]using hs,by decide⟩
 |9,_,hs=>h.u32a.absent ⟨by simpa [stW]using hs,by decide⟩
 |10,_,hs=>h.s64a.absent ⟨by simpa [stW]using hs,by decide⟩
 |11,_,hs=>h.u64a.absent ⟨by simpa [stW]using hs,by decide⟩
 |12,_,hs=>h.f.absent ⟨by simpa [stW]using hs,by decide⟩
 |13,_,hs=>h.f2.absent ⟨by simpa [stW]using hs,by decide⟩
 |14,_,hs=>h.f3.absent ⟨by simpa [stW]using hs,by decide⟩
 |15,_,hs=>h.singleWeak.absent ⟨by simpa [stW]using hs,by decide⟩
 |16,_,hs=>h.coOwning.absent ⟨by simpa [stW]using hs,by decide⟩
 |17,_,hs=>h.nonOwning.absent ⟨by simpa [stW]using hs,by decide⟩
 |18,_,hs=>h.signedEnum.absent ⟨by simpa [stW]using hs,by decide⟩
 |w+19,h,_=>absurd h (by omega)
end Go.Proofs
namespace Go.Proofs
open Go Go.Vc
open Tryz (prog)
structure RS (G0:Cut) (H0:Qf) (t:TypeId) (ob:Obj) (q2 q3:Nat) (G:Cut) (H:Qf) (cells:List Value):Prop where
 ext:Ext G0 H0 G H
 o2:Ym H0 G H q2 ob
 o3:Ym H0 G H q3 (.cells cells.toArray t (0,0))
 ne:q2≠q3
def badq (q2 q3:Nat):Nat->Prop:=fun b=>b=q2\/b=q3
section
variable {G0:Cut} {H0:Qf} {t:TypeId} {ob:Obj} {q2 q3:Nat} {G:Cut} {H:Qf} {cells:List Value} (rs:RS G0 H0 t ob q2 q3 G H cells)
include rs
theorem RS.bad_lt:∀b,badq q2 q3 b->b<H.size:=fun b hb=>by
 rcases hb with rfl|rfl
 ·exact YQ rs.o2.get
 ·exact YQ rs.o3.get
theorem RS.push (o:Obj):RS G0 H0 t ob q2 q3 G (H.push o) cells:=⟨rs.ext.push o,rs.o2.push o,rs.o3.push o,rs.ne⟩
theorem RS.next {G':Cut} {H':Qf} (h:Ext G H G' H'):RS G0 H0 t ob q2 q3 G' H' cells:=⟨rs.ext.trans h,rs.o2.ext h,rs.o3.ext h,rs.ne⟩
theorem RS.st (i:Nat) (v:Value):RS G0 H0 t ob q2 q3 G (setB H q3 (.cells (cells.set i v).toArray t (0,0))) (cells.set i v):=
 ⟨rs.ext.set rs.o3.out rs.o3.new _,rs.o2.set_ne rs.ne _,rs.o3.set _,rs.ne⟩
theorem RS.ld {i:Nat} {v:Value} (hi:cells[i]?=some v) {k:Value->Prop}:LdK H (.pointer (some ⟨q3,i,none⟩)) k=k v:=
 Qj ((Qi rs.o3.get).trans (by simpa using hi))
theorem RS.store {i:Nat} {v:Value} (hi:i<cells.length) (hv:v.oneCell'=true) {kp:Qf->Prop} (hk:∀H',RS G0 H0 t ob q2 q3 G H' (cells.set i v)->H'=setB H q3 (.cells (cells.set i v).toArray t (0,0))->kp H'):
  Qh (.pointer (some ⟨q3,0,none⟩)) i fun a=>StK H 1 a v kp:=by
 rw[Qo,QaA rs.o3.get (by simpa using hi) (by simp) hv]
 have e:cells.toArray.setIfInBounds i v=(cells.set i v).toArray:=by simp
 rw[e]
 exact hk _ (rs.st i v) rfl
theorem RS.tab {p B:Nat} {bs:List UInt8} {pos:Nat} (h:Tab H0 p B bs pos):Tab H p B bs pos:=h.ext rs.ext.keep.ext
theorem RS.push_item {fld es bts:Nat} {et:TypeId} {zs:Array Value} {cur:Value} {items:List (List Value)} (hc:Cur H0 G H et es cur items (badq q2 q3)) {v:Value} {it:List Value} (hv:v.cells.toList=it) (hl:it.length=es) (hone:∀x∈it,x.oneCell'=true)
  (hes:0<es) (hz:zs.size=es) (hb:0<bts) (hn:(items.length+1)*bts<=140737488355328) (hf:fld<cells.length) {k:Qf->Prop} (hk:∀H' c,RS G0 H0 t ob q2 q3 G H' (cells.set fld c)->Cur H0 G H' et es c (items++[it]) (badq q2 q3)->k H'):
  QY H et 1 (ZP zs.toList 1) [(0,es,v)] fun y h2=>Qk H h2 (Qe7 h2 et es bts zs cur y fun c h3=>Qh (.pointer (some ⟨q3,0,none⟩)) fld fun a=>StK h3 1 a c k):=by
 have hvs:v.cells.size=es:=by rw[<-hl,<-hv];simp
 have hfill:ZG (ZP zs.toList 1) [(0,es,v)]=some it:=by
  show (if v.cells.size=es/\0+v.cells.size<=(ZP zs.toList 1).length then _ else _)=_
  have hrl:(ZP zs.toList 1).length=es:=by simp[ZP,hz]
  rw[if_pos ⟨hvs,by rw[hrl];omega⟩]
  show some _=_
  rw[hv,hvs,Nat.zero_add,List.drop_eq_nil_of_le (by omega)];simp
 unfold QY
 simp only[hfill]
 refine Q3 (QaC.push _ _).ext ?_
 have rs1:=rs.push (.cells it.toArray et (0,0))
 refine (hc.push _).app rs1.ext (y:=H.size) (yo:=0) (cells:=it.toArray) (ye:=et) (fr:=(0,0)) (it:=it) Qm (by simp[hl]) (by rw[List.drop_zero];simp[<-hl]) hone hes hb hn hz rs1.bad_lt ?_
 intro c H' he hcur hown
 have rs2:RS G0 H0 t ob q2 q3 G H' cells:=⟨he,hown _ _ (Or.inl rfl) rs1.o2,hown _ _ (Or.inr rfl) rs1.o3,rs.ne⟩
 refine rs2.store hf hcur.one ?_
 intro H2 rs3 hH2
 subst hH2
 exact hk _ _ rs3 (hcur.set (Or.inr rfl) _)
end
theorem foldl_bytes (xs:List UInt8):(xs.map fun b=>(b.toNat:Int)).foldl (fun r n=>r.push (UInt8.ofNat n.toNat)) ByteArray.empty=⟨xs.toArray⟩:=by
 have h:∀(xs:List UInt8) (a:List UInt8),(xs.map fun b=>(b.toNat:Int)).foldl (fun r n=>r.push (UInt8.ofNat n.toNat)) (ByteArray.mk a.toArray)=⟨(a++xs).toArray⟩:=by
  intro xs
  induction xs with
  |nil=>intro a;simp
  |cons x xs ih=>
   intro a
   rw[List.map_cons,List.foldl_cons]
   have e:(ByteArray.mk a.toArray).push (UInt8.ofNat ((x.toNat:Int)).toNat)=ByteArray.mk (a++[x]).toArray:=by
    show ByteArray.mk (a.toArray.push _)=_
    congr 1
    simp
   rw[e,ih]
   simp
 exact h xs []
theorem map_u8V (xs:List UInt8):xs.map u8V=(xs.map fun b=>(b.toNat:Int)).map (Value.int .u8):=by rw[List.map_map];rfl
theorem B2SK_of {H:Qf} {a:Addr} {n c:Nat} {xs:List UInt8} {k:Value->Prop} (h:Zl H a 0 n=some (xs.map u8V)) (hk:k (YM xs)):B2SK H (.slice (some a) n c) k:=by
 refine ⟨xs.map fun b=>(b.toNat:Int),by rw[h,map_u8V],?_⟩
 rw[foldl_bytes];exact hk
theorem cellsH_U8s {H:Qf} {B:Nat} {bs:List UInt8} (h:U8s H B 0 bs) {o:Nat}:∀{n i:Nat},o+i+n<=bs.length->Zl H ⟨B,o,none⟩ i n=some (((bs.drop (o+i)).take n).map u8V)
 |0,i,_=>by simp[Zl]
 |n+1,i,hl=>by
  have h1:=h (o+i) (by omega)
  rw[Nat.zero_add]at h1
  rw[Zl,QfD,h1]
  simp only
  rw[cellsH_U8s h (n:=n) (i:=i+1) (by omega)]
  simp only
  have e:bs.drop (o+i)=(bs[o+i]'(by omega))::bs.drop (o+(i+1)):=by rw[<-Nat.add_assoc];exact List.drop_eq_getElem_cons (by omega)
  rw[e,List.take_succ_cons,List.map_cons]
  congr 2
  unfold byteN u8V
  simp[List.getD,List.getElem?_eq_getElem (show o+i<bs.length by omega)]
theorem Tab.str {H:Qf} {p B:Nat} {bs:List UInt8} {pos:Nat} (ht:Tab H p B bs pos) {o n c:Nat} {xs:List UInt8} (hx:Yx bs o xs) (hn:xs.length=n) {k:Value->Prop} (hk:k (YM xs)):B2SK H (bsl B o n c) k:=by
 subst hn
 refine B2SK_of (xs:=xs) ?_ hk
 rw[cellsH_U8s ht.u8 (by have:=hx.1;omega),Nat.add_zero,hx.2]
theorem strV_add (xs ys:List UInt8):(ByteArray.mk xs.toArray)++(ByteArray.mk ys.toArray)=ByteArray.mk (xs++ys).toArray:=by
 apply ByteArray.ext
 rw[ByteArray.data_append]
 simp
theorem RS.push_byte {G0:Cut} {H0:Qf} {t:TypeId} {ob:Obj} {q2 q3:Nat} {G:Cut} {H:Qf} {cells:List Value} (rs:RS G0 H0 t ob q2 q3 G H cells) {P:Program} {fld:Nat} {et st:TypeId} {zs:Array Value} {xs:List UInt8} {b:UInt8} (hz:zs.size=1) (hl:xs.length+1<=9223372036854775807) (hf:fld<cells.length)
  {k:Qf->Prop} (hk:∀H',RS G0 H0 t ob q2 q3 G H' (cells.set fld (YM (xs++[b])))->k H'):
  QY H et 1 (ZP zs.toList 1) [(0,1,u8V b)] fun y h2=>Qk H h2 (B2SK h2 y fun s=>Qp P .add st (YM xs) s fun c=>Qh (.pointer (some ⟨q3,0,none⟩)) fld fun a=>StK h2 1 a c k):=by
 have hfill:ZG (ZP zs.toList 1) [(0,1,u8V b)]=some [u8V b]:=by
  have hrl:(ZP zs.toList 1).length=1:=by simp[ZP,hz]
  show (if (1:Nat)=1/\0+1<=(ZP zs.toList 1).length then _ else _)=_
  rw[if_pos ⟨rfl,by omega⟩]
  show some (List.take 0 (ZP zs.toList 1)++[u8V b]++List.drop (0+1) (ZP zs.toList 1))=_
  rw[List.drop_eq_nil_of_le (by omega)];rfl
 unfold QY
 simp only[hfill]
 refine Q3 (QaC.push _ _).ext ?_
 have rs1:=rs.push (.cells [u8V b].toArray et (0,0))
 refine B2SK_of (xs:=[b]) ?_ ?_
 ·rw[Q5 (Qm) 1 (by simp)];rfl
 ·rw[BinK_stradd (by rw[Qcn,Qcn];exact hl),strV_add]
  exact rs1.store hf rfl (fun H' h _=>hk H' h)
theorem Qhv.n_le {k:Nat} {bs:List UInt8} {pos vt vo n at_:Nat} (h:Qhv k bs pos vt vo n at_) (hk:1<=k):n<=bs.length:=by
 rcases h with ⟨_,h⟩|⟨_,_,_,_,h,_⟩
 ·omega
 ·have:1*n<=k*n:=Nat.mul_le_mul_right _ hk
  omega
end Go.Proofs
