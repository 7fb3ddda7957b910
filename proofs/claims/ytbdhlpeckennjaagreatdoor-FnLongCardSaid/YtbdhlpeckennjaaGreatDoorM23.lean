/- FnLong (the proof that the law returns true for every input), part 23 of 52; the last part says what is proved, and its condition. -/
import Derived.Lib.DecodeN
import Derived.Test.YtbdhlpeckennjaaGreatDoorM22
set_option linter.unusedVariables false
set_option linter.unusedSimpArgs false
set_option maxHeartbeats 80000000
set_option maxRecDepth 1000000
namespace Go.Proofs.YtbdhlpeckennjaaGreatDoor
open Go
def dec (l:List UInt8):Nat × Nat:=Utf8.decode ⟨l.toArray⟩ 0
theorem eG(l:List UInt8):dec l=Lib.decodeN l.length (l.getD 0 0).toNat (l.getD 1 0).toNat (l.getD 2 0).toNat (l.getD 3 0).toNat:=by
 unfold dec
 rw[Lib.decode_at]
 have g:∀ i,(ByteArray.mk l.toArray).get! i=l.getD i 0:=by
  intro i
  show l.toArray[i]! = _
  simp[List.getD]
  rfl
 simp only[g,Nat.zero_add,Nat.sub_zero]
 rfl
theorem dX{l:List UInt8}(h:l ≠ []):chr l=((dec l).1:Nat):=if_neg h
theorem cV{l:List UInt8}(h:l ≠ []):clen l=(dec l).2:=if_neg h
theorem cJ:chr [] = -1:=rfl
theorem nu(n b0 b1 b2 b3:Nat):1<=(Lib.decodeN n b0 b1 b2 b3).2/\(Lib.decodeN n b0 b1 b2 b3).2<=4/\(1<=n->(Lib.decodeN n b0 b1 b2 b3).2<=n):=by
 unfold Lib.decodeN
 repeat' split
 all_goals (refine⟨by simp,by simp,fun h=>?_⟩;simp only;omega)
theorem dJ{l:List UInt8}(h:l ≠ []):1<=clen l/\clen l<=l.length:=by
 rw[cV h,eG]
 have:=nu l.length (l.getD 0 0).toNat (l.getD 1 0).toNat (l.getD 2 0).toNat (l.getD 3 0).toNat
 have h1:1<=l.length:=List.length_pos_iff.2 h
 exact⟨this.1,this.2.2 h1⟩
theorem bZ{l:List UInt8}(h:l ≠ []):(nxt l).length < l.length:=by
 have:=dJ h
 unfold nxt;rw[List.length_drop];omega
theorem aK{b:UInt8}(l:List UInt8)(h:b.toNat < 128):chr (b::l)=(b.toNat:Nat)/\clen (b::l)=1/\nxt (b::l)=l:=by
 have hd:dec (b::l)=(b.toNat,1):=by
  rw[eG];unfold Lib.decodeN
  rw[if_pos (by simpa using h)]
  rfl
 have e1:chr (b::l)=(b.toNat:Nat):=by rw[dX (by simp),hd]
 have e2:clen (b::l)=1:=by rw[cV (by simp),hd]
 exact⟨e1,e2,by unfold nxt;rw[e2];rfl⟩
theorem jC(n b0 b1 b2 b3:Nat)(h:(Lib.decodeN n b0 b1 b2 b3).1 < 128):b0=(Lib.decodeN n b0 b1 b2 b3).1/\(Lib.decodeN n b0 b1 b2 b3).2=1:=by
 unfold Lib.decodeN at *
 repeat' split at h
 all_goals (simp only at h ⊢;first|(exfalso;omega)|skip)
 all_goals simp_all
theorem cB{l:List UInt8}{c:Nat}(hc:c < 128)(h:chr l=c):∃ b r,l=b::r/\b.toNat=c/\nxt l=r:=by
 cases l with
 | nil=>rw[cJ]at h;omega
 | cons b r =>
  rw[dX (by simp),eG]at h
  have h':(Lib.decodeN (b::r).length ((b::r).getD 0 0).toNat ((b::r).getD 1 0).toNat ((b::r).getD 2 0).toNat ((b::r).getD 3 0).toNat).1=c:=by omega
  have:=jC _ _ _ _ _ (by rw[h'];exact hc)
  have e:b.toNat=c:=by rw[<- h',<- this.1];rfl
  exact⟨b,r,rfl,e,(aK r (by omega)).2.2⟩
theorem dn_one(n n' b0 b1 b2 b3 c1 c2 c3:Nat)(h1:¬ c1 / 64=2)(h:(Lib.decodeN n b0 b1 b2 b3).2<=1):Lib.decodeN n' b0 c1 c2 c3=Lib.decodeN n b0 b1 b2 b3:=by
 have k1:¬ c1 / 64=2:=h1
 have e:Lib.decodeN n' b0 c1 c2 c3=if b0 < 128 then(b0,1)else(65533,1):=by
  unfold Lib.decodeN
  simp only[k1,and_false,false_and,if_false]
 rw[e]
 unfold Lib.decodeN at h ⊢
 by_cases h0:b0 < 128
 .rw[if_pos h0,if_pos h0]
 .rw[if_neg h0]at h ⊢
  rw[if_neg h0]
  revert h
  repeat' split
  all_goals first|(intro _;rfl)|(intro h;simp only at h;omega)
theorem dn_two(n n' b0 b1 b2 b3 c2 c3:Nat)(hn:2<=n)(hn':2<=n')(h1:¬ c2 / 64=2)(h:(Lib.decodeN n b0 b1 b2 b3).2<=2):Lib.decodeN n' b0 b1 c2 c3=Lib.decodeN n b0 b1 b2 b3:=by
 have k1:¬ c2 / 64=2:=h1
 have j1:1 < n:=by omega
 have j2:1 < n':=by omega
 unfold Lib.decodeN at h ⊢
 simp only[k1,j1,j2,and_false,false_and,true_and,if_false]at h ⊢
 by_cases h0:b0 < 128
 .rw[if_pos h0,if_pos h0]
 .rw[if_neg h0]at h ⊢
  rw[if_neg h0]
  by_cases h2:b0 / 32=6/\b1 / 64=2
  .rw[if_pos h2,if_pos h2]
  .rw[if_neg h2]at h ⊢
   rw[if_neg h2]
   revert h
   repeat' split
   all_goals first|(intro _;rfl)|(intro h;simp only at h;omega)|(exfalso;omega)
theorem rM(n n' b0 b1 b2 b3 c3:Nat)(hn:3<=n)(hn':3<=n')(h1:¬ c3 / 64=2)(h:(Lib.decodeN n b0 b1 b2 b3).2<=3):Lib.decodeN n' b0 b1 b2 c3=Lib.decodeN n b0 b1 b2 b3:=by
 have k1:¬ c3 / 64=2:=h1
 have j1:1 < n:=by omega
 have j2:1 < n':=by omega
 have j3:2 < n:=by omega
 have j4:2 < n':=by omega
 unfold Lib.decodeN at h ⊢
 simp only[k1,j1,j2,j3,j4,and_false,false_and,true_and,if_false]at h ⊢
 by_cases h0:b0 < 128
 .rw[if_pos h0,if_pos h0]
 .rw[if_neg h0]at h ⊢
  rw[if_neg h0]
  by_cases h2:b0 / 32=6/\b1 / 64=2
  .rw[if_pos h2,if_pos h2]
  .rw[if_neg h2]at h ⊢
   rw[if_neg h2]
   by_cases h3:b0 / 16=14/\b1 / 64=2/\b2 / 64=2
   .rw[if_pos h3,if_pos h3]
   .rw[if_neg h3]at h ⊢
    rw[if_neg h3]
    revert h
    repeat' split
    all_goals first|(intro _;rfl)|(intro h;simp only at h;omega)|(exfalso;omega)
theorem lJ(n n' b0 b1 b2 b3:Nat)(hn:4<=n)(hn':4<=n'):Lib.decodeN n' b0 b1 b2 b3=Lib.decodeN n b0 b1 b2 b3:=by
 have j1:1 < n:=by omega
 have j2:1 < n':=by omega
 have j3:2 < n:=by omega
 have j4:2 < n':=by omega
 have j5:3 < n:=by omega
 have j6:3 < n':=by omega
 unfold Lib.decodeN
 simp only[j1,j2,j3,j4,j5,j6,true_and]
theorem eF{u v v':List UInt8}(hu:u ≠ [])(hv:∀ b ∈ v'.head?,¬ b.toNat / 64=2)(h:clen (u++v)<=u.length):chr (u++v')=chr (u++v)/\clen (u++v')=clen (u++v):=by
 have n1:u++v ≠ []:=by simp[hu]
 have n2:u++v' ≠ []:=by simp[hu]
 rw[cV n1]at h
 suffices hd:dec (u++v')=dec (u++v)by
  rw[dX n1,dX n2,cV n1,cV n2,hd];exact⟨rfl,rfl⟩
 rw[eG]at h ⊢
 rw[eG]
 have hb:¬ (v'.getD 0 0).toNat / 64=2:=by
  cases v' with
  | nil=>decide
  | cons b r=>simpa[List.getD] using hv b rfl
 match u,hu with
 | [a],_=>exact dn_one _ _ _ _ _ _ _ _ _ hb h
 | [a,b],_=>exact dn_two _ _ _ _ _ _ _ _ (by simp) (by simp) hb h
 | [a,b,c],_=>exact rM _ _ _ _ _ _ _ (by simp) (by simp) hb h
 | a::b::c::d::r,_=>exact lJ _ _ _ _ _ _ (by simp) (by simp)
end Go.Proofs.YtbdhlpeckennjaaGreatDoor
namespace Go.Proofs.YtbdhlpeckennjaaGreatDoor
open Go
inductive Rch:List UInt8->List UInt8->Prop
 | refl (w:List UInt8):Rch w w
 | step (w w':List UInt8):w ≠ []->Rch (nxt w) w'->Rch w w'
theorem Rch.trans{a b c:List UInt8}(h:Rch a b)(k:Rch b c):Rch a c:=by
 induction h with
 | refl w=>exact k
 | step w w' h1 h2 ih=>exact .step _ _ h1 (ih k)
theorem pw:nxt [] = []:=rfl
theorem Rch.nxt(w:List UInt8):Rch w (nxt w):=by
 by_cases h:w = []
 .subst h;exact .refl _
 .exact .step _ _ h (.refl _)
theorem Rch.drop{a b:List UInt8}(h:Rch a b):∃ n,b=a.drop n/\n<=a.length:=by
 induction h with
 | refl w=>exact⟨0,rfl,by simp⟩
 | step w w' h1 h2 ih =>
  obtain⟨n,rfl,hn⟩:=ih
  have:=dJ h1
  refine⟨clen w+n,by unfold Go.Proofs.YtbdhlpeckennjaaGreatDoor.nxt;rw[List.drop_drop],?_⟩
  unfold Go.Proofs.YtbdhlpeckennjaaGreatDoor.nxt at hn
  rw[List.length_drop]at hn
  omega
theorem Rch.len{a b:List UInt8}(h:Rch a b):b.length<=a.length:=by
 obtain⟨n,rfl,_⟩:=h.drop
 simp
theorem Rch.split{x v r:List UInt8}(h:Rch (x++v) r)(hl:v.length<=r.length):∃ y,r=y++v/\y.length<=x.length:=by
 obtain⟨n,rfl,hn⟩:=h.drop
 simp at hl hn
 refine⟨x.drop n,by rw[List.drop_append_of_le_length (by omega)],by simp⟩
structure Look(v v':List UInt8):Prop where
 hd:∀ b ∈ v'.head?,¬ b.toNat / 64=2
 ch:chr v'=chr v\/chr v' = -1\/chr v'=10\/chr v'=32
theorem Look.sep{v v':List UInt8}(h:v' = []\/∃ y,v'=10::y\/v'=32::y):Look v v':=by
 rcases h with rfl|⟨y,rfl|rfl⟩
 .exact⟨by simp,.inr (.inl rfl)⟩
 .exact⟨by simp,.inr (.inr (.inl (aK y (by decide)).1))⟩
 .exact⟨by simp,.inr (.inr (.inr (aK y (by decide)).1))⟩
theorem Look.same{b:UInt8}(hb:b.toNat < 128)(r r':List UInt8):Look (b::r) (b::r') :=
 ⟨by simp;omega,.inl ((aK r' hb).1.trans (aK r hb).1.symm)⟩
section
variable {v v':List UInt8} (hL:Look v v')
include hL
theorem bX{x:List UInt8}(hx:x ≠ [])(h:v.length<=(nxt (x++v)).length):chr (x++v')=chr (x++v)/\nxt (x++v)=x.drop (clen (x++v))++v/\nxt (x++v')=x.drop (clen (x++v))++v'/\(x.drop (clen (x++v))).length < x.length:=by
 have hne:x++v ≠ []:=by simp[hx]
 have hc:=dJ hne
 have hcl:clen (x++v)<=x.length:=by
  unfold nxt at h
  rw[List.length_drop]at h
  simp at h hc
  omega
 obtain⟨h1,h2⟩:=eF hx hL.hd hcl
 have h0:0 < x.length:=List.length_pos_iff.2 hx
 refine⟨h1,?_,?_,by rw[List.length_drop];omega⟩
 .unfold nxt;rw[List.drop_append_of_le_length hcl]
 .unfold nxt;rw[h2,List.drop_append_of_le_length hcl]
end
section
variable {p:Int->Bool}
theorem jc(hp:p (-1)=false):∀ (k k':Nat) (w:List UInt8),w.length<=k->w.length<=k'->gj p k w=gj p k' w
 | 0,0,w,_,_=>rfl
 | 0,k'+1,w,h,_=>by
  have:w = []:=List.length_eq_zero_iff.1 (by omega)
  subst this
  simp[gj,cJ,hp]
 | k+1,0,w,_,h=>by
  have:w = []:=List.length_eq_zero_iff.1 (by omega)
  subst this
  simp[gj,cJ,hp]
 | k+1,k'+1,w,h,h'=>by
  simp only[gj]
  by_cases hc:p (chr w)=true
  .rw[if_pos hc,if_pos hc]
   have hne:w ≠ []:=by rintro rfl;rw[cJ,hp]at hc;cases hc
   have:=bZ hne
   exact jc hp k k' _ (by omega) (by omega)
  .rw[if_neg hc,if_neg hc]
theorem bP(hp:p (-1)=false)(w:List UInt8):skip p w=if p (chr w)then skip p (nxt w)else w:=by
 by_cases hc:p (chr w)=true
 .have hne:w ≠ []:=by rintro rfl;rw[cJ,hp]at hc;cases hc
  have hlt:=bZ hne
  rw[if_pos hc]
  unfold skip
  obtain⟨k,hk⟩:∃ k,w.length=k+1:=⟨w.length - 1,by omega⟩
  rw[hk]
  simp only[gj,hc,if_true]
  exact jc hp _ _ _ (by omega) (by omega)
 .rw[if_neg hc]
  unfold skip
  cases w.length with
  | zero=>rfl
  | succ k=>simp[gj,hc]
theorem bj(hp:p (-1)=false){w:List UInt8}(h:p (chr w)=false):skip p w=w:=by rw[bP hp];simp[h]
theorem aN(hp:p (-1)=false):∀ (n:Nat) (w:List UInt8),w.length<=n->p (chr (skip p w))=false/\Rch w (skip p w)
 | n,w,h=>by
  rw[bP hp]
  by_cases hc:p (chr w)=true
  .have hne:w ≠ []:=by rintro rfl;rw[cJ,hp]at hc;cases hc
   have hlt:=bZ hne
   rw[if_pos hc]
   match n with
   | 0=>omega
   | n+1 =>
    obtain⟨h1,h2⟩:=aN hp n (nxt w) (by omega)
    exact⟨h1,.step _ _ hne h2⟩
  .rw[if_neg hc];exact⟨by simpa using hc,.refl _⟩
theorem kZ(hp:p (-1)=false)(h10:p 10=false)(h32:p 32=false){v v':List UInt8}(hL:Look v v'):∀ (n:Nat) (x:List UInt8),x.length<=n->skip p (x++v)=v->skip p (x++v')=v'
 | n,x,hn,h=>by
  by_cases hx:x = []
  .subst hx
   simp only[List.nil_append]at h ⊢
   have h1:=(aN hp _ v (Nat.le_refl _)).1
   rw[h]at h1
   refine bj hp ?_
   rcases hL.ch with e|e|e|e <;> rw[e] <;> assumption
  .rw[bP hp]at h
   by_cases hc:p (chr (x++v))=true
   .rw[if_pos hc]at h
    have hl:=(aN hp _ (nxt (x++v)) (Nat.le_refl _)).2.len
    rw[h]at hl
    obtain⟨e1,e2,e3,e4⟩:=bX hL hx hl
    rw[bP hp,e1,if_pos hc,e3]
    rw[e2]at h
    match n with
    | 0=>exact absurd (List.length_eq_zero_iff.1 (by omega)) hx
    | n+1=>exact kZ hp h10 h32 hL n _ (by omega) h
   .rw[if_neg hc]at h
    have:=congrArg List.length h
    simp at this
    exact absurd this hx
end
theorem eC(m:Nat):∀ (k n:Nat) (w:List UInt8),Rch w (aY m k n w).1
 | 0,n,w=>.refl _
 | k+1,n,w=>by
  simp only[aY]
  split
  .exact(Rch.nxt w).trans (eC m k (n+1) _)
  .exact .refl _
theorem ot{v v':List UInt8}(hL:Look v v')(m:Nat):∀ (k n:Nat) (x y:List UInt8),y ≠ []->(aY m k n (x++v)).1=y++v->aY m k n (x++v')=(y++v',(aY m k n (x++v)).2)
 | 0,n,x,y,hy,h=>by
  simp only[aY]at h ⊢
  have:=List.append_inj' h rfl
  rw[this.1]
 | k+1,n,x,y,hy,h=>by
  have hl:(y++v).length<=(x++v).length:=by rw[<- h];exact(eC m _ n _).len
  have hx:x ≠ []:=by
   rintro rfl
   have:=List.length_pos_iff.2 hy
   simp at hl
   omega
  simp only[aY]at h ⊢
  by_cases hc:hexB (chr (x++v))=true
  .rw[if_pos hc]at h
   have hl2:=(eC m k (n+1) (nxt (x++v))).len
   rw[h]at hl2
   obtain⟨e1,e2,e3,e4⟩:=bX hL hx (by simp at hl2;omega)
   rw[e1,if_pos hc,if_pos hc,e3]
   rw[e2]at h ⊢
   exact ot hL m k (n+1) _ y hy h
  .rw[if_neg hc]at h
   simp only at h
   have:=List.append_inj' h rfl
   have e1:chr (x++v')=chr (x++v)\/True:=.inr trivial
   by_cases hcl:clen (x++v)<=x.length
   .have e:=(eF hx hL.hd hcl).1
    rw[e,if_neg hc,if_neg hc,this.1]
   ·
    have hn:hexB (chr (x++v'))=false:=by
     cases hh:hexB (chr (x++v'))with
     | false=>rfl
     | true =>
      exfalso
      have hb:∃ c:Nat,c < 128/\chr (x++v')=c:=by
       refine⟨(chr (x++v')).toNat,?_,?_⟩
       .simp[hexB,decB]at hh;omega
       .simp[hexB,decB]at hh;omega
      obtain⟨c,hc1,hc2⟩:=hb
      obtain⟨b,r,e,hb,_⟩:=cB hc1 hc2
      cases x with
      | nil=>exact hx rfl
      | cons a x =>
       simp at e
       have:=(aK (x++v) (b:=a) (by rw[e.1,hb];exact hc1)).2.1
       simp only[List.cons_append,List.length_cons]at hcl
       omega
    rw[if_neg (by simp[hn]),if_neg hc,this.1]
theorem iK(w:List UInt8):Rch w (aF w).1:=by
 unfold aF
 simp only
 split
 .exact .nxt w
 .split
  .exact(Rch.nxt w).trans (eC 2 2 0 _)
  .split
   .split
    .have h:=(Rch.nxt w).trans ((Rch.nxt _).trans (eC 1 6 0 (nxt (nxt w))))
     split
     .exact h.trans (.nxt _)
     .exact h
    .exact .nxt w
   .exact .refl _
theorem esc_st{v v':List UInt8}(hL:Look v v'){x y:List UInt8}(hy:y ≠ [])(h:aF (x++v)=(y++v,true)):aF (x++v')=(y++v',true):=by
 have hyl:0 < y.length:=List.length_pos_iff.2 hy
 have hl:=(iK (x++v)).len
 rw[h]at hl
 have hx:x ≠ []:=by
  rintro rfl
  simp at hl
  omega
 have hy1:∀ r:List UInt8,Rch (nxt (x++v)) r->r=y++v->v.length<=(nxt (x++v)).length:=by
  intro r hr e
  have:=hr.len
  rw[e]at this
  simp at this
  omega
 unfold aF at h ⊢
 simp only at h ⊢
 by_cases c1:chr (x++v)=110\/chr (x++v)=114\/chr (x++v)=116\/chr (x++v)=92\/chr (x++v)=48\/chr (x++v)=39\/chr (x++v)=34\/chr (x++v)=42
 .rw[if_pos c1]at h
  injection h with h _
  obtain⟨e1,e2,e3,e4⟩:=bX hL hx (hy1 _ (.refl _) h)
  rw[e1,if_pos c1,e3]
  rw[e2]at h
  rw[(List.append_inj' h rfl).1]
 .rw[if_neg c1]at h
  by_cases c2:chr (x++v)=120
  .rw[if_pos c2]at h
   have h1:(aY 2 2 0 (nxt (x++v))).1=y++v:=congrArg Prod.fst h
   have h2:(aY 2 2 0 (nxt (x++v))).2=true:=congrArg Prod.snd h
   obtain⟨e1,e2,e3,e4⟩:=bX hL hx (hy1 _ (eC 2 2 0 _) h1)
   rw[e1,if_neg c1,if_pos c2,e3]
   rw[e2]at h1 h2
   rw[ot hL 2 2 0 _ y hy h1,h2]
  .rw[if_neg c2]at h
   by_cases c3:chr (x++v)=117
   .rw[if_pos c3]at h
    by_cases c4:chr (nxt (x++v))=123
    .rw[if_pos c4]at h
     by_cases c5:chr (aY 1 6 0 (nxt (nxt (x++v)))).1=125
     .rw[if_pos c5]at h
      injection h with h1 h2
      have hr:=eC 1 6 0 (nxt (nxt (x++v)))
      obtain⟨b,r,er,_,en⟩:=cB (c:=125) (by decide) c5
      rw[en]at h1
      obtain⟨e1,e2,e3,e4⟩:=bX hL hx (hy1 (y++v) (by
       have:=(Rch.nxt _).trans (hr.trans (.nxt _));rw[en,h1]at this;exact this) rfl)
      have hx2:x.drop (clen (x++v)) ≠ []:=by
       intro e
       have h3:(b::r).length<=(nxt (nxt (x++v))).length:=by rw[<- er];exact hr.len
       have h4:=(Rch.nxt (nxt (x++v))).len
       rw[e2,e]at h4 h3
       rw[h1]at h3
       simp at h3 h4
       omega
      obtain⟨f1,f2,f3,f4⟩:=bX hL hx2 (by
       rw[<- e2]
       have:=hr.len
       rw[er,h1]at this
       simp at this
       omega)
      rw[e2]at c4
      rw[e1,if_neg c1,if_neg c2,if_pos c3,e3,f1,if_pos c4,f3]
      rw[e2,f2]at er h2
      have hst:=ot hL 1 6 0 _ (b::y) (by simp) (by rw[er,h1];rfl)
      rw[hst]
      have hb:chr (b::y++v')=125/\nxt (b::y++v')=y++v':=by
       have hb125:b.toNat=125:=by assumption
       have:=aK (y++v') (b:=b) (by omega)
       exact⟨by rw[List.cons_append,this.1,hb125];rfl,this.2.2⟩
      simp only
      rw[if_pos hb.1,hb.2,h2]
     .rw[if_neg c5]at h
      injection h with _ h2
      cases h2
    .rw[if_neg c4]at h
     injection h with _ h2
     cases h2
   .rw[if_neg c3]at h
    injection h with _ h2
    cases h2
theorem de:∀ (k:Nat) (w:List UInt8),Rch w (aI k w).1
 | 0,w=>.refl _
 | k+1,w=>by
  simp only[aI]
  split
  .exact .refl _
  .split
   .exact .refl _
   .split
    .exact(Rch.nxt w).trans ((iK _).trans (de k _))
    .exact(Rch.nxt w).trans (de k _)
theorem kY:∀ (k:Nat) (w:List UInt8),(aI k w).2=true->chr (aI k w).1=34
 | 0,w,h=>by cases h
 | k+1,w,h=>by
  simp only[aI]at h ⊢
  split
  .assumption
  .rename_i c1
   rw[if_neg c1]at h
   split
   .rename_i c2;rw[if_pos c2]at h;cases h
   .rename_i c2
    rw[if_neg c2]at h
    split
    .rename_i c3;rw[if_pos c3]at h;simp only[Bool.and_eq_true]at h;exact kY k _ h.2
    .rename_i c3;rw[if_neg c3]at h;exact kY k _ h
theorem nM{v v':List UInt8}(hL:Look v v'):∀ (k k':Nat) (x:List UInt8),x.length<=k'->aI k (x++v)=(34::v,true)->x ≠ []->aI k' (x++v')=(34::v',true)
 | 0,k',x,hk,h,hx=>by simp[aI]at h
 | k+1,0,x,hk,h,hx=>absurd (List.length_eq_zero_iff.1 (by omega)) hx
 | k+1,k'+1,x,hk,h,hx=>by
  have hlr:=(de (k+1) (x++v))
  rw[h]at hlr
  simp only[aI]at h ⊢
  by_cases c1:chr (x++v)=34
  .rw[if_pos c1]at h
   injection h with h _
   have e:x = [34]:=(List.append_inj' (show x++v = [34]++v from h) rfl).1
   subst e
   rw[if_pos (show chr ([34]++v')=34 from(aK v' (by decide)).1)]
   rfl
  .rw[if_neg c1]at h
   by_cases c2:chr (x++v)=10\/chr (x++v) < 0
   .rw[if_pos c2]at h;injection h with _ h2;cases h2
   .rw[if_neg c2]at h
    by_cases c3:chr (x++v)=92
    .rw[if_pos c3]at h
     injection h with h1 h2
     simp only[Bool.and_eq_true]at h2
     have r1:=de k (aF (nxt (x++v))).1
     have r2:=iK (nxt (x++v))
     rw[h1]at r1
     have l1:=r1.len
     have l2:=r2.len
     simp at l1
     obtain⟨e1,e2,e3,e4⟩:=bX hL hx (by omega)
     obtain⟨y,ey,hyl⟩:=(show Rch (x.drop (clen (x++v))++v) _ from by rw[<- e2];exact r2).split (by omega)
     have hyne:y ≠ []:=by
      rintro rfl
      rw[ey]at l1
      simp at l1
      omega
     have he:aF (x.drop (clen (x++v))++v)=(y++v,true):=by
      rw[<- e2];exact Prod.ext ey h2.1
     have he':=esc_st hL hyne he
     rw[e1,if_neg c1,if_neg c2,if_pos c3,e3,he']
     have hs:aI k (y++v)=(34::v,true):=by rw[<- ey];exact Prod.ext h1 h2.2
     rw[nM hL k k' y (by omega) hs hyne]
     rfl
    .rw[if_neg c3]at h
     have r1:=de k (nxt (x++v))
     rw[h]at r1
     have l1:=r1.len
     simp at l1
     obtain⟨e1,e2,e3,e4⟩:=bX hL hx (by omega)
     have hyne:x.drop (clen (x++v)) ≠ []:=by
      intro e
      rw[e2,e]at l1
      simp at l1
      omega
     rw[e1,if_neg c1,if_neg c2,if_neg c3,e3]
     rw[e2]at h
     exact nM hL k k' _ (by omega) h hyne
end Go.Proofs.YtbdhlpeckennjaaGreatDoor
