/- FnLong (the proof that the law returns true for every input), part 26 of 52; the last part says what is proved, and its condition. -/
import Derived.Test.YtbdhlpeckennjaaGreatDoorM01
import Derived.Test.YtbdhlpeckennjaaGreatDoorM22
import Derived.Test.YtbdhlpeckennjaaGreatDoorM25
set_option linter.unusedVariables false
set_option linter.unusedSimpArgs false
set_option maxHeartbeats 80000000
set_option maxRecDepth 1000000
namespace Go.Proofs.YtbdhlpeckennjaaGreatDoor
open Go
inductive GapC:List UInt8->Prop
 | nil:GapC []
 | ws (b:UInt8) (g:List UInt8):(b=9\/b=10\/b=13\/b=32)->GapC g->GapC (b::g)
 | rem (c g:List UInt8):(10:UInt8) ∉ c->GapC g->GapC (47::47::(c++10::g))
inductive GapE:List UInt8->Prop
 | of (g:List UInt8):GapC g->GapE g
 | rem (g c:List UInt8):GapC g->(10:UInt8) ∉ c->GapE (g++47::47::c)
theorem GapC.app{a b:List UInt8}(h:GapC a)(k:GapC b):GapC (a++b):=by
 induction h with
 | nil=>exact k
 | ws c g hc _ ih=>exact .ws c _ hc ih
 | rem c g hc _ ih =>
  have:=GapC.rem c _ hc ih
  simpa using this
theorem GapC.one(b:UInt8)(h:b=9\/b=10\/b=13\/b=32):GapC [b]:=.ws b [] h .nil
theorem GapC.appE{a b:List UInt8}(h:GapC a)(k:GapE b):GapE (a++b):=by
 cases k with
 | of _ k=>exact .of _ (h.app k)
 | rem g c k hc=>rw[<- List.append_assoc];exact .rem _ c (h.app k) hc
theorem GapC.head{g:List UInt8}(h:GapC g):g = []\/∃ b r,g=b::r/\b.toNat < 128:=by
 cases h with
 | nil=>exact .inl rfl
 | ws b g hb _=>exact .inr ⟨b,g,rfl,by rcases hb with rfl|rfl|rfl|rfl <;> decide⟩
 | rem c g _ _=>exact .inr ⟨47,_,rfl,by decide⟩
theorem GapE.head{g:List UInt8}(h:GapE g):g = []\/∃ b r,g=b::r/\b.toNat < 128:=by
 cases h with
 | of _ h=>exact h.head
 | rem a c h _ =>
  rcases h.head with rfl|⟨b,r,rfl,hb⟩
  .exact .inr ⟨47,_,rfl,by decide⟩
  .exact .inr ⟨b,_,rfl,hb⟩
theorem ws_byte{b:UInt8}(h:b=9\/b=10\/b=13\/b=32):b.toNat < 128/\wsB (b.toNat:Nat)=true:=by
 rcases h with rfl|rfl|rfl|rfl <;> decide
theorem iH{b:UInt8}(w:List UInt8)(h:b=9\/b=10\/b=13\/b=32):skip wsB (b::w)=skip wsB w:=by
 obtain⟨h1,h2⟩:=ws_byte h
 obtain⟨c1,c2,c3⟩:=aK w h1
 rw[bP cm,c1,if_pos h2,c3]
theorem gg(k:Nat)(w w':List UInt8)(h:skip wsB w=skip wsB w'):am (k+1) w=am (k+1) w':=by
 simp only[am,h]
abbrev gY(c:Int):Bool:=!(c == 10) && decide (0<=c)
theorem jH{l:List UInt8}(h:l ≠ []):0<=chr l:=by rw[dX h];omega
theorem iO{u v:List UInt8}(hu:u ≠ [])(hv:∀ b ∈ v.head?,¬ b.toNat / 64=2):clen (u++v)<=u.length:=by
 have n1:u++v ≠ []:=by simp[hu]
 rw[cV n1,eG]
 have hb:¬ (v.getD 0 0).toNat / 64=2:=by
  cases v with
  | nil=>decide
  | cons b r=>simpa[List.getD] using hv b rfl
 have hp:=nu (u++v).length ((u++v).getD 0 0).toNat ((u++v).getD 1 0).toNat ((u++v).getD 2 0).toNat ((u++v).getD 3 0).toNat
 match u,hu with
 | [a],_ =>
  have e:((([a]++v).getD 1 0).toNat)=(v.getD 0 0).toNat:=rfl
  rw[e]
  unfold Lib.decodeN
  have k1:¬ (v.getD 0 0).toNat / 64=2:=hb
  simp only[k1,and_false,false_and,if_false]
  split <;> simp
 | [a,b],_ =>
  have e:((([a,b]++v).getD 2 0).toNat)=(v.getD 0 0).toNat:=rfl
  rw[e]
  unfold Lib.decodeN
  have k1:¬ (v.getD 0 0).toNat / 64=2:=hb
  simp only[k1,and_false,false_and,if_false]
  repeat' split
  all_goals simp
 | [a,b,c],_ =>
  have e:((([a,b,c]++v).getD 3 0).toNat)=(v.getD 0 0).toNat:=rfl
  rw[e]
  unfold Lib.decodeN
  have k1:¬ (v.getD 0 0).toNat / 64=2:=hb
  simp only[k1,and_false,if_false]
  repeat' split
  all_goals simp
 | a::b::c::d::r,_=>simp only[List.length_cons];omega
theorem fm:∀ (n:Nat) (c:List UInt8),c.length<=n->(10:UInt8) ∉ c->(∀ g,skip gY (c++10::g)=10::g)/\skip gY c = []
 | n,[],_,_=>⟨fun g=>bj dB (by rw[List.nil_append,(aK g (by decide)).1];decide),bj dB dB⟩
 | 0,b::c,h,_=>by simp at h
 | n+1,b::c,h,hc=>by
  have hb:b ≠ 10:=fun e=>hc (by rw[e];exact List.mem_cons_self ..)
  have hne:∀ z,chr (b::c++z) ≠ 10:=by
   intro z e
   obtain⟨b',r,e1,e2,_⟩:=cB (c:=10) (by decide) e
   simp at e1
   exact hb (by rw[e1.1];exact UInt8.toNat_inj.1 (by rw[e2];rfl))
  have hgo:∀ z,(∀ x ∈ z.head?,¬ x.toNat / 64=2)->skip gY (b::c++z)=skip gY ((b::c).drop (clen (b::c++z))++z)/\1<=clen (b::c++z):=by
   intro z hz
   have hcl:=iO (u:=b::c) (v:=z) (by simp) hz
   have h0:=jH (l:=b::c++z) (by simp)
   have h1:=hne z
   rw[bP (p:=gY) dB,if_pos (by simp only[gY,Bool.and_eq_true,Bool.not_eq_true',beq_eq_false_iff_ne,decide_eq_true_eq];exact⟨h1,h0⟩)]
   refine⟨?_,(dJ (l:=b::c++z) (by simp)).1⟩
   congr 1
   unfold nxt
   rw[List.drop_append_of_le_length hcl]
  have hsub:∀ m,1<=m->((b::c).drop m).length<=n/\(10:UInt8) ∉ (b::c).drop m:=by
   intro m hm
   refine⟨by rw[List.length_drop];simp at h ⊢;omega,fun hx=>hc (List.mem_of_mem_drop hx)⟩
  refine⟨fun g=>?_,?_⟩
  .obtain⟨e,h1⟩:=hgo (10::g) (by simp)
   obtain⟨h2,h3⟩:=hsub _ h1
   rw[e]
   exact(fm n _ h2 h3).1 g
  .obtain⟨e,h1⟩:=hgo [] (by simp)
   obtain⟨h2,h3⟩:=hsub _ h1
   simp only[List.append_nil]at e h2 h3
   rw[e]
   exact(fm n _ h2 h3).2
theorem jb(w:List UInt8):skip wsB (47::w)=47::w:=bj cm (by rw[(aK w (b:=47) (by decide)).1];decide)
theorem kU(k:Nat)(w:List UInt8):am (k+1) (47::47::w)=am k (skip gY w):=by
 have c1:=aK (47::w) (b:=47) (by decide)
 have c2:=aK w (b:=47) (by decide)
 simp only[am]
 rw[jb,c1.1,c1.2.2,c2.1,c2.2.2]
 rfl
theorem iG{g:List UInt8}(h:GapC g):∀ (k k':Nat) (w:List UInt8),(g++w).length < k->w.length < k'->am k (g++w)=am k' w:=by
 induction h with
 | nil=>exact fun k k' w h1 h2=>gh k k' w h1 h2
 | ws b g hb _ ih =>
  intro k k' w h1 h2
  obtain⟨k,rfl⟩:∃ j,k=j+1:=⟨k - 1,by omega⟩
  rw[List.cons_append,gg k _ (g++w) (iH _ hb)]
  exact ih _ _ w (by simp at h1 ⊢;omega) h2
 | rem c g hc hg ih =>
  intro k k' w h1 h2
  obtain⟨k,rfl⟩:∃ j,k=j+1:=⟨k - 1,by omega⟩
  rw[show 47::47::(c++10::g)++w=47::47::(c++10::(g++w))from by simp,kU,(fm _ c (Nat.le_refl _) hc).1]
  obtain⟨k,rfl⟩:∃ j,k=j+1:=⟨k - 1,by simp at h1;omega⟩
  rw[gg k _ (g++w) (iH _ (by simp))]
  exact ih _ _ w (by simp at h1 ⊢;omega) h2
theorem kV(k:Nat):am (k+1) []=(0,[],[],true):=by
 simp only[am]
 rw[bj (w:=[]) cm cm,cJ]
 rfl
theorem me{g:List UInt8}(h:GapE g)(k:Nat)(hk:g.length < k):am k g=(0,[],[],true):=by
 cases h with
 | of _ h =>
  have:=iG h k 1 [] (by simpa using hk) (by simp)
  rw[List.append_nil]at this
  rw[this,kV]
 | rem g c h hc =>
  rw[iG h k ((47::47::c).length+1) (47::47::c) hk (by simp),kU,(fm _ c (Nat.le_refl _) hc).2]
  exact kV _
def NB (w:List UInt8):Prop:=¬ ∃ a b,w=a++47::42::b
theorem NB.tail{a w:List UInt8}(h:NB (a++w)):NB w:=by
 rintro⟨x,y,rfl⟩
 exact h ⟨a++x,y,by simp⟩
theorem lT:∀ (n:Nat) (w:List UInt8),w.length<=n->∃ g,w=g++skip wsB w/\GapC g
 | n,w,hn=>by
  by_cases hc:wsB (chr w)=true
  .have hb:∃ c:Nat,c < 128/\chr w=c/\(c=9\/c=10\/c=13\/c=32):=by
    simp[wsB]at hc
    exact⟨(chr w).toNat,by omega,by omega,by omega⟩
   obtain⟨c,h1,h2,h3⟩:=hb
   obtain⟨b,r,rfl,hb,en⟩:=cB h1 h2
   have hbb:b=9\/b=10\/b=13\/b=32:=by
    rcases h3 with rfl|rfl|rfl|rfl
    .exact .inl (UInt8.toNat_inj.1 (by rw[hb];rfl))
    .exact .inr (.inl (UInt8.toNat_inj.1 (by rw[hb];rfl)))
    .exact .inr (.inr (.inl (UInt8.toNat_inj.1 (by rw[hb];rfl))))
    .exact .inr (.inr (.inr (UInt8.toNat_inj.1 (by rw[hb];rfl))))
   match n with
   | 0=>simp at hn
   | n+1 =>
    obtain⟨g,e,hg⟩:=lT n r (by simp at hn;omega)
    refine⟨b::g,?_,.ws b g hbb hg⟩
    rw[iH r hbb,List.cons_append,<- e]
  .exact⟨[],by rw[bj cm (by simpa using hc)];rfl,.nil⟩
theorem rF:∀ (k:Nat) (w:List UInt8),w.length < k->NB w->(am k w).2.2.2=true->∃ g,w=g++(am k w).2.1/\(GapC g\/((am k w).2.1 = []/\GapE g))
 | 0,w,h,_,_=>by omega
 | k+1,w,h,hnb,hok=>by
  obtain⟨g0,e0,hg0⟩:=lT _ w (Nat.le_refl _)
  have hnb1:NB (skip wsB w):=by rw[e0]at hnb;exact hnb.tail
  have hlen:=congrArg List.length e0
  simp only[List.length_append]at hlen
  by_cases hcom:chr (skip wsB w)=47/\chr (nxt (skip wsB w))=47
  .obtain⟨b,r,er,hb,en⟩:=cB (c:=47) (by decide) hcom.1
   rw[en]at hcom
   obtain⟨b2,r2,er2,hb2,en2⟩:=cB (c:=47) (by decide) hcom.2
   have hbb:b=47:=UInt8.toNat_inj.1 (by rw[hb];rfl)
   have hbb2:b2=47:=UInt8.toNat_inj.1 (by rw[hb2];rfl)
   subst hbb;subst hbb2;subst er2
   have et:am (k+1) w=am k (skip gY r2):=by
    rw[gg k w (skip wsB w) (by rw[er,jb]),er,kU]
   rw[et]at hok ⊢
   rw[er]at hlen hnb1
   simp at hlen
   by_cases hn:(10:UInt8) ∈ r2
   .obtain⟨c,g,e,hc⟩:=List.eq_append_cons_of_mem hn
    subst e
    rw[(fm _ c (Nat.le_refl _) hc).1]at hok ⊢
    obtain⟨k,rfl⟩:∃ j,k=j+1:=⟨k - 1,by simp at hlen;omega⟩
    have es:=gg k (10::g) g (iH g (by simp))
    rw[es]at hok ⊢
    obtain⟨g1,e1,hg1⟩:=rF (k+1) g (by simp at hlen ⊢;omega) (by
     have:NB ((47::47::(c ++ [10]))++g):=by simpa using hnb1
     exact this.tail) hok
    have hC:GapC (g0++47::47::(c ++ [10])):=hg0.app (.rem c [] hc .nil)
    refine⟨(g0++47::47::(c ++ [10]))++g1,?_,?_⟩
    .conv=>lhs;rw[e0,er,e1]
     simp
    .rcases hg1 with h1|⟨h1,h2⟩
     .exact .inl (hC.app h1)
     .exact .inr ⟨h1,hC.appE h2⟩
   .rw[(fm _ r2 (Nat.le_refl _) hn).2]
    obtain⟨k,rfl⟩:∃ j,k=j+1:=⟨k - 1,by omega⟩
    rw[kV]
    refine⟨w,by simp,.inr ⟨rfl,?_⟩⟩
    rw[e0,er]
    exact .rem _ _ hg0 hn
  ·
   have hst:(am (k+1) w).2.1=skip wsB w:=by
    simp only[am]
    split
    .rfl
    .split
     .rfl
     .split
      .rfl
      .split
       .rfl
       .split
        .rename_i c4
         split
         .rename_i c5;exact absurd ⟨c4,c5⟩ hcom
         .split
          .rename_i c6
           exfalso
           obtain⟨b,r,er,hb,en⟩:=cB (c:=47) (by decide) c4
           rw[en]at c6
           obtain⟨b2,r2,er2,hb2,en2⟩:=cB (c:=42) (by decide) c6
           have hbb:b=47:=UInt8.toNat_inj.1 (by rw[hb];rfl)
           have hbb2:b2=42:=UInt8.toNat_inj.1 (by rw[hb2];rfl)
           exact hnb1 ⟨[],r2,by rw[er,er2,hbb,hbb2];rfl⟩
          .rfl
        .rfl
   rw[hst]
   exact⟨g0,e0,.inl hg0⟩
structure Sg where
 g:List UInt8
 u:List UInt8
 k:Nat
def flat:List Sg->List UInt8->List UInt8
 | [],e=>e
 | s::l,e=>s.g++(s.u++flat l e)
def cH (v:List UInt8):Prop:=∀ b ∈ v.head?,¬ b.toNat / 64=2
def ck:List Sg->List UInt8->Prop
 | [],e=>GapE e
 | s::l,e=>GapC s.g/\(Tk s.k s.u (flat l e)/\cH s.u)/\ck l e
def Good (w:List UInt8):Prop:=∀ w',Rch w w'->badc w'=false
theorem Good.sub{w w':List UInt8}(h:Good w)(k:Rch w w'):Good w':=fun _ hr=>h _ (k.trans hr)
theorem Good.head{w:List UInt8}(h:Good w):cH w:=by
 intro b hb hc
 cases w with
 | nil=>cases hb
 | cons a r =>
  simp at hb
  subst hb
  have hbad:=h _ (.refl _)
  have hd:dec (a::r)=(65533,1):=by
   rw[eG]
   have e:(((a::r).getD 0 0).toNat)=a.toNat:=rfl
   rw[e]
   unfold Lib.decodeN
   rw[if_neg (by omega),if_neg (by omega),if_neg (by omega),if_neg (by omega)]
  have h1:chr (a::r)=65533:=by rw[dX (by simp),hd];rfl
  have h2:clen (a::r)=1:=by rw[cV (by simp),hd]
  unfold badc at hbad
  rw[h1,h2]at hbad
  simp at hbad
def Sg.tok(s:Sg):Tok:=⟨s.k,⟨s.u.toArray⟩⟩
def ep:List Sg->List UInt8->List (Tok × Nat)
 | [],_=>[(eofT,0)]
 | s::l,e=>(s.tok,(s.u++flat l e).length)::ep l e
theorem jj(l:List Sg)(e:List UInt8):(ep l e).map (·.1)=l.map Sg.tok ++ [eofT]:=by
 induction l with
 | nil=>rfl
 | cons s l ih=>simp[ep,ih]
theorem pr{k:Nat}{w:List UInt8}(hk:w.length < k)(h0:(am k w).1=0)(hok:(am k w).2.2.2=true):(am k w).2.1 = []:=by
 induction k generalizing w with
 | zero=>omega
 | succ k ih =>
  have hs:=(aN (p:=wsB) cm _ w (Nat.le_refl _)).2.len
  simp only[am]at h0 hok ⊢
  by_cases c0:chr (skip wsB w) = -1
  .rw[if_pos c0]
   cases hh:skip wsB w with
   | nil=>rfl
   | cons b r=>rw[hh]at c0;have:=jH (l:=b::r) (by simp);omega
  rw[if_neg c0]at h0 hok ⊢
  have hne:skip wsB w ≠ []:=by rintro e;rw[e]at c0;exact c0 rfl
  have hlt:=bZ hne
  have h2:=(Rch.nxt (nxt (skip wsB w))).len
  split at h0
  .exfalso;simp only at h0;split at h0 <;> cases h0
  .split at h0
   .cases h0
   .split at h0
    .cases h0
    .rename_i c1 c2 c3
     rw[if_neg c1,if_neg c2,if_neg c3]at hok ⊢
     split at h0
     .rename_i c4
      rw[if_pos c4]at hok ⊢
      split at h0
      .rename_i c5
       rw[if_pos c5]at hok ⊢
       have h1:=(aN (p:=fun c=>!(c == 10) && decide (0<=c)) dB _ (nxt (nxt (skip wsB w))) (Nat.le_refl _)).2.len
       exact ih (by omega) h0 hok
      .rename_i c5
       rw[if_neg c5]at hok ⊢
       split at h0
       .rename_i c6
        rw[if_pos c6]at hok ⊢
        have h1:=(cE ((skip wsB w).length+1) (nxt (nxt (skip wsB w)))).len
        simp only[Bool.and_eq_true]at hok
        exact ih (by omega) h0 hok.2
       .cases h0
     .exact absurd h0 (op_kind _ _)
theorem pq{k:Nat}{w:List UInt8}(hk:w.length < k)(h0:(am k w).1 ≠ 0):(am k w).2.2.1.length < (am k w).2.1.length:=by
 induction k generalizing w with
 | zero=>omega
 | succ k ih =>
  have hs:=(aN (p:=wsB) cm _ w (Nat.le_refl _)).2.len
  simp only[am]at h0 ⊢
  by_cases c0:chr (skip wsB w) = -1
  .rw[if_pos c0]at h0;exact absurd rfl h0
  rw[if_neg c0]at h0 ⊢
  have hne:skip wsB w ≠ []:=by rintro e;rw[e]at c0;exact c0 rfl
  have hlt:=bZ hne
  have h2:=(Rch.nxt (nxt (skip wsB w))).len
  by_cases c1:bh (chr (skip wsB w)) true=true
  .rw[if_pos c1]
   have:=(aN (p:=(bh · false)) (by decide) _ (nxt (skip wsB w)) (Nat.le_refl _)).2.len
   simp only;omega
  rw[if_neg c1]at h0 ⊢
  by_cases c2:decB (chr (skip wsB w))=true
  .rw[if_pos c2]
   have:=(aN (p:=decB) (by decide) _ (nxt (skip wsB w)) (Nat.le_refl _)).2.len
   simp only
   rw[bP (by decide),if_pos c2];omega
  rw[if_neg c2]at h0 ⊢
  by_cases c3:chr (skip wsB w)=34
  .rw[if_pos c3]
   have:=((de ((skip wsB w).length+1) (nxt (skip wsB w))).trans (.nxt _)).len
   simp only;omega
  rw[if_neg c3]at h0 ⊢
  by_cases c4:chr (skip wsB w)=47
  .rw[if_pos c4]at h0 ⊢
   by_cases c5:chr (nxt (skip wsB w))=47
   .rw[if_pos c5]at h0 ⊢
    have h1:=(aN (p:=fun c=>!(c == 10) && decide (0<=c)) dB _ (nxt (nxt (skip wsB w))) (Nat.le_refl _)).2.len
    exact ih (by omega) h0
   rw[if_neg c5]at h0 ⊢
   by_cases c6:chr (nxt (skip wsB w))=42
   .rw[if_pos c6]at h0 ⊢
    have h1:=(cE ((skip wsB w).length+1) (nxt (nxt (skip wsB w)))).len
    exact ih (by omega) h0
   rw[if_neg c6]
   exact hlt
  rw[if_neg c4]
  have:=(ly (chr (skip wsB w)) (nxt (skip wsB w))).len
  simp only;omega
theorem py:∀ (k:Nat) (w:List UInt8) (L:List (Tok × Nat)),Good w->NB w->co k w=some L->∃ l e,w=flat l e/\ck l e/\L=ep l e
 | 0,w,L,_,_,h=>by cases h
 | k+1,w,L,hgd,hnb,h=>by
  simp only[co]at h
  by_cases hok:(am (w.length+1) w).2.2.2=false
  .rw[if_pos hok]at h;cases h
  rw[if_neg hok]at h
  have hok':(am (w.length+1) w).2.2.2=true:=by simpa using hok
  obtain⟨g,e,hg⟩:=rF _ w (Nat.lt_succ_self _) hnb hok'
  by_cases h0:(am (w.length+1) w).1=0
  .rw[if_pos h0]at h
   injection h with h
   have hend:=pr (Nat.lt_succ_self _) h0 hok'
   rw[hend,List.append_nil]at e
   refine⟨[],w,rfl,?_,?_⟩
   .show GapE w
    rw[e]
    rcases hg with hg|⟨_,hg⟩
    .exact .of _ hg
    .exact hg
   .rw[<- h,hend];rfl
  rw[if_neg h0]at h
  cases hr:co k (am (w.length+1) w).2.2.1 with
  | none=>rw[hr]at h;cases h
  | some L' =>
   rw[hr]at h
   simp only[Option.map_some,Option.some.injEq]at h
   obtain⟨hr1,hr2⟩:=cR (w.length+1) w
   obtain⟨n,en,hn⟩:=hr2.drop
   have hu:∃ u,(am (w.length+1) w).2.1=u++(am (w.length+1) w).2.2.1:=⟨((am (w.length+1) w).2.1).take n,by rw[en];exact(List.take_append_drop n _).symm⟩
   obtain⟨u,eu⟩:=hu
   have hgC:GapC g:=by
    rcases hg with hg|⟨hnil,_⟩
    .exact hg
    .exfalso
     apply h0
     have hE:GapE w:=by
      rw[hnil,List.append_nil]at e
      rw[e];rename_i hge;exact hge
     rw[me hE _ (Nat.lt_succ_self _)]
   have hstart:am ((u++(am (w.length+1) w).2.2.1).length+1) (u++(am (w.length+1) w).2.2.1)=am (w.length+1) w:=by
    have h1:=iG hgC (w.length+1) ((u++(am (w.length+1) w).2.2.1).length+1) (u++(am (w.length+1) w).2.2.1) (by rw[<- eu,<- e];omega) (Nat.lt_succ_self _)
    rw[<- h1]
    conv=>rhs;rw[e,eu]
    rw[<- eu,<- e]
   have hune:u ≠ []:=by
    rintro rfl
    have:=pq (k:=w.length+1) (Nat.lt_succ_self _) h0
    rw[List.nil_append]at eu
    rw[eu]at this
    omega
   have hTk:Tk (am (w.length+1) w).1 u (am (w.length+1) w).2.2.1:=by
    refine⟨h0,hune,?_⟩
    rw[hstart]
    refine Prod.ext rfl (Prod.ext eu (Prod.ext rfl hok'))
   have hnb':NB (am (w.length+1) w).2.2.1:=by
    have:NB ((g++u)++(am (w.length+1) w).2.2.1):=by rw[List.append_assoc,<- eu,<- e];exact hnb
    exact this.tail
   obtain⟨l,ee,e2,hl,eL⟩:=py k _ L' (hgd.sub (hr1.trans hr2)) hnb' hr
   have hho:cH u:=by
    have:=(hgd.sub hr1).head
    rw[eu]at this
    cases u with
    | nil=>exact absurd rfl hune
    | cons a r=>exact this
   refine⟨⟨g,u,(am (w.length+1) w).1⟩::l,ee,?_,⟨hgC,⟨by rw[<- e2];exact hTk,hho⟩,hl⟩,?_⟩
   .show w=g++(u++flat l ee)
    rw[<- e2,<- eu,<- e]
   .rw[<- h,eL]
    show _=(Tok.mk _ _,_)::_
    rw[<- e2,<- eu]
    congr 1
    have:((am (w.length+1) w).2.1).take (((am (w.length+1) w).2.1).length - ((am (w.length+1) w).2.2.1).length)=u:=by rw[eu];simp
    rw[this]
theorem pz:∀ (l:List Sg) (e:List UInt8) (k:Nat),ck l e->l.length < k->co k (flat l e)=some (ep l e)
 | [],e,k,h,hk=>by
  obtain⟨k,rfl⟩:∃ j,k=j+1:=⟨k - 1,by omega⟩
  have ht:am (e.length+1) e=(0,[],[],true):=me h _ (Nat.lt_succ_self _)
  simp[co,flat,ht,ep,eofT]
 | s::l,e,k,⟨hg,⟨hT,_⟩,hl⟩,hk=>by
  obtain⟨k,rfl⟩:∃ j,k=j+1:=⟨k - 1,by omega⟩
  have h1:=iG hg ((s.g++(s.u++flat l e)).length+1) ((s.u++flat l e).length+1) (s.u++flat l e) (Nat.lt_succ_self _) (Nat.lt_succ_self _)
  have ht:=h1.trans hT.2.2
  simp only[co,flat,ht,Bool.true_eq_false,if_false]
  rw[if_neg hT.1,pz l e k hl (by simp at hk;omega)]
  simp[ep,Sg.tok]
end Go.Proofs.YtbdhlpeckennjaaGreatDoor
namespace Go.Proofs.YtbdhlpeckennjaaGreatDoor
open Go
theorem mZ:Good []:=by
 intro w h
 have:=h.len
 rw[List.length_eq_zero_iff.1 (show w.length=0 by simpa using this)]
 rfl
theorem kH{w:List UInt8}(h:w ≠ []):Good w <-> badc w=false/\Good (nxt w):=by
 constructor
 .intro hg
  exact⟨hg _ (.refl _),hg.sub (.nxt w)⟩
 .rintro⟨h1,h2⟩ w' hr
  cases hr with
  | refl=>exact h1
  | step _ _ _ hr=>exact h2 _ hr
theorem fi:∀ (k:Nat) (w:List UInt8),w.length < k->(dK k w=false <-> Good w)
 | 0,w,h=>by omega
 | k+1,w,h=>by
  simp only[dK]
  by_cases hw:w = []
  .subst hw
   simp only[List.isEmpty_nil,if_true,Bool.or_false]
   exact⟨fun _=>mZ,fun _=>rfl⟩
  .have hlt:=bZ hw
   have he:w.isEmpty=false:=by simpa using hw
   rw[he]
   simp only[Bool.false_eq_true,if_false,Bool.or_eq_false_iff]
   rw[fi k (nxt w) (by omega),kH hw]
theorem jr:cH []:=fun b hb=>by cases hb
theorem aH{b:UInt8}(v:List UInt8)(h:b.toNat < 128):cH (b::v):=fun c hc=>by simp at hc;subst hc;omega
theorem fS{u:List UInt8}(v:List UInt8)(hu:u ≠ [])(h:cH u):cH (u++v):=by
 cases u with
 | nil=>exact absurd rfl hu
 | cons a r=>exact h
theorem qg{b:UInt8}(v:List UInt8)(h:b.toNat < 128)(h0:b ≠ 0):Good (b::v) <-> Good v:=by
 obtain⟨c1,c2,c3⟩:=aK v h
 rw[kH (by simp),c3]
 have hb:badc (b::v)=false:=by
  unfold badc
  rw[c1,c2]
  have:b.toNat ≠ 0:=fun e=>h0 (UInt8.toNat_inj.1 (by rw[e];rfl))
  have h1:(((b.toNat:Nat):Int) == 65533)=false:=by rw[beq_eq_false_iff_ne];omega
  have h2:(((b.toNat:Nat):Int) == 0)=false:=by rw[beq_eq_false_iff_ne];omega
  rw[h1,h2];rfl
 simp[hb]
theorem gapC_ok{g:List UInt8}(h:GapC g):cH g:=by
 rcases h.head with rfl|⟨b,r,rfl,hb⟩
 .exact jr
 .exact aH r hb
theorem gapE_ok{g:List UInt8}(h:GapE g):cH g:=by
 rcases h.head with rfl|⟨b,r,rfl,hb⟩
 .exact jr
 .exact aH r hb
theorem pC{l:List Sg}{e:List UInt8}(h:ck l e):cH (flat l e):=by
 cases l with
 | nil=>exact gapE_ok h
 | cons s l =>
  obtain⟨h1,⟨h2,h3⟩,_⟩:=h
  show cH (s.g++(s.u++flat l e))
  by_cases hg:s.g = []
  .rw[hg,List.nil_append];exact fS _ h2.2.1 h3
  .exact fS _ hg (gapC_ok h1)
theorem ro{u z z':List UInt8}(hu:u ≠ [])(hh:cH u)(hz:cH z)(hL:Look z z'):Look (u++z) (u++z') :=
 ⟨fS _ hu hh,.inl (eF hu hL.hd (iO hu hz)).1⟩
theorem kD:∀ (l1 m l':List Sg) (e e':List UInt8),ck (l1++m) e->ck l' e'->Look (flat m e) (flat l' e')->ck (l1++l') e'/\Look (flat (l1++m) e) (flat (l1++l') e')
 | [],m,l',e,e',_,h',hL=>⟨h',hL⟩
 | s::l1,m,l',e,e',⟨hg,⟨hT,hh⟩,hl⟩,h',hL=>by
  obtain⟨k1,k2⟩:=kD l1 m l' e e' hl h' hL
  refine⟨⟨hg,⟨tk_st hT k2,hh⟩,k1⟩,?_⟩
  show Look (s.g++(s.u++flat (l1++m) e)) (s.g++(s.u++flat (l1++l') e'))
  rcases hg.head with e0|⟨b,r,e0,hb⟩
  .rw[e0,List.nil_append,List.nil_append];exact ro hT.2.1 hh (pC hl) k2
  .rw[e0];exact Look.same hb _ _
def body:List Sg->List UInt8
 | []=>[]
 | s::l=>s.g++(s.u++body l)
theorem qI(l:List Sg)(e:List UInt8):flat l e=body l++e:=by
 induction l with
 | nil=>rfl
 | cons s l ih=>simp[flat,body,ih]
theorem rH(l m:List Sg)(e:List UInt8):flat (l++m) e=body l++flat m e:=by
 induction l with
 | nil=>rfl
 | cons s l ih=>simp[flat,body,ih]
inductive Rn:List UInt8->List UInt8->Prop
 | refl (w:List UInt8):Rn w w
 | step (w w':List UInt8):w ≠ []->chr w ≠ 10->Rn (nxt w) w'->Rn w w'
theorem Rn.trans{a b c:List UInt8}(h:Rn a b)(k:Rn b c):Rn a c:=by
 induction h with
 | refl w=>exact k
 | step w w' h1 h2 h3 ih=>exact .step _ _ h1 h2 (ih k)
theorem Rn.one{w:List UInt8}(h:chr w ≠ 10):Rn w (nxt w):=by
 by_cases hw:w = []
 .subst hw;exact .refl _
 .exact .step _ _ hw h (.refl _)
theorem Rn.rch{a b:List UInt8}(h:Rn a b):Rch a b:=by
 induction h with
 | refl w=>exact .refl _
 | step w w' h1 h2 h3 ih=>exact .step _ _ h1 ih
theorem rn_nonl{w v:List UInt8}(h:Rn w v):∀ x,w=x++v->(10:UInt8) ∉ x:=by
 induction h with
 | refl w =>
  intro x e
  have:=congrArg List.length e
  simp only[List.length_append]at this
  rw[List.length_eq_zero_iff.1 (show x.length=0 by omega)]
  simp
 | step w v h1 h2 h3 ih =>
  intro x e hx
  have hl:=h3.rch.len
  have hcp:=dJ h1
  have hcx:clen w<=x.length:=by
   have e2:=congrArg List.length e
   unfold nxt at hl
   rw[List.length_drop]at hl
   simp at e2
   omega
  have e3:nxt w=x.drop (clen w)++v:=by unfold nxt;conv=>lhs;rw[e];rw[List.drop_append_of_le_length (by rw[<- e];exact hcx)];rw[<- e]
  have h10:=ih _ e3
  obtain⟨a,b,hab⟩:=List.append_of_mem hx
  have ha:a.length < clen w:=by
   apply Nat.lt_of_not_le
   intro hge
   apply h10
   rw[hab,List.drop_append_of_le_length hge]
   exact List.mem_append_right _ (List.mem_cons_self ..)
  cases a with
  | nil =>
   rw[hab]at e
   rw[e]at h2
   exact h2 (aK _ (b:=10) (by decide)).1
  | cons a0 a1 =>
   have:=iO (u:=a0::a1) (v:=10::(b++v)) (by simp) (aH _ (by decide))
   rw[show a0::a1++10::(b++v)=w from by rw[e,hab];simp]at this
   omega
theorem la{p:Int->Bool}(hp:p (-1)=false)(h10:p 10=false):∀ (n:Nat) (w:List UInt8),w.length<=n->Rn w (skip p w)
 | n,w,h=>by
  rw[bP hp]
  by_cases hc:p (chr w)=true
  .have hne:w ≠ []:=by rintro rfl;rw[cJ,hp]at hc;cases hc
   have hlt:=bZ hne
   rw[if_pos hc]
   match n with
   | 0=>omega
   | n+1=>exact .step _ _ hne (by intro e;rw[e,h10]at hc;cases hc) (la hp h10 n (nxt w) (by omega))
  .rw[if_neg hc];exact .refl _
theorem ou(m:Nat):∀ (k n:Nat) (w:List UInt8),Rn w (aY m k n w).1
 | 0,n,w=>.refl _
 | k+1,n,w=>by
  simp only[aY]
  split
  .rename_i hc
   exact(Rn.one (by intro e;rw[e]at hc;revert hc;decide)).trans (ou m k (n+1) _)
  .exact .refl _
theorem esc_rn{w:List UInt8}(h:(aF w).2=true):Rn w (aF w).1:=by
 unfold aF at h ⊢
 simp only at h ⊢
 split
 .rename_i c1;exact .one (by omega)
 .rename_i c1
  rw[if_neg c1]at h
  split
  .rename_i c2;exact(Rn.one (by omega)).trans (ou 2 2 0 _)
  .rename_i c2
   rw[if_neg c2]at h
   split
   .rename_i c3
    rw[if_pos c3]at h
    split
    .rename_i c4
     rw[if_pos c4]at h
     split
     .rename_i c5
      exact(Rn.one (by omega)).trans ((Rn.one (by omega)).trans ((ou 1 6 0 _).trans (.one (by omega))))
     .rename_i c5
      rw[if_neg c5]at h;cases h
    .rename_i c4;rw[if_neg c4]at h;cases h
   .rename_i c3;rw[if_neg c3]at h;cases h
theorem nN:∀ (k:Nat) (w:List UInt8),(aI k w).2=true->Rn w (aI k w).1
 | 0,w,h=>by cases h
 | k+1,w,h=>by
  simp only[aI]at h ⊢
  split
  .exact .refl _
  .rename_i c1
   rw[if_neg c1]at h
   split
   .rename_i c2;rw[if_pos c2]at h;cases h
   .rename_i c2
    rw[if_neg c2]at h
    split
    .rename_i c3
     rw[if_pos c3]at h
     simp only[Bool.and_eq_true]at h
     exact(Rn.one (by omega)).trans ((esc_rn h.1).trans (nN k _ h.2))
    .rename_i c3
     rw[if_neg c3]at h
     exact(Rn.one (by omega)).trans (nN k _ h)
theorem op_rn(c:Int)(w:List UInt8):Rn w (az c w).2:=by
 unfold az
 repeat' split
 all_goals first|exact .refl _|(refine .one ?_;omega)
theorem tk_nonl{k:Nat}{u v:List UInt8}(h:Tk k u v):(10:UInt8) ∉ u:=by
 obtain⟨hk,hu,h⟩:=h
 refine rn_nonl (w:=u++v) (v:=v) ?_ u rfl
 have hsr:=(aN (p:=wsB) cm _ (u++v) (Nat.le_refl _))
 have hst:∀ (r:List UInt8),Rch (nxt (skip wsB (u++v))) r->r.length < (u++v).length:=by
  intro r hr
  have h1:=hr.len
  have h2:=hsr.2.len
  have hul:0 < u.length:=List.length_pos_iff.2 hu
  by_cases hne:skip wsB (u++v) = []
  .rw[hne,pw]at h1;simp at h1 ⊢;rw[h1];simp;omega
  .have:=bZ hne;omega
 simp only[am]at h
 by_cases c0:chr (skip wsB (u++v)) = -1
 .rw[if_pos c0]at h;injection h with h1 h2;exact absurd h1.symm hk
 rw[if_neg c0]at h
 by_cases c1:bh (chr (skip wsB (u++v))) true=true
 .rw[if_pos c1]at h
  have e:skip wsB (u++v)=u++v:=congrArg (fun x=>x.2.1) h
  have e2:skip (bh · false) (nxt (skip wsB (u++v)))=v:=congrArg (fun x=>x.2.2.1) h
  rw[e]at e2 c1
  have hh:=la (p:=(bh · false)) (by decide) (by decide) _ (nxt (u++v)) (Nat.le_refl _)
  rw[e2]at hh
  exact(Rn.one (by intro e;rw[e]at c1;revert c1;decide)).trans hh
 rw[if_neg c1]at h
 by_cases c2:decB (chr (skip wsB (u++v)))=true
 .rw[if_pos c2]at h
  have e:skip wsB (u++v)=u++v:=congrArg (fun x=>x.2.1) h
  have e2:skip decB (skip wsB (u++v))=v:=congrArg (fun x=>x.2.2.1) h
  rw[e]at e2
  have:=la (p:=decB) (by decide) (by decide) _ (u++v) (Nat.le_refl _)
  rw[e2]at this;exact this
 rw[if_neg c2]at h
 by_cases c3:chr (skip wsB (u++v))=34
 .rw[if_pos c3]at h
  have e:skip wsB (u++v)=u++v:=congrArg (fun x=>x.2.1) h
  rw[e]at h c3
  have e2:nxt (aI ((u++v).length+1) (nxt (u++v))).1=v:=congrArg (fun x=>x.2.2.1) h
  have e3:(aI ((u++v).length+1) (nxt (u++v))).2=true:=congrArg (fun x=>x.2.2.2) h
  have h4:=kY _ _ e3
  have:=(Rn.one (w:=u++v) (by omega)).trans ((nN _ _ e3).trans (.one (by omega)))
  rw[e2]at this;exact this
 rw[if_neg c3]at h
 by_cases c4:chr (skip wsB (u++v))=47
 .rw[if_pos c4]at h
  by_cases c5:chr (nxt (skip wsB (u++v)))=47
  .rw[if_pos c5]at h
   exfalso
   have h1:=(cR (u++v).length (skip (fun c=>!(c == 10) && decide (0<=c)) (nxt (nxt (skip wsB (u++v)))))).1
   rw[h]at h1
   have:=hst (u++v) ((Rch.nxt _).trans ((aN dB _ _ (Nat.le_refl _)).2.trans h1))
   omega
  rw[if_neg c5]at h
  by_cases c6:chr (nxt (skip wsB (u++v)))=42
  .rw[if_pos c6]at h
   exfalso
   have h1:=(cR (u++v).length (bN ((skip wsB (u++v)).length+1) (nxt (nxt (skip wsB (u++v))))).1).1
   have e:(am (u++v).length (bN ((skip wsB (u++v)).length+1) (nxt (nxt (skip wsB (u++v))))).1).2.1=u++v:=congrArg (fun x=>x.2.1) h
   rw[e]at h1
   have:=hst (u++v) ((Rch.nxt _).trans ((cE _ _).trans h1))
   omega
  rw[if_neg c6]at h
  have e:skip wsB (u++v)=u++v:=congrArg (fun x=>x.2.1) h
  have e2:nxt (skip wsB (u++v))=v:=congrArg (fun x=>x.2.2.1) h
  rw[e]at e2 c4
  have:=Rn.one (w:=u++v) (by omega)
  rw[e2]at this;exact this
 rw[if_neg c4]at h
 have e:skip wsB (u++v)=u++v:=congrArg (fun x=>x.2.1) h
 have e2:(az (chr (skip wsB (u++v))) (nxt (skip wsB (u++v)))).2=v:=congrArg (fun x=>x.2.2.1) h
 rw[e]at e2
 have hws:wsB (chr (u++v))=false:=by have:=hsr.1;rw[e]at this;exact this
 have:=(Rn.one (w:=u++v) (by intro e;rw[e]at hws;revert hws;decide)).trans (op_rn (chr (u++v)) (nxt (u++v)))
 rw[e2]at this;exact this
end Go.Proofs.YtbdhlpeckennjaaGreatDoor
namespace Go.Proofs.YtbdhlpeckennjaaGreatDoor
open Go
theorem js{g:List UInt8}(h:GapC g):∀ x y,g=x++10::y->GapE x/\GapC y:=by
 induction h with
 | nil=>intro x y e;cases x <;> cases e
 | ws b g hb hg ih =>
  intro x y e
  cases x with
  | nil =>
   simp at e
   obtain⟨-,rfl⟩:=e
   exact⟨.of _ .nil,hg⟩
  | cons a x =>
   simp at e
   obtain⟨rfl,e⟩:=e
   obtain⟨h1,h2⟩:=ih x y e
   exact⟨(GapC.one b hb).appE h1,h2⟩
 | rem c g hc hg ih =>
  intro x y e
  rcases Nat.lt_trichotomy x.length (c.length+2)with hlt|heq|hgt
  .exfalso
   have:=congrArg (fun l=>l[x.length]?) e
   try simp only at this
   rw[List.getElem?_append_right (Nat.le_refl _)]at this
   simp only[Nat.sub_self,List.getElem?_cons_zero]at this
   match x,hlt with
   | [],_=>simp at this
   | [_],_=>simp at this
   | a::b::x',hl =>
    simp only[List.length_cons,List.getElem?_cons_succ]at this hl
    rw[List.getElem?_append_left (by omega)]at this
    exact hc (List.mem_of_getElem? this)
  .have e':(47::47::c)++(10::g)=x++10::y:=by simpa using e
   obtain⟨rfl,e2⟩:=List.append_inj e' (by simp;omega)
   simp at e2
   subst e2
   exact⟨by simpa using GapE.rem [] c .nil hc,hg⟩
  .have e':(47::47::(c ++ [10]))++g=x++10::y:=by simpa using e
   have h1:(47::47::(c ++ [10])).length<=x.length:=by simp;omega
   obtain⟨z,rfl⟩:∃ z,x=(47::47::(c ++ [10]))++z:=by
    refine⟨x.drop (47::47::(c ++ [10])).length,?_⟩
    have h2:=congrArg (List.take (47::47::(c ++ [10])).length) e'
    rw[List.take_left,List.take_append_of_le_length h1]at h2
    conv=>rhs;rw[h2]
    rw[show(List.take (47::47::(c ++ [10])).length x).length=(47::47::(c ++ [10])).length from by rw[List.length_take];omega]
    exact(List.take_append_drop _ x).symm
   rw[List.append_assoc]at e'
   obtain⟨h2,h3⟩:=ih z y (List.append_cancel_left e')
   exact⟨(GapC.rem c [] hc .nil).appE h2,h3⟩
theorem rG{g x y:List UInt8}(h:GapE g)(e:g=x++10::y):GapE x/\GapE y:=by
 cases h with
 | of _ h =>
  obtain⟨h1,h2⟩:=js h x y e
  exact⟨h1,.of _ h2⟩
 | rem g c h hc =>
  have hlt:x.length < g.length:=by
   apply Nat.lt_of_not_le
   intro hge
   have:=congrArg (fun l=>l[x.length]?) e
   try simp only at this
   rw[List.getElem?_append_right (Nat.le_refl _),List.getElem?_append_right hge]at this
   simp only[Nat.sub_self,List.getElem?_cons_zero]at this
   match hm:x.length - g.length,this with
   | 0,this=>simp at this
   | 1,this=>simp at this
   | n+2,this =>
    simp only[List.getElem?_cons_succ]at this
    exact hc (List.mem_of_getElem? this)
  obtain⟨g2,rfl⟩:∃ g2,g=x++10::g2:=by
   have h1:=congrArg (List.take g.length) e
   rw[List.take_left,List.take_append]at h1
   obtain⟨n,hn⟩:∃ n,g.length - x.length=n+1:=⟨g.length - x.length - 1,by omega⟩
   rw[List.take_of_length_le (by omega),hn,List.take_succ_cons]at h1
   exact⟨_,h1⟩
  rw[List.append_assoc,List.cons_append]at e
  have e2:=List.append_cancel_left e
  simp at e2
  subst e2
  obtain⟨h1,h2⟩:=js h x g2 rfl
  exact⟨h1,.rem _ _ h2 hc⟩
theorem rp{x:List UInt8}(y:List UInt8)(h:cH (x++10::y)):Look (x++10::y) x:=by
 by_cases hx:x = []
 .subst hx;exact .sep (.inl rfl)
 .have hh:cH x:=by
   cases x with
   | nil=>exact absurd rfl hx
   | cons a r=>exact h
  refine⟨hh,.inl ?_⟩
  have h1:=eF (u:=x) (v:=10::y) (v':=[]) hx (by intro b hb;cases hb) (iO hx (aH y (by decide)))
  rw[List.append_nil]at h1
  exact h1.1
theorem cut:∀ (l:List Sg) (e x y:List UInt8),ck l e->flat l e=x++10::y->∃ l1 e1 l2 e2,ck l1 e1/\flat l1 e1=x/\ck l2 e2/\flat l2 e2=y/\l.map Sg.tok=l1.map Sg.tok++l2.map Sg.tok
 | [],e,x,y,h,hf=>by
  obtain⟨h1,h2⟩:=rG h hf
  exact⟨[],x,[],y,h1,rfl,h2,rfl,rfl⟩
 | s::l,e,x,y,⟨hg,⟨hT,hh⟩,hl⟩,hf=>by
  have hf':s.g++(s.u++flat l e)=x++10::y:=hf
  by_cases h1:x.length < s.g.length
  .obtain⟨g2,e2⟩:∃ g2,s.g=x++10::g2:=by
    have h2:=congrArg (List.take s.g.length) hf'
    rw[List.take_left,List.take_append]at h2
    obtain⟨n,hn⟩:∃ n,s.g.length - x.length=n+1:=⟨s.g.length - x.length - 1,by omega⟩
    rw[List.take_of_length_le (by omega),hn,List.take_succ_cons]at h2
    exact⟨_,h2⟩
   obtain⟨k1,k2⟩:=js hg x g2 e2
   refine⟨[],x,⟨g2,s.u,s.k⟩::l,e,k1,rfl,⟨k2,⟨hT,hh⟩,hl⟩,?_,rfl⟩
   rw[e2,List.append_assoc,List.cons_append]at hf'
   have:=List.append_cancel_left hf'
   simp at this
   exact this
  .obtain⟨x1,rfl⟩:∃ x1,x=s.g++x1:=by
    refine⟨x.drop s.g.length,?_⟩
    have h2:=congrArg (List.take s.g.length) hf'
    rw[List.take_left,List.take_append_of_le_length (by omega)]at h2
    conv=>lhs;rw[<- List.take_append_drop s.g.length x,<- h2]
   rw[List.append_assoc]at hf'
   have hf2:=List.append_cancel_left hf'
   by_cases h2:x1.length < s.u.length
   .exfalso
    have h3:=congrArg (fun l=>l[x1.length]?) hf2
    try simp only at h3
    rw[List.getElem?_append_right (Nat.le_refl _),List.getElem?_append_left h2]at h3
    simp only[Nat.sub_self,List.getElem?_cons_zero]at h3
    exact tk_nonl hT (List.mem_of_getElem? h3)
   .obtain⟨x2,rfl⟩:∃ x2,x1=s.u++x2:=by
     refine⟨x1.drop s.u.length,?_⟩
     have h2:=congrArg (List.take s.u.length) hf2
     rw[List.take_left,List.take_append_of_le_length (by omega)]at h2
     conv=>lhs;rw[<- List.take_append_drop s.u.length x1,<- h2]
    rw[List.append_assoc]at hf2
    have hf3:=List.append_cancel_left hf2
    obtain⟨l1,e1,l2,e2,k1,k2,k3,k4,k5⟩:=cut l e x2 y hl hf3
    refine⟨s::l1,e1,l2,e2,⟨hg,⟨tk_st hT ?_,hh⟩,k1⟩,?_,k3,k4,by simp[k5]⟩
    .rw[hf3,k2]
     exact rp y (by rw[<- hf3];exact pC hl)
    .show s.g++(s.u++flat l1 e1)=_
     rw[k2]
def brB (b:UInt8):Bool:=b == 40 || b == 41 || b == 123 || b == 125 || b == 91 || b == 93
theorem nC{b:UInt8}(h:brB b=true)(v:List UInt8):Tk 5 [b] v/\b.toNat < 128/\b ≠ 0:=by
 have hb:b.toNat < 128/\b ≠ 0:=by
  simp[brB]at h
  rcases h with ((((rfl|rfl)|rfl)|rfl)|rfl)|rfl <;> decide
 refine⟨⟨by simp,by simp,?_⟩,hb⟩
 obtain⟨c1,c2,c3⟩:=aK v hb.1
 have hw:wsB (chr ([b]++v))=false:=by
  rw[List.singleton_append,c1]
  simp[brB]at h
  rcases h with ((((rfl|rfl)|rfl)|rfl)|rfl)|rfl <;> decide
 simp only[am]
 rw[bj cm hw,List.singleton_append,c1,c3]
 simp[brB]at h
 rcases h with ((((rfl|rfl)|rfl)|rfl)|rfl)|rfl <;> rfl
def packed(l:List Sg):List Sg:=l.map fun s=>⟨[32],s.u,s.k⟩
theorem qd{w:List UInt8}{L:List (Tok × Nat)}(h:ce w=some L)(hnb:NB w):Good w/\∃ l e,w=flat l e/\ck l e/\L=(ep l e).map fun x=>(x.1,w.length - x.2):=by
 unfold ce at h
 cases ha:dK (w.length+1) w with
 | true=>rw[ha]at h;cases h
 | false =>
  have hg:=(fi (w.length+1) w (by omega)).1 ha
  rw[ha]at h
  simp only[Bool.false_eq_true,if_false]at h
  cases hl:co (w.length+1) w with
  | none=>rw[hl]at h;cases h
  | some L' =>
   obtain⟨l,e,h1,h2,h3⟩:=py _ w L' hg hnb hl
   rw[hl]at h
   simp only[Option.map_some,Option.some.injEq]at h
   exact⟨hg,l,e,h1,h2,by rw[<- h,h3]⟩
theorem qc{l:List Sg}{e:List UInt8}(h:ck l e):l.length<=(flat l e).length:=by
 induction l with
 | nil=>simp
 | cons s l ih =>
  have h1:=ih h.2.2
  have h2:=List.length_pos_iff.2 h.2.1.1.2.1
  simp[flat];omega
theorem qe{l:List Sg}{e:List UInt8}(hg:Good (flat l e))(h:ck l e):ce (flat l e)=some ((ep l e).map fun x=>(x.1,(flat l e).length - x.2)):=by
 unfold ce
 rw[(fi _ _ (Nat.lt_succ_self _)).2 hg]
 simp only[Bool.false_eq_true,if_false]
 rw[pz l e _ h (by have:=qc h;omega)]
 rfl
theorem fR{w:List UInt8}{ts:List Tok}(h:bL w=some ts)(hnb:NB w):Good w/\∃ l e,w=flat l e/\ck l e/\ts=l.map Sg.tok ++ [eofT]:=by
 unfold bL at h
 cases ha:ce w with
 | none=>rw[ha]at h;cases h
 | some L =>
  rw[ha]at h
  obtain⟨h1,l,e,h2,h3,h4⟩:=qd ha hnb
  simp only[Option.map_some,Option.some.injEq]at h
  refine⟨h1,l,e,h2,h3,?_⟩
  rw[<- h,h4,List.map_map,<- jj l e]
  rfl
theorem ol{l:List Sg}{e:List UInt8}(hg:Good (flat l e))(h:ck l e):bL (flat l e)=some (l.map Sg.tok ++ [eofT]):=by
 unfold bL
 rw[qe hg h]
 simp only[Option.map_some,List.map_map,Option.some.injEq]
 rw[<- jj l e]
 rfl
theorem tk_wf{k:Nat}{u v:List UInt8}(h:Tk k u v):WfT ⟨k,⟨u.toArray⟩⟩/\k ≠ 0:=by
 refine⟨fun hk=>?_,h.1⟩
 have hno:∀ b:UInt8,brB b=true->u ≠ [b]:=by
  rintro b hb rfl
  have h1:=(nC hb v).1.2.2
  rw[h.2.2]at h1
  exact hk (congrArg (·.1) h1)
 unfold wt
 simp only[kF]
 have e:∀ b:UInt8,brB b=true->(u == [b])=false:=fun b hb=>by simpa using hno b hb
 rw[e 40 rfl,e 123 rfl,e 91 rfl,e 41 rfl,e 125 rfl,e 93 rfl]
 rfl
theorem iW{l:List Sg}{e:List UInt8}(h:ck l e):KFin (l.map Sg.tok ++ [eofT]):=by
 have hall:∀ t ∈ l.map Sg.tok,WfT t/\t.kind ≠ 0:=by
  induction l with
  | nil=>intro t ht;cases ht
  | cons s l ih =>
   intro t ht
   simp only[List.map_cons,List.mem_cons]at ht
   rcases ht with rfl|ht
   .exact tk_wf h.2.1.1
   .exact ih h.2.2 t ht
 refine⟨⟨by simp,fun t ht=>?_⟩,fun t ht=>?_⟩
 .rcases List.mem_append.1 ht with ht|ht
  .exact(hall t ht).1
  .simp at ht;subst ht;intro _;exact wt_eof
 .rw[List.dropLast_concat]at ht
  exact(hall t ht).2
end Go.Proofs.YtbdhlpeckennjaaGreatDoor
namespace Go.Proofs.YtbdhlpeckennjaaGreatDoor
open Go
def dj:List Tok:=[idT [119,104,101,110],opT [123]]
def aw:List Tok:=[opT [125],opT [59],eofT]
theorem eX(a l:List UInt8):(opT a).is l=(a == l):=kF 5 a l
theorem is_id(a l:List UInt8):(idT a).is l=(a == l):=kF 1 a l
theorem nO:bd (hd aw):=by
 show bd (opT [125])
 simp only[bd,eX]
 decide
theorem gw{opOf:Tok->Option Nat}{A:List Tok->PR Ex}{ts r:List Tok}{x:Ex}(h:A ts = .ok x r)(ho:(opOf (hd r)).isSome=false):aS opOf A ts = .ok x r:=by
 unfold aS aj
 rw[h]
 simp only[PR.bind,ai,aE,ho,Bool.false_eq_true,if_false]
theorem rj{ts:List Tok}(h1:(hd ts).is [45]=false)(h2:(hd ts).is [33]=false):aj bR [] ts = .ok [] ts:=by
 unfold aj
 simp only[ai,bR,h1,h2,Bool.false_eq_true,if_false,PR.bind]
end Go.Proofs.YtbdhlpeckennjaaGreatDoor
namespace Go.Proofs.YtbdhlpeckennjaaGreatDoor
open Go
def eV (l:List UInt8):Option (List Pol):=(bL l).bind rh
def dp (l:List UInt8):Option Pol:=(bL l).bind fun ts=>match polP (expr ts.length) ts with | .ok p _=>some p|_=>none
end Go.Proofs.YtbdhlpeckennjaaGreatDoor
namespace Go.Proofs.YtbdhlpeckennjaaGreatDoor
open Go Go.RowKit
def gF (w:World)(tb k:Nat)(t:Tok)(o:Nat):Prop :=
 ∃ l c:Int,w.cell? ⟨tb,k * 6,none⟩=some (.int .i64 t.kind)/\w.cell? ⟨tb,k * 6+1,none⟩=some (.string ⟨#[]⟩)/\w.cell? ⟨tb,k * 6+2,none⟩=some (.int .i64 o) /\
  w.cell? ⟨tb,k * 6+3,none⟩=some (.int .i64 l)/\w.cell? ⟨tb,k * 6+4,none⟩=some (.int .i64 c)/\w.cell? ⟨tb,k * 6+5,none⟩=some (.string t.text)
theorem gF.at_{w:World}{tb k:Nat}{t:Tok}{o:Nat}(h:gF w tb k t o):TokAt w tb k t:=by
 obtain⟨l,c,h1,h2,h3,h4,h5,h6⟩:=h
 exact⟨o,l,c,h1,h2,h3,h4,h5,h6⟩
def cK (w:World)(g:Nat)(l:List UInt8):Prop:=g < w.heap.size/\∀ j b,l[j]? = some b->w.cell? ⟨g,j,none⟩=some (.int .u8 b.toNat)
def TZ (w:World)(r:Option (List (Tok × Nat)))(e:Ending)(w':World):Prop :=
 match r with
 | some L=>∃ tb cap:Nat,e = .returned (.tuple #[.slice (some ⟨tb,0,none⟩) L.length cap,.nilIface])/\w.heap.size<=tb/\tb < w'.heap.size/\(∀ j x,L[j]? = some x->gF w' tb j x.1 x.2)/\(L ≠ []/\L.length<=100000/\∀ x ∈ L,x.1.text.size<=150000)/\New w w'
 | none=>∃ (t:TypeId) (u:Value),e = .returned (.tuple #[.slice none 0 0,.iface t u])/\New w w'
def EofV (w:World):Prop:=∃ a:Addr,w.cell? ⟨2,0,none⟩=some (.iface 314 (.pointer (some a)))
theorem EofV.next{w w':World}(h:EofV w){S:Nat->Prop}(hf:Fr S w w')(hS:∀ k,k < 15->¬ S k):EofV w':=by
 obtain⟨a,h⟩:=h
 exact⟨a,(hf.cell (p:=⟨_,0,none⟩) (World.block_lt_of_cell? w _ h) (hS _ (by decide))).trans h⟩
def NoB (w:List UInt8):Prop:=¬ ∃ a b,w=a++47::42::b
end Go.Proofs.YtbdhlpeckennjaaGreatDoor
