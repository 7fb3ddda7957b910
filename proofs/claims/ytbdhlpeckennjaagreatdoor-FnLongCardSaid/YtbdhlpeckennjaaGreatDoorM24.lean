/- FnLong (the proof that the law returns true for every input), part 24 of 52; the last part says what is proved, and its condition. -/
import Derived.Test.YtbdhlpeckennjaaGreatDoorM01
set_option linter.unusedVariables false
set_option linter.unusedSimpArgs false
set_option maxHeartbeats 80000000
set_option maxRecDepth 1000000
namespace Go.Proofs.YtbdhlpeckennjaaGreatDoor
open Go
def eofT:Tok:=⟨0,an⟩
def wt (t:Tok):Int :=
 if t.is [40] || t.is [123] || t.is [91]then 1 else if t.is [41] || t.is [125] || t.is [93]then -1 else 0
def WfT (t:Tok):Prop:=t.kind ≠ 5->wt t=0
def Fin (ts:List Tok):Prop:=ts.getLast? = some eofT/\∀ t ∈ ts,WfT t
def net (ts:List Tok):Int:=(ts.map wt).sum
theorem fQ(a b:List Tok):net (a++b)=net a+net b:=by simp[net,List.sum_append]
theorem mO(t:Tok)(b:List Tok):net (t::b)=wt t+net b:=by simp[net]
theorem Fin.ne{ts:List Tok}(h:Fin ts):ts ≠ []:=by rintro rfl;simp[Fin]at h
theorem Fin.step{ts:List Tok}(h:Fin ts)(hne:hd ts ≠ eofT):∃ t r,ts=t::r/\hd ts=t/\adv ts=r/\Fin r/\WfT t:=by
 obtain⟨h1,h2⟩:=h
 match ts,h1,h2 with
 | [t],h1,_=>simp at h1;exact absurd (by simpa[hd] using h1) hne
 | t::b::r,h1,h2 =>
  exact⟨t,b::r,rfl,rfl,rfl,⟨by simpa[List.getLast?_cons_cons] using h1,fun x hx=>h2 x (List.mem_cons_of_mem _ hx)⟩,h2 t (List.mem_cons_self ..)⟩
theorem Fin.append{pre r r':List Tok}(h:Fin (pre++r))(h':Fin r'):Fin (pre++r'):=by
 refine⟨?_,fun t ht=>?_⟩
 .rw[List.getLast?_append,h'.1];rfl
 .rcases List.mem_append.1 ht with ht|ht
  .exact h.2 t (List.mem_append_left _ ht)
  .exact h'.2 t ht
theorem bM{pre r:List Tok}(h:pre ≠ [])(r':List Tok):hd (pre++r)=hd (pre++r'):=by
 cases pre with
 | nil=>exact absurd rfl h
 | cons t p=>rfl
theorem gE(t:Tok){l:List Tok}(h:l ≠ []):adv (t::l)=l:=by
 cases l with
 | nil=>exact absurd rfl h
 | cons x y=>rfl
theorem dr{t:Tok}{l:List UInt8}(h:t.is l=true)(hl:l ≠ []):t ≠ eofT:=by
 rintro rfl
 simp[Tok.is,eofT,an]at h
 exact hl (by simpa using h.symm)
theorem pA{t:Tok}(h:t.kind ≠ 0):t ≠ eofT:=by rintro rfl;exact h rfl
def Loc {α:Type}(n:Nat)(c:α->Bool)(S:Tok->Prop)(N:Int)(P:List Tok->PR α):Prop :=
 ∀ ts,Fin ts->(ts.length<=n->P ts ≠ .out)/\∀ a r,P ts = .ok a r->∃ pre,(c a=true->pre ≠ [])/\ts=pre++r/\Fin r/\net pre=N/\∀ r',Fin r'->(S (hd r')\/hd r'=hd r)->P (pre++r') = .ok a r'
section
variable {α β:Type} {S S1 S2:Tok->Prop} {n:Nat}
theorem Loc.weak{n1:Nat}{c c1:α->Bool}{N N1:Int}{P:List Tok->PR α}(h:Loc n1 c1 S1 N1 P)(hn:n<=n1)(hc:∀ a,c a=true->c1 a=true)(hS:∀ t,S t->S1 t)(hN:N1=N):Loc n c S N P:=by
 intro ts hF
 refine⟨fun hl=>(h ts hF).1 (by omega),fun a r hp=>?_⟩
 obtain⟨pre,h1,h2,h3,h4,h5⟩:=(h ts hF).2 a r hp
 exact⟨pre,fun e=>h1 (hc _ e),h2,h3,h4.trans hN,fun r' hr' ho=>h5 r' hr' (ho.imp (hS _) id)⟩
theorem Loc.lvl{n1:Nat}{c:α->Bool}{N:Int}{P:List Tok->PR α}(h:Loc n1 c S N P)(hn:n<=n1):Loc n c S N P:=h.weak hn (fun _ h=>h) (fun _ h=>h) rfl
theorem Loc.ok{c:α->Bool}{N:Int}(a:α)(hc:c a=false)(hN:N=0):Loc n c S N (fun ts=>.ok a ts):=by
 intro ts hF
 refine⟨fun _ h=>by(cases h),fun b r hp=>?_⟩
 injection hp with h1 h2
 subst h1;subst h2
 exact⟨[],by simp[hc],rfl,hF,hN.symm,fun r' _ _=>rfl⟩
theorem Loc.bad{c:α->Bool}{N:Int}:Loc n c S N (fun _=>(.bad:PR α)):=by
 intro ts hF
 exact⟨fun _ h=>by(cases h),fun b r hp=>by cases hp⟩
theorem dt{r:PR α}{f:α->List Tok->PR β}{b:β}{ts:List Tok}(h:r.bind f = .ok b ts):∃ a ts1,r = .ok a ts1/\f a ts1 = .ok b ts:=by
 cases r with
 | ok a ts1=>exact⟨a,ts1,rfl,h⟩
 | bad=>cases h
 | out=>cases h
theorem gC{r:PR α}{f:α->List Tok->PR β}(h:r.bind f = .out):r = .out\/∃ a ts1,r = .ok a ts1/\f a ts1 = .out:=by
 cases r with
 | ok a ts1=>exact .inr ⟨a,ts1,rfl,h⟩
 | bad=>cases h
 | out=>exact .inl rfl
theorem Loc.bind{c1:α->Bool}{N1:Int}{c2 c:β->Bool}{N2 N:Int}{P:List Tok->PR α}{f:α->List Tok->PR β}(h1:Loc n c1 S1 N1 P)(h2:∀ a,Loc n c2 S N2 (f a))
  (hS:(∀ b,c2 b=true)\/∀ t,S t->S1 t) (hc:∀ a b,c b=true->c1 a=true\/c2 b=true) (hN:N1+N2=N) :
  Loc n c S N (fun ts=>(P ts).bind f):=by
 intro ts hF
 refine⟨fun hl ho=>?_,fun b r hp=>?_⟩
 .rcases gC ho with h|⟨a,ts1,ha,hb⟩
  .exact(h1 ts hF).1 hl h
  .obtain⟨p1,k1,k2,k3,k4,k5⟩:=(h1 ts hF).2 a ts1 ha
   exact(h2 a ts1 k3).1 (by have:=congrArg List.length k2;simp at this;omega) hb
 obtain⟨a,ts1,ha,hb⟩:=dt hp
 obtain⟨p1,k1,k2,k3,k4,k5⟩:=(h1 ts hF).2 a ts1 ha
 obtain⟨p2,m1,m2,m3,m4,m5⟩:=(h2 a ts1 k3).2 b r hb
 subst m2
 refine⟨p1++p2,fun e=>?_,by rw[k2,List.append_assoc],m3,by rw[fQ,k4,m4,hN],fun r' hr' ho=>?_⟩
 .rcases hc a b e with e|e
  .simp[k1 e]
  .simp[m1 e]
 .have hb':=m5 r' hr' ho
  have hF2:Fin (p2++r'):=k3.append hr'
  have ha':=k5 (p2++r') hF2 (by
   by_cases e:p2 = []
   .subst e
    rcases hS with e2|hS
    .exact absurd rfl (m1 (e2 b))
    .exact ho.imp (hS _) id
   .exact .inr (bM e _))
  show(P (p1++p2++r')).bind f=_
  rw[List.append_assoc,ha']
  exact hb'
theorem Loc.tok{c:α->Bool}{N N1:Int}{p:Tok->Bool}{Q:Tok->List Tok->PR α}{R:List Tok->PR α}(hp:∀ t,p t=true->t ≠ eofT)(hS:(∀ a,c a=true)\/∀ t,S t->p t=false)
  (h1:∀ t,p t=true->Loc (n - 1) (fun _=>false) S N1 (Q t)) (hN:∀ t,p t=true->WfT t->wt t+N1=N) (h2:Loc n c S N R):Loc n c S N (fun ts=>if p (hd ts)=true then Q (hd ts) (adv ts)else R ts):=by
 intro ts hF
 by_cases ht:p (hd ts)=true
 .obtain⟨t,r1,rfl,e1,e2,hF1,hw⟩:=hF.step (hp _ ht)
  simp only[ht,if_true]
  rw[e1]at ht ⊢
  rw[e2]
  refine⟨fun hl=>(h1 t ht r1 hF1).1 (by simp at hl;omega),fun a r h=>?_⟩
  obtain⟨pre,k1,k2,k3,k4,k5⟩:=(h1 t ht r1 hF1).2 a r h
  refine⟨t::pre,by simp,by rw[k2];rfl,k3,by rw[mO,k4];exact hN t ht hw,fun r' hr' ho=>?_⟩
  have h':=k5 r' hr' ho
  have hF':Fin (pre++r'):=by rw[k2]at hF1;exact hF1.append hr'
  have ea:adv (t::pre++r')=pre++r':=gE t hF'.ne
  show(if p (hd (t::pre++r'))=true then Q (hd (t::pre++r')) (adv (t::pre++r'))else R (t::pre++r'))=_
  rw[ea]
  show(if p t=true then Q t (pre++r')else R (t::pre++r'))=_
  rw[if_pos ht,h']
 .simp only[ht]
  refine⟨fun hl=>(h2 ts hF).1 hl,fun a r h=>?_⟩
  obtain⟨pre,k1,k2,k3,k4,k5⟩:=(h2 ts hF).2 a r h
  refine⟨pre,k1,k2,k3,k4,fun r' hr' ho=>?_⟩
  have hn:¬ p (hd (pre++r'))=true:=by
   by_cases e:pre = []
   .subst e
    rcases hS with hS|hS
    .exact absurd rfl (k1 (hS a))
    .rcases ho with ho|ho
     .simp[hS _ ho]
     .simpa[ho,k2] using ht
   .rw[bM e r',<- bM (r:=r) e r',<- k2];exact ht
  show(if p (hd (pre++r'))=true then _ else _)=_
  rw[if_neg hn]
  exact k5 r' hr' ho
theorem Loc.peek{c:α->Bool}{N:Int}{p:Tok->Bool}{Q R:List Tok->PR α}(hS:(∀ a,c a=true)\/∀ t,S t->p t=false)
  {c1:α->Bool} (h1:Loc n c1 S N Q) (hc1:(∀ a,c1 a=true)\/((∀ t,¬ S t)/\c1=c)) (h2:Loc n c S N R):Loc n c S N (fun ts=>if p (hd ts)=true then Q ts else R ts):=by
 intro ts hF
 by_cases ht:p (hd ts)=true
 .simp only[ht,if_true]
  refine⟨fun hl=>(h1 ts hF).1 hl,fun a r h=>?_⟩
  obtain⟨pre,k1,k2,k3,k4,k5⟩:=(h1 ts hF).2 a r h
  refine⟨pre,fun e=>?_,k2,k3,k4,fun r' hr' ho=>?_⟩
  .rcases hc1 with hc1|⟨_,hc1⟩
   .exact k1 (hc1 a)
   .exact k1 (hc1 ▸ e)
  have hn:p (hd (pre++r'))=true:=by
   by_cases e:pre = []
   .subst e
    rcases hc1 with hc1|⟨hn,_⟩
    .exact absurd rfl (k1 (hc1 a))
    .rcases ho with ho|ho
     .exact absurd ho (hn _)
     .rw[List.nil_append,ho];simpa[k2] using ht
   .rw[bM e r',<- bM (r:=r) e r',<- k2];exact ht
  show(if p (hd (pre++r'))=true then _ else _)=_
  rw[if_pos hn]
  exact k5 r' hr' ho
 .simp only[ht]
  refine⟨fun hl=>(h2 ts hF).1 hl,fun a r h=>?_⟩
  obtain⟨pre,k1,k2,k3,k4,k5⟩:=(h2 ts hF).2 a r h
  refine⟨pre,k1,k2,k3,k4,fun r' hr' ho=>?_⟩
  have hn:¬ p (hd (pre++r'))=true:=by
   by_cases e:pre = []
   .subst e
    rcases hS with hS|hS
    .exact absurd rfl (k1 (hS a))
    .rcases ho with ho|ho
     .simp[hS _ ho]
     .simpa[ho,k2] using ht
   .rw[bM e r',<- bM (r:=r) e r',<- k2];exact ht
  show(if p (hd (pre++r'))=true then _ else _)=_
  rw[if_neg hn]
  exact k5 r' hr' ho
def LocS {σ:Type}(n:Nat)(S:Tok->Prop)(step:σ->List Tok->PR (σ ⊕ α)):Prop:=∀ s,Loc n Sum.isLeft S 0 (step s)
theorem Loc.loopN{σ:Type}{step:σ->List Tok->PR (σ ⊕ α)}(h:LocS n S step):∀ k s ts a r,Fin ts->ai step k s ts = .ok a r ->
  ∃ pre,ts=pre++r/\Fin r/\net pre=0/\∀ k' r',pre.length < k'->Fin r'->(S (hd r')\/hd r'=hd r)->ai step k' s (pre++r') = .ok a r':=by
 intro k
 induction k with
 | zero=>intro s ts a r _ hp;cases hp
 | succ k ih =>
  intro s ts a r hF hp
  obtain⟨o,ts1,ho,hr⟩:=dt hp
  obtain⟨p1,k1,k2,k3,k4,k5⟩:=(h s ts hF).2 o ts1 ho
  cases o with
  | inr b =>
   injection hr with e1 e2
   subst e1;subst e2
   refine⟨p1,k2,k3,k4,fun k' r' hk hr' hor=>?_⟩
   obtain⟨k',rfl⟩:∃ m,k'=m+1:=⟨k' - 1,by omega⟩
   show(step s (p1++r')).bind _=_
   rw[k5 r' hr' hor]
   rfl
  | inl s' =>
   obtain⟨p2,m2,m3,m4,m5⟩:=ih s' ts1 a r k3 hr
   subst m2
   have hne:=k1 rfl
   refine⟨p1++p2,by rw[k2,List.append_assoc],m3,by rw[fQ,k4,m4];rfl,fun k' r' hk hr' hor=>?_⟩
   obtain⟨k',rfl⟩:∃ m,k'=m+1:=⟨k' - 1,by omega⟩
   have h1:0 < p1.length:=List.length_pos_iff.2 hne
   have hF2:Fin (p2++r'):=k3.append hr'
   have hs:=k5 (p2++r') hF2 (by
    by_cases e:p2 = []
    .subst e;exact hor
    .exact .inr (bM e _))
   show(step s (p1++p2++r')).bind _=_
   rw[List.append_assoc,hs]
   exact m5 k' r' (by simp at hk;omega) hr' hor
theorem Loc.loopO{σ:Type}{step:σ->List Tok->PR (σ ⊕ α)}(h:LocS n S step):∀ k s ts,Fin ts->ts.length<=n->ts.length < k->ai step k s ts ≠ .out:=by
 intro k
 induction k with
 | zero=>intro s ts _ _ hk;omega
 | succ k ih =>
  intro s ts hF hn hk ho
  rcases gC ho with h0|⟨o,ts1,h0,h1⟩
  .exact(h s ts hF).1 hn h0
  .obtain⟨p1,k1,k2,k3,k4,k5⟩:=(h s ts hF).2 o ts1 h0
   cases o with
   | inr b=>cases h1
   | inl s' =>
    have:=List.length_pos_iff.2 (k1 rfl)
    have e:=congrArg List.length k2
    simp at e
    exact ih s' ts1 k3 (by omega) (by omega) h1
theorem Loc.loop{σ:Type}{c:α->Bool}{step:σ->List Tok->PR (σ ⊕ α)}(h:LocS n S step)(s:σ)(hc:∀ a,c a=false):Loc n c S 0 (aj step s):=by
 intro ts hF
 refine⟨fun hl=>Loc.loopO h _ s ts hF hl (by omega),fun a r hp=>?_⟩
 obtain⟨pre,k2,k3,k4,k5⟩:=Loc.loopN h _ s ts a r hF hp
 exact⟨pre,by simp[hc],k2,k3,k4,fun r' hr' hor=>k5 _ r' (by simp;omega) hr' hor⟩
theorem Loc.then_adv{c c2:α->Bool}{c1:β->Bool}{N1 N2 N w:Int}{p:Tok->Bool}{P:List Tok->PR β}{f:β->List Tok->PR α}(h1:Loc n c1 S1 N1 P)(he:∀ ts a r,P ts = .ok a r->p (hd r)=true)
  (hp:∀ t,p t=true->t ≠ eofT) (hw:∀ t,p t=true->wt t=w) (h2:∀ a,Loc n c2 S N2 (f a)) (hN:N1+w+N2=N):Loc n c S N (fun ts=>(P ts).bind fun a r=>f a (adv r)):=by
 intro ts hF
 refine⟨fun hl ho=>?_,fun b r hpp=>?_⟩
 .rcases gC ho with h|⟨a,ts1,ha,hb⟩
  .exact(h1 ts hF).1 hl h
  .obtain⟨p1,k1,k2,k3,k4,k5⟩:=(h1 ts hF).2 a ts1 ha
   obtain⟨t,r1,rfl,e1,e2,hF1,hwf⟩:=k3.step (hp _ (he _ _ _ ha))
   rw[e2]at hb
   exact(h2 a r1 hF1).1 (by have:=congrArg List.length k2;simp at this;omega) hb
 obtain⟨a,ts1,ha,hb⟩:=dt hpp
 obtain⟨p1,k1,k2,k3,k4,k5⟩:=(h1 ts hF).2 a ts1 ha
 have hh:=he _ _ _ ha
 obtain⟨t,r1,rfl,e1,e2,hF1,hwf⟩:=k3.step (hp _ hh)
 rw[e2]at hb
 rw[e1]at hh
 obtain⟨p2,m1,m2,m3,m4,m5⟩:=(h2 a r1 hF1).2 b r hb
 subst m2
 refine⟨p1++t::p2,by simp,by rw[k2];simp,m3,by rw[fQ,mO,k4,m4,hw t hh];omega,fun r' hr' ho=>?_⟩
 have hF2:Fin (p2++r'):=hF1.append hr'
 have hF3:Fin (t::(p2++r')):=by have:=k3.append (pre:=t::p2) hr';simpa using this
 have ha':=k5 (t::(p2++r')) hF3 (.inr rfl)
 show(P (p1++t::p2++r')).bind (fun a r=>f a (adv r))=_
 rw[show p1++t::p2++r'=p1++t::(p2++r')from by simp,ha']
 show f a (adv (t::(p2++r')))=_
 rw[gE t hF2.ne]
 exact m5 r' hr' ho
end
def bd (t:Tok):Prop :=
 t.is [124,124]=false/\t.is [38,38]=false/\t.is [104,97,115]=false/\t.is [108,105,107,101]=false/\t.is [105,115]=false /\
 t.is [60]=false/\t.is [60,61]=false/\t.is [62]=false/\t.is [62,61]=false/\t.is [33,61]=false/\t.is [61,61]=false/\t.is [105,110]=false /\
 t.is [43]=false/\t.is [45]=false/\t.is [42]=false/\t.is [46]=false/\t.is [91]=false/\t.is [58,58]=false/\t.is [40]=false
theorem wt_kind{t:Tok}(h:WfT t){k:Nat}(hk:t.kind=k)(h5:k ≠ 5):wt t=0:=h (by omega)
theorem dq{t:Tok}{l:List UInt8}(h:t.is l=true):wt t=if l == [40] || l == [123] || l == [91]then 1 else if l == [41] || l == [125] || l == [93]then -1 else 0:=by
 have e:t.text.toList=l:=by simpa[Tok.is] using h
 unfold wt Tok.is
 rw[e]
section
variable {α β:Type} {S S1:Tok->Prop} {n:Nat} {c:α->Bool} {N N1:Int}
theorem Loc.kind{k:Nat}(h0:k ≠ 0)(h5:k ≠ 5){Q:Tok->List Tok->PR α}{R:List Tok->PR α}(hS:∀ a,c a=true)
  (h1:∀ t,t.kind=k->Loc (n - 1) (fun _=>false) S N (Q t)) (h2:Loc n c S N R):Loc n c S N (fun ts=>if(hd ts).kind=k then Q (hd ts) (adv ts)else R ts):=by
 have h:=Loc.tok (S:=S) (c:=c) (N:=N) (p:=fun t=>decide (t.kind=k)) (Q:=Q) (R:=R) (fun t ht=>pA (by simp at ht;omega)) (.inl hS)
  (fun t ht=>h1 t (by simpa using ht)) (fun t ht hw=>by rw[wt_kind hw (by simpa using ht) h5];omega) h2
 simpa using h
theorem Loc.is_{l:List UInt8}{Q:Tok->List Tok->PR α}{R:List Tok->PR α}(hl:l ≠ [])(w:Int)
  (hw:(if l == [40] || l == [123] || l == [91]then(1:Int)else if l == [41] || l == [125] || l == [93]then -1 else 0)=w)
  (hN:w+N1=N) (hS:(∀ a,c a=true)\/∀ t,S t->t.is l=false)
  (h1:∀ t,t.is l=true->Loc (n - 1) (fun _=>false) S N1 (Q t)) (h2:Loc n c S N R):Loc n c S N (fun ts=>if(hd ts).is l=true then Q (hd ts) (adv ts)else R ts) :=
 Loc.tok (p:=fun t=>t.is l) (fun t ht=>dr ht hl) hS h1 (fun t ht _=>by rw[dq ht,hw];exact hN) h2
theorem Loc.exact_{l:List UInt8}(hl:l ≠ [])(w:Int)
  (hw:(if l == [40] || l == [123] || l == [91]then(1:Int)else if l == [41] || l == [125] || l == [93]then -1 else 0)=w):Loc n (fun _=>true) S w (ak l) :=
 Loc.is_ (N1:=0) (Q:=fun _ ts=>.ok () ts) hl w hw (by omega) (.inl fun _=>rfl) (fun t _=>Loc.ok () rfl rfl) Loc.bad
theorem Loc.opt(o:Option β){f:β->List Tok->PR α}(h:∀ b,Loc n c S N (f b)) :
  Loc n c S N (fun ts=>bw o fun s=>f s ts):=by
 cases o with
 | none=>exact Loc.bad
 | some b=>exact h b
theorem ed{k:Nat}(h0:k ≠ 0)(h5:k ≠ 5){Q:Tok->List Tok->PR α}(h1:∀ t,Loc n (fun _=>false) S N (Q t)) :
  Loc n (fun _=>true) S N (fun ts=>if(hd ts).kind=k then Q (hd ts) (adv ts)else .bad) :=
 Loc.kind h0 h5 (fun _=>rfl) (fun t _=>(h1 t).lvl (by omega)) Loc.bad
theorem Loc.any{P:List Tok->PR α}(h:Loc n c S N P):Loc n (fun _=>false) S N P:=h.weak (Nat.le_refl _) (fun _ e=>by cases e) (fun _ h=>h) rfl
theorem Loc.all{P:List Tok->PR α}(h:Loc n (fun _=>true) S N P):Loc n c S N P:=h.weak (Nat.le_refl _) (fun _ _=>rfl) (fun _ h=>h) rfl
theorem Loc.sub{P:List Tok->PR α}(h:Loc n c S1 N P)(hS:∀ t,S t->S1 t):Loc n c S N P:=h.weak (Nat.le_refl _) (fun _ e=>e) hS rfl
theorem Loc.then_ok{c1:β->Bool}{P:List Tok->PR β}(h:Loc n c1 S N P)(g:β->α)(hc:∀ b,c (g b)=true->c1 b=true):Loc n c S N (fun ts=>(P ts).bind fun b ts1=>.ok (g b) ts1):=by
 intro ts hF
 refine⟨fun hl ho=>?_,fun a r hp=>?_⟩
 .rcases gC ho with h0|⟨b,ts1,h0,h1⟩
  .exact(h ts hF).1 hl h0
  .cases h1
 obtain⟨b,ts1,hb,he⟩:=dt hp
 injection he with e1 e2
 subst e1;subst e2
 obtain⟨pre,k1,k2,k3,k4,k5⟩:=(h ts hF).2 b ts1 hb
 refine⟨pre,fun e=>k1 (hc b e),k2,k3,k4,fun r' hr' ho=>?_⟩
 show(P (pre++r')).bind _=_
 rw[k5 r' hr' ho]
 rfl
theorem Loc.then_{P:List Tok->PR β}{f:β->List Tok->PR α}{w:Int}(h1:Loc n (fun _=>true) S1 w P)(h2:∀ b,Loc n (fun _=>false) S N1 (f b))(hS:∀ t,S t->S1 t)(hN:w+N1=N):Loc n c S N (fun ts=>(P ts).bind f) :=
 (Loc.bind (c:=fun _=>true) h1 h2 (.inr hS) (fun _ _ _=>.inl rfl) hN).all
theorem Loc.then2{c1:β->Bool}{P:List Tok->PR β}{f:β->List Tok->PR α}{w:Int}(h1:Loc n c1 S1 w P)(h2:∀ b,Loc n (fun _=>true) S N1 (f b))(hN:w+N1=N):Loc n c S N (fun ts=>(P ts).bind f) :=
 (Loc.bind (c:=fun _=>true) h1 h2 (.inl fun _=>rfl) (fun _ _ _=>.inr rfl) hN).all
theorem Loc.exact_then{l:List UInt8}{f:List Tok->PR α}(hl:l ≠ [])(w:Int)
  (hw:(if l == [40] || l == [123] || l == [91]then(1:Int)else if l == [41] || l == [125] || l == [93]then -1 else 0)=w) (hf:Loc n (fun _=>false) S N1 f) (hN:w+N1=N) :
  Loc n c S N (fun ts=>(ak l ts).bind fun _ ts1=>f ts1) :=
 Loc.then_ (S1:=fun _=>True) (Loc.exact_ hl w hw) (fun _=>hf) (fun _ _=>trivial) hN
theorem ek{Q:ByteArray->List Tok->PR α}{R:List Tok->PR α}(h1:∀ s,Loc (n - 1) (fun _=>false) S N (Q s))(h2:Loc n (fun _=>true) S N R) :
  Loc n (fun _=>true) S N (fun ts=>if(hd ts).kind=4 then bw (aX (hd ts).text) fun s=>Q s (adv ts)else R ts) :=
 Loc.kind (Q:=fun t ts=>bw (aX t.text) fun s=>Q s ts) (by decide) (by decide) (fun _=>rfl)
  (fun t _=>Loc.opt (aX t.text) h1) h2
end
theorem gu{σ α:Type}{step:σ->List Tok->PR (σ ⊕ α)}:∀ {k:Nat} {s:σ} {ts:List Tok} {a:α} {r:List Tok},ai step k s ts = .ok a r->∃ s' ts',step s' ts' = .ok (.inr a) r
 | 0,s,ts,a,r,h=>by cases h
 | k+1,s,ts,a,r,h=>by
  obtain⟨o,ts1,ho,hr⟩:=dt h
  cases o with
  | inr b=>injection hr with e1 e2;subst e1;subst e2;exact⟨s,ts,ho⟩
  | inl s'=>exact gu hr
abbrev Yes(_:Tok):Prop:=True
abbrev No(_:Tok):Prop:=False
section
variable {n:Nat}
theorem lm:LocS n bd bt:=by
 intro res
 refine Loc.is_ (S:=bd) (c:=Sum.isLeft) (N1:=0) (l:=[58,58]) (Q:=fun _ ts=>if(hd ts).kind=1 then .ok (Sum.inl (res++⟨#[58,58]⟩++(hd ts).text)) (adv ts)else .bad)
  (by simp) 0 rfl rfl (.inr fun t h=>by simp only[bd]at h;simp[h]) (fun t _=>?_) (Loc.ok (Sum.inr res) rfl rfl)
 exact(ed (k:=1) (Q:=fun t ts=>.ok (Sum.inl (res++⟨#[58,58]⟩++t.text)) ts) (by decide) (by decide) (fun t=>Loc.ok (Sum.inl _) rfl rfl)).any
theorem kw:Loc n (fun _=>true) bd 0 dA :=
 ed (Q:=fun t ts=>aj bt t.text ts) (by decide) (by decide) fun t=>Loc.loop lm t.text fun _=>rfl
theorem nr:LocS n Yes bB:=by
 intro res
 refine Loc.all ?_
 refine Loc.is_ (N1:=0) (l:=[58,58])
  (Q:=fun _ ts=>if(hd ts).kind=1 then .ok (Sum.inl (res++⟨#[58,58]⟩++(hd ts).text)) (adv ts)else if(hd ts).kind=4 then bw (aX (hd ts).text) fun s=>.ok (Sum.inr (res,s)) (adv ts)else .bad)
  (by simp) 0 rfl rfl (.inl fun _=>rfl) (fun t _=>?_) Loc.bad
 exact(Loc.kind (c:=fun _=>true) (k:=1) (Q:=fun t ts=>.ok (Sum.inl (res++⟨#[58,58]⟩++t.text)) ts) (by decide) (by decide) (fun _=>rfl) (fun t _=>Loc.ok (Sum.inl _) rfl rfl)
   (ek (Q:=fun s ts=>.ok (Sum.inr (res,s)) ts) (fun s=>Loc.ok (Sum.inr _) rfl rfl) Loc.bad)).any
theorem cP:Loc n (fun _=>true) Yes 0 aJ :=
 ed (Q:=fun t ts=>aj bB t.text ts) (by decide) (by decide) fun t=>Loc.loop nr t.text fun _=>rfl
variable {E:List Tok->PR Ex} (hE:Loc n (fun _=>true) bd 0 E)
include hE
theorem kg(m:List UInt8):LocS n No (bG E m):=by
 intro acc
 refine Loc.peek (p:=fun t=>t.is m) (c1:=Sum.isLeft) (.inr fun t h=>h.elim) (Loc.ok (Sum.inr acc) rfl rfl) (.inr ⟨fun _ h=>h,rfl⟩) ?_
 refine Loc.then_ (N1:=0) hE (fun e=>?_) (fun t h=>h.elim) rfl
 refine Loc.is_ (N1:=0) (l:=[44]) (Q:=fun _ ts=>.ok (Sum.inl (acc ++ [e])) ts) (by simp) 0 rfl rfl (.inr fun t h=>h.elim) (fun _ _=>Loc.ok _ rfl rfl) ?_
 exact Loc.peek (p:=fun t=>t.is m) (c1:=fun _=>false) (.inr fun t h=>h.elim) (Loc.ok _ rfl rfl) (.inr ⟨fun _ h=>h,rfl⟩) Loc.bad
theorem oX(m:List UInt8):Loc n (fun _=>false) No 0 (bk E m):=Loc.loop (kg hE m) [] fun _=>rfl
omit hE in
theorem oY{m:List UInt8}{ts:List Tok}{l:List Ex}{r:List Tok}(h:bk E m ts = .ok l r):(hd r).is m=true:=by
 obtain⟨s,t,hs⟩:=gu h
 unfold bG at hs
 split at hs
 .rename_i hm
  injection hs with e1 e2
  rw[<- e2];exact hm
 .obtain⟨e,ts1,he,hr⟩:=dt hs
  split at hr
  .cases hr
  .split at hr <;> cases hr
theorem gQ{α:Type}{c:α->Bool}{S:Tok->Prop}{N2 N w:Int}{m:List UInt8}(hm:m ≠ [])(hw:(if m == [40] || m == [123] || m == [91]then(1:Int)else if m == [41] || m == [125] || m == [93]then -1 else 0)=w)
  {f:List Ex->List Tok->PR α} (h2:∀ l,Loc n (fun _=>false) S N2 (f l)) (hN:w+N2=N):Loc n c S N (fun ts=>(bk E m ts).bind fun l ts1=>f l (adv ts1)) :=
 Loc.then_adv (p:=fun t=>t.is m) (oX hE m) (fun _ _ _ h=>oY h) (fun t h=>dr h hm) (fun t h=>by rw[dq h,hw]) h2 (by omega)
theorem fI(k:ByteArray):Loc n (fun _=>true) bd 0 (bA E k) :=
 Loc.exact_then (by simp) 0 rfl (Loc.then_ok hE (fun v=>(k,v)) (fun _ _=>rfl)) rfl
theorem pa:Loc n (fun _=>true) bd 0 (cf E):=by
 refine Loc.kind (k:=1) (Q:=fun t ts=>bA E t.text ts) (by decide) (by decide) (fun _=>rfl) (fun t _=>((fI hE t.text).lvl (by omega)).any) ?_
 exact ek (Q:=fun s ts=>bA E s ts) (fun s=>((fI hE s).lvl (by omega)).any) Loc.bad
def dz (E:List Tok->PR Ex)(acc:List (ByteArray × Ex))(ts:List Tok):PR (List (ByteArray × Ex) ⊕ List (ByteArray × Ex)) :=
 if(hd ts).is [125]then .ok (Sum.inr acc) ts
 else(cf E ts).bind fun e ts1 =>
  if acc.any (fun x=>x.1.toList == e.1.toList)then .bad
  else if(hd ts1).is [44]then .ok (Sum.inl (acc ++ [e])) (adv ts1)
  else if(hd ts1).is [125]then .ok (Sum.inl (acc ++ [e])) ts1
  else .bad
omit hE in
theorem pP(k:Nat)(acc:List (ByteArray × Ex))(ts:List Tok):ai (cj E) k acc ts=(ai (dz E) k acc ts).bind fun a r=>.ok a (adv r):=by
 induction k generalizing acc ts with
 | zero=>rfl
 | succ k ih =>
  simp only[ai,cj,dz]
  split
  .rfl
  .cases cf E ts with
   | bad=>rfl
   | out=>rfl
   | ok e ts1 =>
    rcases Bool.eq_false_or_eq_true (acc.any fun y=>y.1.toList == e.1.toList)with h0|h0 <;> rcases Bool.eq_false_or_eq_true ((hd ts1).is [44])with h1|h1 <;> rcases Bool.eq_false_or_eq_true ((hd ts1).is [125])with h2|h2 <;>
     (simp only[PR.bind,h0,h1,h2,Bool.false_eq_true,if_true,if_false];try exact ih _ _)
theorem lg:LocS n No (dz E):=by
 intro acc
 refine Loc.peek (p:=fun t=>t.is [125]) (c1:=Sum.isLeft) (.inr fun t h=>h.elim) (Loc.ok (Sum.inr acc) rfl rfl) (.inr ⟨fun _ h=>h,rfl⟩) ?_
 refine Loc.then_ (N1:=0) (pa hE) (fun e=>?_) (fun t h=>h.elim) rfl
 by_cases ha:acc.any (fun x=>x.1.toList == e.1.toList)=true
 .simp only[ha,if_true];exact Loc.bad
 simp only[ha,if_false,Bool.false_eq_true]
 refine Loc.is_ (N1:=0) (l:=[44]) (Q:=fun _ ts=>.ok (Sum.inl (acc ++ [e])) ts) (by simp) 0 rfl rfl (.inr fun t h=>h.elim) (fun _ _=>Loc.ok _ rfl rfl) ?_
 exact Loc.peek (p:=fun t=>t.is [125]) (c1:=fun _=>false) (.inr fun t h=>h.elim) (Loc.ok _ rfl rfl) (.inr ⟨fun _ h=>h,rfl⟩) Loc.bad
omit hE in
theorem rec_end{ts:List Tok}{l:List (ByteArray × Ex)}{r:List Tok}(h:aj (dz E) [] ts = .ok l r):(hd r).is [125]=true:=by
 obtain⟨s,t,hs⟩:=gu h
 unfold dz at hs
 split at hs
 .rename_i hm
  injection hs with e1 e2
  rw[<- e2];exact hm
 .obtain⟨e,ts1,he,hr⟩:=dt hs
  split at hr
  .cases hr
  .split at hr
   .cases hr
   .split at hr <;> cases hr
theorem mw{c:Ex->Bool}{S:Tok->Prop}:Loc n c S (-1) (bE E):=by
 have h:=Loc.then_adv (n:=n) (c:=c) (S:=S) (N:=-1) (N2:=0) (p:=fun t=>t.is [125]) (f:=fun l ts=>.ok (Ex.rec_ (l.map (·.1)) (l.map (·.2))) ts) (Loc.loop (lg hE) [] (c:=fun _=>false) fun _=>rfl) (fun _ _ _ h=>rec_end h) (fun t h=>dr h (by simp)) (fun t h=>by rw[dq h])
  (fun l=>Loc.ok (c:=fun _=>false) _ rfl rfl) rfl
 have e:bE E=fun ts=>(aj (dz E) [] ts).bind fun l r=>.ok (Ex.rec_ (l.map (·.1)) (l.map (·.2))) (adv r):=by
  funext ts
  unfold bE aj
  rw[pP]
  cases ai (dz E) (ts.length+1) [] ts <;> rfl
 rw[e];exact h
end
end Go.Proofs.YtbdhlpeckennjaaGreatDoor
namespace Go.Proofs.YtbdhlpeckennjaaGreatDoor
open Go
theorem bO{t:Tok}(h:bd t):t.is [124,124]=false/\t.is [38,38]=false/\t.is [104,97,115]=false/\t.is [108,105,107,101]=false/\t.is [105,115]=false/\(dy t).isSome=false/\t.is [105,110]=false/\(cG t).isSome=false/\(cN t).isSome=false /\
  t.is [46]=false/\t.is [91]=false/\t.is [58,58]=false/\t.is [40]=false/\(orOp t).isSome=false/\(cQ t).isSome=false:=by
 obtain⟨h1,h2,h3,h4,h5,h6,h7,h8,h9,h10,h11,h12,h13,h14,h15,h16,h17,h18,h19⟩:=h
 simp[dy,cG,cN,orOp,cQ, *]
section
variable {n:Nat} {E:List Tok->PR Ex} (hE:Loc n (fun _=>true) bd 0 E)
theorem kC{c:Ex->Bool}{S:Tok->Prop}(hc:∀ x,c x=false)(neg:Bool)(t:ByteArray):Loc n c S 0 (ec neg t):=by
 unfold ec
 cases Lib.parseIntB 64 (if neg then 45::t.data.toList else t.data.toList)with
 | ok z=>exact Loc.ok _ (hc _) rfl
 | _=>exact Loc.bad
theorem lX{c:Ex->Bool}{S:Tok->Prop}(hc:∀ x,c x=false)(t:Tok):Loc n c S 0 (varP t):=by
 have h:varP t=fun ts=>if t.is [112,114,105,110,99,105,112,97,108]then .ok (Ex.var ⟨#[112,114,105,110,99,105,112,97,108]⟩) ts else if t.is [97,99,116,105,111,110]then .ok (Ex.var ⟨#[97,99,116,105,111,110]⟩) ts else if t.is [114,101,115,111,117,114,99,101]then .ok (Ex.var ⟨#[114,101,115,111,117,114,99,101]⟩) ts else if t.is [99,111,110,116,101,120,116]then .ok (Ex.var ⟨#[99,111,110,116,101,120,116]⟩) ts else .bad:=rfl
 rw[h]
 cases t.is [112,114,105,110,99,105,112,97,108] <;> cases t.is [97,99,116,105,111,110] <;> cases t.is [114,101,115,111,117,114,99,101] <;> cases t.is [99,111,110,116,101,120,116] <;> simp only[Bool.false_eq_true,if_true,if_false] <;> first|exact Loc.ok _ (hc _) rfl|exact Loc.bad
include hE in
theorem ia(pre:ByteArray):Loc n (fun _=>true) Yes 0 (aR E pre):=by
 refine Loc.is_ (N1:=0) (l:=[58,58]) (Q:=fun _ ts=>if(hd ts).kind=1 then .ok (Sum.inl (pre++⟨#[58,58]⟩++(hd ts).text)) (adv ts)
  else if(hd ts).kind=4 then bw (aX (hd ts).text) fun s=>.ok (Sum.inr (Ex.lit (.ent pre s))) (adv ts)else .bad) (by simp) 0 rfl rfl (.inl fun _=>rfl) (fun t _=>?_) ?_
 .exact(Loc.kind (c:=fun _=>true) (k:=1) (Q:=fun t ts=>.ok (Sum.inl (pre++⟨#[58,58]⟩++t.text)) ts) (by decide) (by decide) (fun _=>rfl) (fun t _=>Loc.ok (Sum.inl _) rfl rfl)
   (ek (Q:=fun s ts=>.ok (Sum.inr (Ex.lit (.ent pre s))) ts) (fun s=>Loc.ok (Sum.inr _) rfl rfl) Loc.bad)).any
 .by_cases hx:eK pre.toList=some false
  .refine Loc.is_ (N1:=-1) (l:=[40]) (Q:=fun _ ts=>if eK pre.toList=some false then(bk E [41] ts).bind fun l ts1=>.ok (Sum.inr (Ex.named 25 pre l)) (adv ts1)else .bad) (by simp) 1 rfl rfl (.inl fun _=>rfl) (fun t _=>?_) Loc.bad
   simp only[hx,if_true]
   exact gQ (f:=fun l ts=>.ok (Sum.inr (Ex.named 25 pre l)) ts) (Loc.lvl hE (by omega)) (by simp) rfl (fun l=>Loc.ok _ rfl rfl) rfl
  .refine Loc.is_ (N1:=-1) (l:=[40]) (Q:=fun _ ts=>if eK pre.toList=some false then(bk E [41] ts).bind fun l ts1=>.ok (Sum.inr (Ex.named 25 pre l)) (adv ts1)else .bad) (by simp) 1 rfl rfl (.inl fun _=>rfl) (fun t _=>?_) Loc.bad
   simp only[hx,if_false]
   exact Loc.bad
include hE in
theorem eZ:LocS n Yes (aR E):=fun pre=>(ia hE pre).all
include hE in
theorem lj:Loc (n+1) (fun _=>true) bd 0 (ap E):=by
 refine Loc.kind (k:=2) (Q:=fun t ts=>ec false t.text ts) (by decide) (by decide) (fun _=>rfl) (fun t _=>kC (fun _=>rfl) _ _) ?_
 refine ek (Q:=fun s ts=>.ok (Ex.lit (.str s)) ts) (fun s=>Loc.ok _ rfl rfl) ?_
 refine Loc.is_ (N1:=0) (l:=[116,114,117,101]) (Q:=fun _ ts=>.ok (Ex.lit (.bool true)) ts) (by simp) 0 rfl rfl (.inl fun _=>rfl) (fun t _=>Loc.ok _ rfl rfl) ?_
 refine Loc.is_ (N1:=0) (l:=[102,97,108,115,101]) (Q:=fun _ ts=>.ok (Ex.lit (.bool false)) ts) (by simp) 0 rfl rfl (.inl fun _=>rfl) (fun t _=>Loc.ok _ rfl rfl) ?_
 refine Loc.kind (k:=1) (Q:=fun t ts=>if(hd ts).is [58,58] ||(hd ts).is [40]then aj (aR E) t.text ts else varP t ts) (by decide) (by decide) (fun _=>rfl) (fun t _=>?_) ?_
 ·
  intro ts hF
  by_cases ht:((hd ts).is [58,58] ||(hd ts).is [40])=true
  .simp only[ht,if_true]
   refine⟨((Loc.loop (eZ hE) t.text (c:=fun _=>false) fun _=>rfl) ts hF).1,fun a r h=>?_⟩
   obtain⟨pre,k1,k2,k3,k4,k5⟩:=((Loc.loop (eZ hE) t.text (c:=fun _=>false) fun _=>rfl) ts hF).2 a r h
   refine⟨pre,by simp,k2,k3,k4,fun r' hr' ho=>?_⟩
   have hne:pre ≠ []:=by
    rintro rfl
    simp only[List.nil_append]at k2
    subst k2
    obtain⟨o,ts1,ho1,hr1⟩:=dt h
    obtain⟨q1,m1,m2,m3,m4,m5⟩:=((show Loc n (fun _=>true) Yes 0 (aR E t.text)from ia hE t.text) ts hF).2 o ts1 ho1
    have l1:=List.length_pos_iff.2 (m1 rfl)
    have l2:=congrArg List.length m2
    simp at l2
    cases o with
    | inr b=>injection hr1 with e1 e2;subst e2;omega
    | inl s' =>
     obtain⟨q2,z1,z2,z3,z4⟩:=Loc.loopN (eZ hE) _ _ _ _ _ m3 hr1
     have l3:=congrArg List.length z1
     simp at l3
     omega
   have hh:hd (pre++r')=hd ts:=by rw[k2];exact bM hne _
   show(if((hd (pre++r')).is [58,58] ||(hd (pre++r')).is [40])=true then _ else _)=_
   rw[hh,if_pos ht]
   exact k5 r' hr' (.inl trivial)
  .simp only[ht,if_false]
   refine⟨fun hl=>(lX (S:=bd) (c:=fun _=>false) (n:=n) (fun _=>rfl) t ts hF).1 hl,fun a r h=>?_⟩
   obtain⟨pre,k1,k2,k3,k4,k5⟩:=(lX (S:=bd) (c:=fun _=>false) (n:=n) (fun _=>rfl) t ts hF).2 a r h
   refine⟨pre,by simp,k2,k3,k4,fun r' hr' ho=>?_⟩
   have hn:((hd (pre++r')).is [58,58] ||(hd (pre++r')).is [40])=false:=by
    by_cases e:pre = []
    .subst e
     rcases ho with ho|ho
     .have:=bO ho;simp[this]
     .rw[List.nil_append,ho];simpa[k2] using ht
    .rw[bM e r',<- bM (r:=r) e r',<- k2];simpa using ht
   show(if((hd (pre++r')).is [58,58] ||(hd (pre++r')).is [40])=true then _ else _)=_
   rw[hn]
   exact k5 r' hr' ho
 refine Loc.is_ (N1:=-1) (l:=[40]) (Q:=fun _ ts=>(E ts).bind fun x ts1=>(ak [41] ts1).bind fun _ ts2=>.ok x ts2) (by simp) 1 rfl rfl (.inl fun _=>rfl) (fun t _=>?_) ?_
 .refine Loc.then2 (w:=0) (N1:=-1) hE (fun x=>?_) rfl
  exact Loc.exact_then (f:=fun ts=>.ok x ts) (by simp) (-1) rfl (Loc.ok _ rfl rfl) rfl
 refine Loc.is_ (N1:=-1) (l:=[91]) (Q:=fun _ ts=>(bk E [93] ts).bind fun l ts1=>.ok (Ex.opn 31 l) (adv ts1)) (by simp) 1 rfl rfl (.inl fun _=>rfl) (fun t _=>gQ (f:=fun l ts=>.ok (Ex.opn 31 l) ts) hE (by simp) rfl (fun l=>Loc.ok _ rfl rfl) rfl) ?_
 exact Loc.is_ (N1:=-1) (l:=[123]) (Q:=fun _ ts=>bE E ts) (by simp) 1 rfl rfl (.inl fun _=>rfl) (fun t _=>mw hE) Loc.bad
end
end Go.Proofs.YtbdhlpeckennjaaGreatDoor
namespace Go.Proofs.YtbdhlpeckennjaaGreatDoor
open Go
section
variable {n:Nat}
theorem mI:LocS n No bR:=by
 intro acc
 refine Loc.is_ (S:=No) (c:=Sum.isLeft) (N1:=0) (l:=[45]) (Q:=fun _ ts=>.ok (Sum.inl (acc ++ [true])) ts) (by simp) 0 rfl rfl (.inr fun t h=>h.elim) (fun t _=>Loc.ok _ rfl rfl) ?_
 exact Loc.is_ (S:=No) (c:=Sum.isLeft) (N1:=0) (l:=[33]) (Q:=fun _ ts=>.ok (Sum.inl (acc ++ [false])) ts) (by simp) 0 rfl rfl (.inr fun t h=>h.elim) (fun t _=>Loc.ok _ rfl rfl) (Loc.ok _ rfl rfl)
structure OpOk(opOf:Tok->Option Nat):Prop where
 ne:∀ t,(opOf t).isSome=true->t ≠ eofT
 wt:∀ t,(opOf t).isSome=true->wt t=0
 stop:∀ t,bd t->(opOf t).isSome=false
theorem aZ{t:Tok}{l:List UInt8}{k:Nat}{o:Option Nat}(h:(if t.is l then some k else o).isSome=true):t.is l=true\/o.isSome=true:=by
 cases ht:t.is l
 .simp[ht]at h;exact .inr h
 .exact .inl rfl
theorem mulOk:OpOk cN where
 ne:=fun t h=>by
  rcases aZ h with h|h
  .exact dr h (by simp)
  .cases h
 wt:=fun t h=>by
  rcases aZ h with h|h
  .rw[dq h];rfl
  .cases h
 stop:=fun t h=>by have:=bO h;simp[this]
theorem addOk:OpOk cG where
 ne:=fun t h=>by
  rcases aZ h with h|h
  .exact dr h (by simp)
  .rcases aZ h with h|h
   .exact dr h (by simp)
   .cases h
 wt:=fun t h=>by
  rcases aZ h with h|h
  .rw[dq h];rfl
  .rcases aZ h with h|h
   .rw[dq h];rfl
   .cases h
 stop:=fun t h=>by have:=bO h;simp[this]
theorem andOk:OpOk cQ where
 ne:=fun t h=>by
  rcases aZ h with h|h
  .exact dr h (by simp)
  .cases h
 wt:=fun t h=>by
  rcases aZ h with h|h
  .rw[dq h];rfl
  .cases h
 stop:=fun t h=>by have:=bO h;simp[this]
theorem orOk:OpOk orOp where
 ne:=fun t h=>by
  rcases aZ h with h|h
  .exact dr h (by simp)
  .cases h
 wt:=fun t h=>by
  rcases aZ h with h|h
  .rw[dq h];rfl
  .cases h
 stop:=fun t h=>by have:=bO h;simp[this]
theorem rd:OpOk dy where
 ne:=fun t h=>by
  rcases aZ h with h|h;· exact dr h (by simp)
  rcases aZ h with h|h;· exact dr h (by simp)
  rcases aZ h with h|h;· exact dr h (by simp)
  rcases aZ h with h|h;· exact dr h (by simp)
  rcases aZ h with h|h;· exact dr h (by simp)
  rcases aZ h with h|h;· exact dr h (by simp)
  rcases aZ h with h|h;· exact dr h (by simp)
  cases h
 wt:=fun t h=>by
  rcases aZ h with h|h;· rw[dq h];rfl
  rcases aZ h with h|h;· rw[dq h];rfl
  rcases aZ h with h|h;· rw[dq h];rfl
  rcases aZ h with h|h;· rw[dq h];rfl
  rcases aZ h with h|h;· rw[dq h];rfl
  rcases aZ h with h|h;· rw[dq h];rfl
  rcases aZ h with h|h;· rw[dq h];rfl
  cases h
 stop:=fun t h=>by have:=bO h;simp[this]
theorem fq{opOf:Tok->Option Nat}(ho:OpOk opOf){A:List Tok->PR Ex}(hA:Loc n (fun _=>true) bd 0 A):Loc n (fun _=>true) bd 0 (aS opOf A):=by
 have hs:LocS n bd (aE opOf A):=by
  intro x
  refine Loc.tok (c:=Sum.isLeft) (S:=bd) (N:=0) (N1:=0) (p:=fun t=>(opOf t).isSome) (Q:=fun t ts=>(A ts).bind fun y ts1=>.ok (Sum.inl (Ex.opn ((opOf t).getD 0) [x,y])) ts1) (R:=fun ts=>.ok (Sum.inr x) ts)
   ho.ne (.inr ho.stop) (fun t _=>(Loc.then_ok (c:=fun _=>true) (hA.lvl (by omega)) _ (fun _ _=>rfl)).any) (fun t h _=>by rw[ho.wt t h];rfl) (Loc.ok _ rfl rfl)
 exact Loc.then_ (w:=0) hA (fun x=>Loc.loop hs x fun _=>rfl) (fun _ h=>h) rfl
theorem mY:LocS n bd dg:=by
 intro s
 refine Loc.is_ (S:=bd) (c:=Sum.isLeft) (N1:=0) (l:=[46]) (Q:=fun _ ts=>if(hd ts).kind=1 then .ok (Sum.inl (Ex.opn 5 [s.1,Ex.named 13 (hd ts).text [s.2]],Ex.named 23 (hd ts).text [s.2])) (adv ts)else .bad)
  (by simp) 0 rfl rfl (.inr fun t h=>by have:=bO h;simp[this]) (fun t _=>?_) (Loc.ok (Sum.inr s.1) rfl rfl)
 exact(ed (k:=1) (Q:=fun t ts=>.ok (Sum.inl (Ex.opn 5 [s.1,Ex.named 13 t.text [s.2]],Ex.named 23 t.text [s.2])) ts) (by decide) (by decide) (fun t=>Loc.ok (Sum.inl _) rfl rfl)).any
theorem rD(x:Ex):Loc n (fun _=>true) bd 0 (hasP x):=by
 refine Loc.kind (k:=1) (Q:=fun t ts=>aj dg (Ex.named 13 t.text [x],Ex.named 23 t.text [x]) ts) (by decide) (by decide) (fun _=>rfl) (fun t _=>Loc.loop mY _ fun _=>rfl) ?_
 exact ek (Q:=fun s ts=>.ok (Ex.named 13 s [x]) ts) (fun s=>Loc.ok _ rfl rfl) Loc.bad
theorem pZ(x:Ex):Loc n (fun _=>true) bd 0 (eW x) :=
 Loc.kind (k:=4) (Q:=fun t ts=>bw (bU (pp t.text)) fun l=>.ok (Ex.like (gq l) x) ts) (by decide) (by decide) (fun _=>rfl) (fun t _=>Loc.opt _ fun l=>Loc.ok _ rfl rfl) Loc.bad
variable {E:List Tok->PR Ex} (hE:Loc n (fun _=>true) bd 0 E)
include hE
theorem nI:LocS (n+1) bd (aC E):=by
 intro x
 refine Loc.is_ (S:=bd) (c:=Sum.isLeft) (N1:=0) (l:=[46]) (Q:=fun _ ts=>if(hd ts).kind=1 then
   if(hd (adv ts)).is [40]then(bk E [41] (adv (adv ts))).bind fun l ts1=>bw (bx x (hd ts).text l) fun y=>.ok (Sum.inl y) (adv ts1)
   else .ok (Sum.inl (Ex.named 23 (hd ts).text [x])) (adv ts)else .bad) (by simp) 0 rfl rfl (.inr fun t h=>by have:=bO h;simp[this]) (fun t _=>?_) ?_
 .refine(ed (k:=1) (Q:=fun t ts=>if(hd ts).is [40]then(bk E [41] (adv ts)).bind fun l ts1=>bw (bx x t.text l) fun y=>.ok (Sum.inl y) (adv ts1)
   else .ok (Sum.inl (Ex.named 23 t.text [x])) ts) (by decide) (by decide) (fun t=>?_)).any
  refine Loc.is_ (N1:=-1) (l:=[40]) (Q:=fun _ ts=>(bk E [41] ts).bind fun l ts1=>bw (bx x t.text l) fun y=>.ok (Sum.inl y) (adv ts1)) (by simp) 1 rfl rfl (.inr fun t h=>by have:=bO h;simp[this]) (fun _ _=>?_) (Loc.ok _ rfl rfl)
  exact gQ (f:=fun l ts=>bw (bx x t.text l) fun y=>.ok (Sum.inl y) ts) (Loc.lvl hE (by omega)) (by simp) rfl (fun l=>Loc.opt _ fun y=>Loc.ok _ rfl rfl) rfl
 .refine Loc.is_ (S:=bd) (c:=Sum.isLeft) (N1:=-1) (l:=[91]) (Q:=fun _ ts=>if(hd ts).kind=4 then bw (aX (hd ts).text) fun s=>(ak [93] (adv ts)).bind fun _ ts1=>.ok (Sum.inl (Ex.named 23 s [x])) ts1 else .bad)
   (by simp) 1 rfl rfl (.inr fun t h=>by have:=bO h;simp[this]) (fun t _=>?_) (Loc.ok _ rfl rfl)
  exact(ek (Q:=fun s ts=>(ak [93] ts).bind fun _ ts1=>.ok (Sum.inl (Ex.named 23 s [x])) ts1) (fun s=>Loc.exact_then (f:=fun ts=>.ok (Sum.inl (Ex.named 23 s [x])) ts) (by simp) (-1) rfl (Loc.ok _ rfl rfl) rfl) Loc.bad).any
theorem hG:Loc (n+1) (fun _=>true) bd 0 (br E) :=
 Loc.then_ (w:=0) (lj hE) (fun x=>Loc.loop (nI hE) x fun _=>rfl) (fun _ h=>h) rfl
theorem jS(ops:List Bool):Loc (n+1) (fun _=>true) bd 0 (bi E ops):=by
 by_cases ho:ops.getLast? = some true
 .have e:bi E ops=fun ts=>if(hd ts).kind=2 then(ec true (hd ts).text (adv ts)).bind (fun x ts2=>.ok (aP ops.dropLast x) ts2)else(br E ts).bind fun x ts2=>.ok (aP ops x) ts2:=by
   funext ts;unfold bi;simp[ho]
  rw[e]
  refine Loc.kind (k:=2) (Q:=fun t ts=>(ec true t.text ts).bind fun x ts2=>.ok (aP ops.dropLast x) ts2) (by decide) (by decide) (fun _=>rfl) (fun t _=>?_) ?_
  .exact Loc.then_ok (kC (c:=fun _=>false) (fun _=>rfl) true t.text) _ (fun _ h=>by cases h)
  .exact Loc.then_ok (hG hE) _ (fun _ _=>rfl)
 .have e:bi E ops=fun ts=>(br E ts).bind fun x ts2=>.ok (aP ops x) ts2:=by
   funext ts;unfold bi;simp[ho]
  rw[e]
  exact Loc.then_ok (hG hE) _ (fun _ _=>rfl)
theorem nL:Loc (n+1) (fun _=>true) bd 0 (bl E) :=
 Loc.then2 (w:=0) (N1:=0) (Loc.loop mI [] (c:=fun _=>false) fun _=>rfl) (fun ops=>jS hE ops) rfl
theorem jN:Loc (n+1) (fun _=>true) bd 0 (addP E):=fq addOk (fq mulOk (nL hE))
theorem isP_loc(x:Ex):Loc (n+1) (fun _=>true) bd 0 (isP E x):=by
 refine Loc.then_ (w:=0) (N1:=0) kw (fun ty=>?_) (fun _ h=>h) rfl
 refine Loc.is_ (S:=bd) (N1:=0) (l:=[105,110]) (Q:=fun _ ts=>(addP E ts).bind fun y ts2=>.ok (Ex.named 17 ty [x,y]) ts2) (by simp) 0 rfl rfl (.inr fun t h=>by have:=bO h;simp[this]) (fun t _=>?_) (Loc.ok _ rfl rfl)
 exact Loc.then_ok ((jN hE).lvl (by omega)).any _ (fun _ h=>h)
theorem mt(x:Ex):Loc (n+1) (fun _=>false) bd 0 (bQ E x):=by
 refine Loc.is_ (S:=bd) (N1:=0) (l:=[104,97,115]) (Q:=fun _ ts=>hasP x ts) (by simp) 0 rfl rfl (.inr fun t h=>by have:=bO h;simp[this]) (fun t _=>(rD x).any) ?_
 refine Loc.is_ (S:=bd) (N1:=0) (l:=[108,105,107,101]) (Q:=fun _ ts=>eW x ts) (by simp) 0 rfl rfl (.inr fun t h=>by have:=bO h;simp[this]) (fun t _=>(pZ x).any) ?_
 refine Loc.is_ (S:=bd) (N1:=0) (l:=[105,115]) (Q:=fun _ ts=>isP E x ts) (by simp) 0 rfl rfl (.inr fun t h=>by have:=bO h;simp[this]) (fun t _=>((isP_loc hE x).lvl (by omega)).any) ?_
 refine Loc.tok (S:=bd) (N:=0) (N1:=0) (p:=fun t=>(dy t).isSome) (Q:=fun t ts=>(addP E ts).bind fun y ts2=>.ok (Ex.opn ((dy t).getD 0) [x,y]) ts2) (R:=fun ts=>.ok x ts)
   rd.ne (.inr rd.stop) (fun t _=>Loc.then_ok ((jN hE).lvl (by omega)).any _ (fun _ h=>h)) (fun t h _=>by rw[rd.wt t h];rfl) (Loc.ok _ rfl rfl)
theorem jW:Loc (n+1) (fun _=>true) bd 0 (aO E) :=
 Loc.then_ (w:=0) (jN hE) (fun x=>mt hE x) (fun _ h=>h) rfl
theorem orP_loc:Loc (n+1) (fun _=>true) bd 0 (orP E):=fq orOk (fq andOk (jW hE))
theorem qL:Loc (n+1) (fun _=>true) bd 0 (cA E):=by
 refine Loc.is_ (S:=bd) (c:=fun _=>true) (N1:=0) (l:=[105,102]) (Q:=fun _ ts=>(E ts).bind fun c ts1=>(ak [116,104,101,110] ts1).bind fun _ ts2=>(E ts2).bind fun t ts3 =>
   (ak [101,108,115,101] ts3).bind fun _ ts4=>(E ts4).bind fun e ts5=>.ok (Ex.opn 3 [c,t,e]) ts5) (by simp) 0 rfl rfl (.inl fun _=>rfl) (fun t _=>?_) (orP_loc hE)
 refine Loc.then2 (w:=0) (N1:=0) hE (fun c=>?_) rfl
 refine Loc.exact_then (N1:=0) (f:=fun ts2=>(E ts2).bind fun t ts3=>(ak [101,108,115,101] ts3).bind fun _ ts4=>(E ts4).bind fun e ts5=>.ok (Ex.opn 3 [c,t,e]) ts5) (by simp) 0 rfl ?_ rfl
 refine Loc.then2 (w:=0) (N1:=0) hE (fun t=>?_) rfl
 refine Loc.exact_then (N1:=0) (f:=fun ts4=>(E ts4).bind fun e ts5=>.ok (Ex.opn 3 [c,t,e]) ts5) (by simp) 0 rfl ?_ rfl
 exact Loc.then_ok (c:=fun _=>false) hE _ (fun _ _=>rfl)
end
theorem jx:∀ n,Loc n (fun _=>true) bd 0 (expr n)
 | 0=>fun ts hF=>⟨fun hl _=>hF.ne (List.length_eq_zero_iff.1 (by omega)),fun a r h=>by cases h⟩
 | n+1=>qL (jx n)
end Go.Proofs.YtbdhlpeckennjaaGreatDoor
