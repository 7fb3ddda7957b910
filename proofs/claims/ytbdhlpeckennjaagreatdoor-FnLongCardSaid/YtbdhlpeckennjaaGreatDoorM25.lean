/- FnLong (the proof that the law returns true for every input), part 25 of 52; the last part says what is proved, and its condition. -/
import Derived.Test.YtbdhlpeckennjaaGreatDoorM23
import Derived.Test.YtbdhlpeckennjaaGreatDoorM24
set_option linter.unusedVariables false
set_option linter.unusedSimpArgs false
set_option maxHeartbeats 80000000
set_option maxRecDepth 1000000
namespace Go.Proofs.YtbdhlpeckennjaaGreatDoor
open Go
section
variable {n:Nat} {E:List Tok->PR Ex} (hE:Loc n (fun _=>true) bd 0 E)
theorem lD(name:ByteArray):Loc n (fun _=>false) No 0 (cS name):=by
 refine Loc.is_ (S:=No) (N1:=-1) (l:=[40]) (Q:=fun _ ts=>if(hd ts).kind=4 then bw (aX (hd ts).text) fun s=>(ak [41] (adv ts)).bind fun _ ts1=>.ok (name,s) ts1 else .bad) (by simp) 1 rfl rfl (.inr fun t h=>h.elim) (fun t _=>?_) (Loc.ok _ rfl rfl)
 exact(ek (Q:=fun s ts=>(ak [41] ts).bind fun _ ts1=>.ok (name,s) ts1) (fun s=>Loc.exact_then (f:=fun ts=>.ok (name,s) ts) (by simp) (-1) rfl (Loc.ok _ rfl rfl) rfl) Loc.bad).any
theorem pR(known:List (ByteArray × ByteArray)):Loc n (fun _=>true) No 0 (bC known):=by
 have h:=Loc.tok (n:=n) (S:=No) (c:=fun _=>true) (N:=0) (N1:=0) (p:=fun t=>decide (t.kind=1\/t.kind=3)) (Q:=fun t ts=>if known.any (fun x=>x.1.toList == t.text.toList)then .bad else cS t.text ts) (R:=fun _=>.bad)
  (fun t ht=>pA (by simp at ht;omega)) (.inl fun _=>rfl) (fun t _=>by
   by_cases hk:known.any (fun x=>x.1.toList == t.text.toList)=true
   .simp only[hk,if_true];exact Loc.bad
   .simp only[hk,Bool.false_eq_true,if_false];exact lD t.text) (fun t ht hw=>by rw[hw (by simp at ht;omega)];rfl) Loc.bad
 simp only[decide_eq_true_eq]at h
 exact h
theorem jX:LocS n No be:=by
 intro acc
 refine Loc.is_ (S:=No) (c:=Sum.isLeft) (N1:=0) (l:=[64]) (Q:=fun _ ts=>(bC acc ts).bind fun n ts1=>.ok (Sum.inl (acc ++ [n])) ts1) (by simp) 0 rfl rfl (.inr fun t h=>h.elim) (fun t _=>?_) (Loc.ok _ rfl rfl)
 exact Loc.then_ok (pR acc) _ (fun _ h=>by cases h)
theorem nt:Loc n (fun _=>true) No 0 cD:=by
 refine Loc.is_ (N1:=0) (l:=[112,101,114,109,105,116]) (Q:=fun _ ts=>.ok false ts) (by simp) 0 rfl rfl (.inl fun _=>rfl) (fun t _=>Loc.ok _ rfl rfl) ?_
 exact Loc.is_ (N1:=0) (l:=[102,111,114,98,105,100]) (Q:=fun _ ts=>.ok true ts) (by simp) 0 rfl rfl (.inl fun _=>rfl) (fun t _=>Loc.ok _ rfl rfl) Loc.bad
theorem on(p:ByteArray):Loc n (fun _=>false) No 0 (dE p):=by
 refine Loc.is_ (S:=No) (N1:=0) (l:=[105,110]) (Q:=fun _ ts=>(aJ ts).bind fun e ts3=>.ok (Scp.mk 5 e [] p) ts3) (by simp) 0 rfl rfl (.inr fun t h=>h.elim) (fun t _=>?_) (Loc.ok _ rfl rfl)
 exact Loc.then_ok (cP.sub fun _ h=>h.elim) _ (fun _ h=>by cases h)
theorem lV:Loc n (fun _=>false) No 0 cg:=by
 refine Loc.is_ (S:=No) (N1:=0) (l:=[61,61]) (Q:=fun _ ts=>(aJ ts).bind fun e ts2=>.ok (Scp.mk 1 e [] an) ts2) (by simp) 0 rfl rfl (.inr fun t h=>h.elim) (fun t _=>Loc.then_ok (cP.sub fun _ h=>h.elim) _ (fun _ h=>by cases h)) ?_
 refine Loc.is_ (S:=No) (N1:=0) (l:=[105,115]) (Q:=fun _ ts=>(dA ts).bind fun p ts2=>dE p ts2) (by simp) 0 rfl rfl (.inr fun t h=>h.elim) (fun t _=>Loc.then_ (w:=0) kw (fun p=>on p) (fun _ h=>h.elim) rfl) ?_
 exact Loc.is_ (S:=No) (N1:=0) (l:=[105,110]) (Q:=fun _ ts=>(aJ ts).bind fun e ts2=>.ok (Scp.mk 2 e [] an) ts2) (by simp) 0 rfl rfl (.inr fun t h=>h.elim) (fun t _=>Loc.then_ok (cP.sub fun _ h=>h.elim) _ (fun _ h=>by cases h)) (Loc.ok _ rfl rfl)
theorem lW{w:List UInt8}(hw:w ≠ [])(h0:(if w == [40] || w == [123] || w == [91]then(1:Int)else if w == [41] || w == [125] || w == [93]then -1 else 0)=0):Loc n (fun _=>true) No 0 (whoP w) :=
 Loc.exact_then (f:=cg) hw 0 h0 lV rfl
theorem lI:LocS n No aU:=by
 intro acc
 refine Loc.peek (p:=fun t=>t.is [93]) (c1:=Sum.isLeft) (.inr fun t h=>h.elim) (Loc.ok (Sum.inr acc) rfl rfl) (.inr ⟨fun _ h=>h,rfl⟩) ?_
 refine Loc.then_ (w:=0) (N1:=0) cP (fun e=>?_) (fun t h=>h.elim) rfl
 refine Loc.is_ (N1:=0) (l:=[44]) (Q:=fun _ ts=>.ok (Sum.inl (acc ++ [e])) ts) (by simp) 0 rfl rfl (.inr fun t h=>h.elim) (fun _ _=>Loc.ok _ rfl rfl) ?_
 exact Loc.peek (p:=fun t=>t.is [93]) (c1:=fun _=>false) (.inr fun t h=>h.elim) (Loc.ok _ rfl rfl) (.inr ⟨fun _ h=>h,rfl⟩) Loc.bad
theorem rL{ts:List Tok}{l:List (ByteArray × ByteArray)}{r:List Tok}(h:aj aU [] ts = .ok l r):(hd r).is [93]=true:=by
 obtain⟨s,t,hs⟩:=gu h
 unfold aU at hs
 split at hs
 .rename_i hm
  injection hs with e1 e2
  rw[<- e2];exact hm
 .obtain⟨e,ts1,he,hr⟩:=dt hs
  split at hr
  .cases hr
  .split at hr <;> cases hr
theorem oq:Loc n (fun _=>false) No 0 gM:=by
 refine Loc.is_ (S:=No) (N1:=-1) (l:=[91]) (Q:=fun _ ts=>(aj aU [] ts).bind fun l ts2=>.ok (Scp.mk 3 (an,an) l an) (adv ts2)) (by simp) 1 rfl rfl (.inr fun t h=>h.elim) (fun t _=>?_) ?_
 .exact Loc.then_adv (N1:=0) (N2:=0) (w:=-1) (c2:=fun _=>false) (p:=fun t=>t.is [93]) (f:=fun l ts=>.ok (Scp.mk 3 (an,an) l an) ts) (Loc.loop lI [] (c:=fun _=>false) fun _=>rfl) (fun _ _ _ h=>rL h) (fun t h=>dr h (by simp)) (fun t h=>by rw[dq h];rfl) (fun l=>Loc.ok _ rfl rfl) rfl
 .exact Loc.then_ok (cP.sub fun _ h=>h.elim) _ (fun _ h=>by cases h)
theorem kT:Loc n (fun _=>false) No 0 dk:=by
 refine Loc.is_ (S:=No) (N1:=0) (l:=[61,61]) (Q:=fun _ ts=>(aJ ts).bind fun e ts2=>.ok (Scp.mk 1 e [] an) ts2) (by simp) 0 rfl rfl (.inr fun t h=>h.elim) (fun t _=>Loc.then_ok (cP.sub fun _ h=>h.elim) _ (fun _ h=>by cases h)) ?_
 exact Loc.is_ (S:=No) (N1:=0) (l:=[105,110]) (Q:=fun _ ts=>gM ts) (by simp) 0 rfl rfl (.inr fun t h=>h.elim) (fun t _=>oq) (Loc.ok _ rfl rfl)
theorem pJ:Loc n (fun _=>true) No 0 cF:=Loc.exact_then (f:=dk) (by simp) 0 rfl kT rfl
include hE in
theorem kM{S:Tok->Prop}:Loc n (fun _=>true) S 0 (bV E):=by
 refine Loc.exact_then (N1:=-1) (f:=fun ts1=>(E ts1).bind fun x ts2=>(ak [125] ts2).bind fun _ ts3=>.ok x ts3) (by simp) 1 rfl ?_ rfl
 refine Loc.then2 (w:=0) (N1:=-1) hE (fun x=>?_) rfl
 exact Loc.exact_then (f:=fun ts=>.ok x ts) (by simp) (-1) rfl (Loc.ok _ rfl rfl) rfl
include hE in
theorem kh:LocS n No (aB E):=by
 intro acc
 refine Loc.is_ (S:=No) (c:=Sum.isLeft) (N1:=0) (l:=[119,104,101,110]) (Q:=fun _ ts=>(bV E ts).bind fun x ts1=>.ok (Sum.inl (acc ++ [(false,x)])) ts1) (by simp) 0 rfl rfl (.inr fun t h=>h.elim) (fun t _=>Loc.then_ok ((kM hE).lvl (by omega)) _ (fun _ h=>by cases h)) ?_
 exact Loc.is_ (S:=No) (c:=Sum.isLeft) (N1:=0) (l:=[117,110,108,101,115,115]) (Q:=fun _ ts=>(bV E ts).bind fun x ts1=>.ok (Sum.inl (acc ++ [(true,x)])) ts1) (by simp) 0 rfl rfl (.inr fun t h=>h.elim) (fun t _=>Loc.then_ok ((kM hE).lvl (by omega)) _ (fun _ h=>by cases h)) (Loc.ok _ rfl rfl)
theorem pM{l:List UInt8}(hl:l ≠ [])(h0:(if l == [40] || l == [123] || l == [91]then(1:Int)else if l == [41] || l == [125] || l == [93]then -1 else 0)=0):Loc n (fun _=>false) No 0 (kt l) :=
 Loc.is_ (S:=No) (N1:=0) (Q:=fun _ ts=>.ok () ts) hl 0 h0 rfl (.inr fun t h=>h.elim) (fun t _=>Loc.ok () rfl rfl) (Loc.ok () rfl rfl)
def gp (E:List Tok->PR Ex)(forbid:Bool)(notes:List (ByteArray × ByteArray))(p a r:Scp)(ts9:List Tok):PR Pol :=
 (aj (aB E) [] ts9).bind fun c ts10 =>
 (ak [59] ts10).bind fun _ ts11=>.ok ⟨forbid,notes,p,a,r,c⟩ ts11
include hE in
theorem mB(forbid:Bool)(notes:List (ByteArray × ByteArray))(p a r:Scp):Loc n (fun _=>true) No 0 (gp E forbid notes p a r):=by
 refine Loc.then2 (w:=0) (N1:=0) (Loc.loop (kh hE) [] (c:=fun _=>false) fun _=>rfl) (fun c=>?_) rfl
 exact Loc.exact_then (f:=fun ts=>.ok (Pol.mk forbid notes p a r c) ts) (by simp) 0 rfl (Loc.ok _ rfl rfl) rfl
include hE in
theorem mC:Loc n (fun _=>true) No 0 (polP E):=by
 refine Loc.then2 (w:=0) (N1:=0) (Loc.loop jX [] (c:=fun _=>false) fun _=>rfl) (fun notes=>?_) rfl
 refine Loc.then_ (w:=0) (N1:=0) nt (fun forbid=>?_) (fun _ h=>h) rfl
 refine Loc.then2 (w:=1) (N1:=-1) (c1:=fun _=>true) (S1:=No) (Loc.exact_ (by simp) 1 rfl) (fun _=>?_) rfl
 refine Loc.then_ (w:=0) (N1:=-1) (lW (by simp) rfl) (fun p=>?_) (fun _ h=>h) rfl
 refine Loc.then2 (w:=0) (N1:=-1) (c1:=fun _=>true) (S1:=No) (Loc.exact_ (by simp) 0 rfl) (fun _=>?_) rfl
 refine Loc.then_ (w:=0) (N1:=-1) pJ (fun a=>?_) (fun _ h=>h) rfl
 refine Loc.then2 (w:=0) (N1:=-1) (c1:=fun _=>true) (S1:=No) (Loc.exact_ (by simp) 0 rfl) (fun _=>?_) rfl
 refine Loc.then_ (w:=0) (N1:=-1) (lW (by simp) rfl) (fun r=>?_) (fun _ h=>h) rfl
 refine Loc.then2 (w:=0) (N1:=-1) (pM (by simp) rfl) (fun _=>?_) rfl
 refine Loc.then2 (w:=-1) (N1:=0) (c1:=fun _=>true) (S1:=No) (Loc.exact_ (by simp) (-1) rfl) (fun _=>?_) rfl
 exact mB hE forbid notes p a r
include hE in
theorem pQ:Loc n (fun _=>false) No 0 (jh E):=by
 refine Loc.loop (fun acc=>?_) [] fun _=>rfl
 have h:=Loc.peek (n:=n) (S:=No) (c:=Sum.isLeft) (N:=0) (p:=fun t=>decide (t.kind=0)) (Q:=fun ts=>.ok (Sum.inr acc) ts) (R:=fun ts=>(polP E ts).bind fun p ts1=>.ok (Sum.inl (acc ++ [p])) ts1) (c1:=Sum.isLeft)
  (.inr fun t h=>h.elim) (Loc.ok (Sum.inr acc) rfl rfl) (.inr ⟨fun _ h=>h,rfl⟩) (Loc.then_ok (mC hE) _ (fun _ _=>rfl))
 simp only[decide_eq_true_eq]at h
 exact h
end
def Le {α:Type}(r r':PR α):Prop:=r = .out\/r=r'
section
variable {α β σ:Type}
theorem Le.refl(r:PR α):Le r r:=.inr rfl
theorem Le.bind{r r':PR α}{f f':α->List Tok->PR β}(h:Le r r')(hf:∀ a ts,Le (f a ts) (f' a ts)):Le (r.bind f) (r'.bind f'):=by
 rcases h with rfl|rfl
 .exact .inl rfl
 .cases r with
  | ok a ts=>exact hf a ts
  | bad=>exact .refl _
  | out=>exact .refl _
theorem Le.loopP{step step':σ->List Tok->PR (σ ⊕ α)}(h:∀ s ts,Le (step s ts) (step' s ts)):∀ k s ts,Le (ai step k s ts) (Go.Proofs.YtbdhlpeckennjaaGreatDoor.ai step' k s ts)
 | 0,s,ts=>.refl _
 | k+1,s,ts=>by
  refine Le.bind (h s ts) fun o ts1=>?_
  cases o with
  | inl s'=>exact Le.loopP h k s' ts1
  | inr a=>exact .refl _
theorem Le.loop{step step':σ->List Tok->PR (σ ⊕ α)}(h:∀ s ts,Le (step s ts) (step' s ts))(s:σ)(ts:List Tok):Le (aj step s ts) (aj step' s ts):=Le.loopP h _ s ts
end
section
variable {E E':List Tok->PR Ex} (h:∀ ts,Le (E ts) (E' ts))
include h
end
end Go.Proofs.YtbdhlpeckennjaaGreatDoor
namespace Go.Proofs.YtbdhlpeckennjaaGreatDoor
open Go
def KFin (ts:List Tok):Prop:=Fin ts/\∀ t ∈ ts.dropLast,t.kind ≠ 0
def rh (ts:List Tok):Option (List Pol):=match jh (expr ts.length) ts with | .ok l _=>some l|_=>none
theorem KFin.suffix{pre r:List Tok}(h:KFin (pre++r))(hr:r ≠ []):KFin r:=by
 obtain⟨⟨h1,h2⟩,h3⟩:=h
 refine⟨⟨?_,fun t ht=>h2 t (List.mem_append_right _ ht)⟩,fun t ht=>h3 t ?_⟩
 .rw[List.getLast?_append]at h1
  cases hl:r.getLast? with
  | none=>exact absurd (List.getLast?_eq_none_iff.1 hl) hr
  | some x=>rw[hl]at h1;exact h1
 .rw[List.dropLast_append_of_ne_nil hr];exact List.mem_append_right _ ht
theorem kF(k:Nat)(a l:List UInt8):(Tok.mk k ⟨a.toArray⟩).is l=(a == l):=by unfold Tok.is;rw[ByteArray.toList_mk a]
theorem wt_eof:wt eofT=0:=by
 unfold wt
 rw[show eofT=Tok.mk 0 ⟨([]:List UInt8).toArray⟩from rfl]
 simp only[kF];rfl
section
variable {E E':List Tok->PR Ex} (h:∀ ts,Le (E ts) (E' ts))
include h
end
theorem mA{ts:List Tok}(hF:Fin ts):jh (expr ts.length) ts ≠ .out:=(pQ (jx _) ts hF).1 (Nat.le_refl _)
def opT (l:List UInt8):Tok:=⟨5,⟨l.toArray⟩⟩
def idT (l:List UInt8):Tok:=⟨1,⟨l.toArray⟩⟩
def dF:List Tok:=[idT [112,101,114,109,105,116],opT [40],idT [112,114,105,110,99,105,112,97,108],opT [44],idT [97,99,116,105,111,110],opT [44],idT [114,101,115,111,117,114,99,101],opT [41]]
theorem mX(E:List Tok->PR Ex)(x:Tok)(X:List Tok):polP E (dF++x::X)=gp E false [] Scp.all Scp.all Scp.all (x::X):=by
 unfold polP gp dF
 simp[aj,ai,be,hd,adv,idT,opT,kF,PR.bind,cD,ak,whoP,cg,cF,dk,kt]
end Go.Proofs.YtbdhlpeckennjaaGreatDoor
namespace Go.Proofs.YtbdhlpeckennjaaGreatDoor
open Go
theorem ly(c:Int)(w:List UInt8):Rch w (az c w).2:=by
 unfold az
 repeat' split
 all_goals first|exact .refl _|exact .nxt _
theorem op_kind(c:Int)(w:List UInt8):(az c w).1 ≠ 0:=by
 unfold az
 repeat' split
 all_goals simp
theorem op_st{v v':List UInt8}(hL:Look v v'){c:Int}{k:Nat}{x:List UInt8}(h:az c (x++v)=(k,v)):az c (x++v')=(k,v'):=by
 have second:∀ (d:Int) (k1 k2:Nat),32 < d->(if chr (x++v)=d then(k1,nxt (x++v))else(k2,x++v))=(k,v)->(if chr (x++v')=d then(k1,nxt (x++v'))else(k2,x++v'))=(k,v'):=by
  intro d k1 k2 hd h
  by_cases hc:chr (x++v)=d
  .rw[if_pos hc]at h
   injection h with h1 h2
   have hx:x ≠ []:=by
    rintro rfl
    have hne:v ≠ []:=by rintro rfl;simp[cJ]at hc;omega
    have:=bZ hne
    rw[List.nil_append]at h2
    rw[h2]at this;omega
   obtain⟨e1,e2,e3,e4⟩:=bX hL hx (by rw[h2];exact Nat.le_refl _)
   rw[e1,if_pos hc,e3,h1]
   rw[e2]at h2
   have:=congrArg List.length h2
   simp only[List.length_append]at this
   rw[List.length_eq_zero_iff.1 (show(x.drop (clen (x++v))).length=0 by omega)]
   rfl
  .rw[if_neg hc]at h
   injection h with h1 h2
   have hx:x = []:=by
    have:=congrArg List.length h2
    simp at this
    exact this
   subst hx
   rw[if_neg,h1]
   .rfl
   .rcases hL.ch with e|e|e|e
    .simp only[List.nil_append]at hc ⊢;rw[e];exact hc
    .simp only[List.nil_append];rw[e];omega
    .simp only[List.nil_append];rw[e];omega
    .simp only[List.nil_append];rw[e];omega
 have first:∀ (k1:Nat),(k1,x++v)=(k,v)->(k1,x++v')=(k,v'):=by
  intro k1 h
  injection h with h1 h2
  have hx:x = []:=by
   have:=congrArg List.length h2
   simp at this
   exact this
  subst hx
  rw[h1];rfl
 unfold az at h ⊢
 split
 .rename_i c1
  rw[if_pos c1]at h
  exact first 5 h
 .rename_i c1
  rw[if_neg c1]at h
  split
  .rename_i c2
   rw[if_pos c2]at h
   have:=second 58 5 5 (by decide) (by split <;> simp_all)
   split <;> simp_all
  .rename_i c2
   rw[if_neg c2]at h
   split
   .rename_i c3
    rw[if_pos c3]at h
    have:=second 61 5 5 (by decide) (by split <;> simp_all)
    split <;> simp_all
   .rename_i c3
    rw[if_neg c3]at h
    split
    .rename_i c4
     rw[if_pos c4]at h
     exact second 61 5 6 (by decide) h
    .rename_i c4
     rw[if_neg c4]at h
     split
     .rename_i c5
      rw[if_pos c5]at h
      exact second 124 5 6 (by decide) h
     .rename_i c5
      rw[if_neg c5]at h
      split
      .rename_i c6
       rw[if_pos c6]at h
       exact second 38 5 6 (by decide) h
      .rename_i c6
       rw[if_neg c6]at h
       exact first 6 h
theorem cm:wsB (-1)=false:=by decide
theorem dB:(fun c:Int=>!(c == 10) && decide (0<=c)) (-1)=false:=by decide
theorem cE:∀ (k:Nat) (w:List UInt8),Rch w (bN k w).1
 | 0,w=>.refl _
 | k+1,w=>by
  simp only[bN]
  split
  .exact .refl _
  .split
   .exact(Rch.nxt w).trans (.nxt _)
   .exact(Rch.nxt w).trans (cE k _)
theorem cR:∀ (k:Nat) (w:List UInt8),Rch w (am k w).2.1/\Rch (am k w).2.1 (am k w).2.2.1
 | 0,w=>⟨.refl _,.refl _⟩
 | k+1,w=>by
  have hs:=(aN (p:=wsB) cm _ w (Nat.le_refl _)).2
  simp only[am]
  split
  .exact⟨hs,.refl _⟩
  .split
   .exact⟨hs,(Rch.nxt _).trans (aN (by decide) _ _ (Nat.le_refl _)).2⟩
   .split
    .exact⟨hs,(aN (by decide) _ _ (Nat.le_refl _)).2⟩
    .split
     .exact⟨hs,(Rch.nxt _).trans ((de _ _).trans (.nxt _))⟩
     .split
      .split
       .obtain⟨h1,h2⟩:=cR k (skip (fun c=>!(c == 10) && decide (0<=c)) (nxt (nxt (skip wsB w))))
        exact⟨hs.trans ((Rch.nxt _).trans ((Rch.nxt _).trans ((aN dB _ _ (Nat.le_refl _)).2.trans h1))),h2⟩
       .split
        .obtain⟨h1,h2⟩:=cR k (bN ((skip wsB w).length+1) (nxt (nxt (skip wsB w)))).1
         exact⟨hs.trans ((Rch.nxt _).trans ((Rch.nxt _).trans ((cE _ _).trans h1))),h2⟩
        .exact⟨hs,.nxt _⟩
      .exact⟨hs,(Rch.nxt _).trans (ly _ _)⟩
theorem gh:∀ (k k':Nat) (w:List UInt8),w.length < k->w.length < k'->am k w=am k' w
 | 0,k',w,h,_=>by omega
 | k+1,0,w,_,h=>by omega
 | k+1,k'+1,w,h,h'=>by
  have hs:=(aN (p:=wsB) cm _ w (Nat.le_refl _)).2.len
  simp only[am]
  split
  .rfl
  .rename_i c0
   have hne:skip wsB w ≠ []:=by rintro e;rw[e]at c0;exact c0 rfl
   have hlt:=bZ hne
   split
   .rfl
   .split
    .rfl
    .split
     .rfl
     .split
      .split
       .refine gh k k' _ ?_ ?_ <;>
        .have h1:=(aN (p:=fun c=>!(c == 10) && decide (0<=c)) dB _ (nxt (nxt (skip wsB w))) (Nat.le_refl _)).2.len
         have h2:=(Rch.nxt (nxt (skip wsB w))).len
         omega
       .split
        .rw[gh k k' (bN ((skip wsB w).length+1) (nxt (nxt (skip wsB w)))).1 (by
          have h1:=(cE ((skip wsB w).length+1) (nxt (nxt (skip wsB w)))).len
          have h2:=(Rch.nxt (nxt (skip wsB w))).len
          omega) (by
          have h1:=(cE ((skip wsB w).length+1) (nxt (nxt (skip wsB w)))).len
          have h2:=(Rch.nxt (nxt (skip wsB w))).len
          omega)]
        .rfl
      .rfl
def Tk (k:Nat)(u v:List UInt8):Prop:=k ≠ 0/\u ≠ []/\am ((u++v).length+1) (u++v)=(k,u++v,v,true)
theorem tk_st{k:Nat}{u v v':List UInt8}(h:Tk k u v)(hL:Look v v'):Tk k u v':=by
 obtain⟨hk,hu,h⟩:=h
 refine⟨hk,hu,?_⟩
 have hul:0 < u.length:=List.length_pos_iff.2 hu
 have hsr:=(aN (p:=wsB) cm _ (u++v) (Nat.le_refl _))
 have hst:∀ (r:List UInt8),Rch (nxt (skip wsB (u++v))) r->r.length < (u++v).length:=by
  intro r hr
  have h1:=hr.len
  have h2:=hsr.2.len
  by_cases hne:skip wsB (u++v) = []
  .rw[hne,pw]at h1;simp at h1 ⊢;rw[h1];simp;omega
  .have:=bZ hne;omega
 simp only[am]at h ⊢
 by_cases c0:chr (skip wsB (u++v)) = -1
 .rw[if_pos c0]at h;injection h with h1 h2;exact absurd h1.symm hk
 rw[if_neg c0]at h
 have hskip:skip wsB (u++v)=u++v/\v.length<=(nxt (u++v)).length:=by
  by_cases c1:bh (chr (skip wsB (u++v))) true=true
  .rw[if_pos c1]at h
   have e:skip wsB (u++v)=u++v:=congrArg (fun x=>x.2.1) h
   refine⟨e,?_⟩
   have:=(aN (p:=(bh · false)) (by decide) _ (nxt (skip wsB (u++v))) (Nat.le_refl _)).2.len
   have e2:=congrArg (fun x=>x.2.2.1) h
   simp only at e2
   rw[e2,e]at this;exact this
  rw[if_neg c1]at h
  by_cases c2:decB (chr (skip wsB (u++v)))=true
  .rw[if_pos c2]at h
   have e:skip wsB (u++v)=u++v:=congrArg (fun x=>x.2.1) h
   refine⟨e,?_⟩
   have e2:=congrArg (fun x=>x.2.2.1) h
   simp only at e2
   rw[bP (by decide),if_pos c2,e]at e2
   have:=(aN (p:=decB) (by decide) _ (nxt (u++v)) (Nat.le_refl _)).2.len
   rw[e2]at this;exact this
  rw[if_neg c2]at h
  by_cases c3:chr (skip wsB (u++v))=34
  .rw[if_pos c3]at h
   have e:skip wsB (u++v)=u++v:=congrArg (fun x=>x.2.1) h
   refine⟨e,?_⟩
   have e2:=congrArg (fun x=>x.2.2.1) h
   simp only at e2
   have:=((de ((skip wsB (u++v)).length+1) (nxt (skip wsB (u++v)))).trans (.nxt _)).len
   rw[e2,e]at this;exact this
  rw[if_neg c3]at h
  by_cases c4:chr (skip wsB (u++v))=47
  .rw[if_pos c4]at h
   by_cases c5:chr (nxt (skip wsB (u++v)))=47
   .rw[if_pos c5]at h
    exfalso
    have h1:=(cR (u++v).length (skip (fun c=>!(c == 10) && decide (0<=c)) (nxt (nxt (skip wsB (u++v)))))).1
    rw[h]at h1
    have:=hst (u++v) ((Rch.nxt _).trans ((aN dB _ _ (Nat.le_refl _)).2.trans h1))
    omega
   rw[if_neg c5]at h
   by_cases c6:chr (nxt (skip wsB (u++v)))=42
   .rw[if_pos c6]at h
    exfalso
    have h1:=(cR (u++v).length (bN ((skip wsB (u++v)).length+1) (nxt (nxt (skip wsB (u++v))))).1).1
    have e:(am (u++v).length (bN ((skip wsB (u++v)).length+1) (nxt (nxt (skip wsB (u++v))))).1).2.1=u++v:=congrArg (fun x=>x.2.1) h
    rw[e]at h1
    have:=hst (u++v) ((Rch.nxt _).trans ((cE _ _).trans h1))
    omega
   rw[if_neg c6]at h
   have e:skip wsB (u++v)=u++v:=congrArg (fun x=>x.2.1) h
   have e2:nxt (skip wsB (u++v))=v:=congrArg (fun x=>x.2.2.1) h
   exact⟨e,by rw[<- e,e2];exact Nat.le_refl _⟩
  rw[if_neg c4]at h
  have e:skip wsB (u++v)=u++v:=congrArg (fun x=>x.2.1) h
  refine⟨e,?_⟩
  have e2:(az (chr (skip wsB (u++v))) (nxt (skip wsB (u++v)))).2=v:=congrArg (fun x=>x.2.2.1) h
  have:=(ly (chr (skip wsB (u++v))) (nxt (skip wsB (u++v)))).len
  rw[e2,e]at this;exact this
 obtain⟨hskip,hlen⟩:=hskip
 obtain⟨e1,e2,e3,e4⟩:=bX hL hu hlen
 have hws:wsB (chr (u++v))=false:=by have:=hsr.1;rw[hskip]at this;exact this
 have hskip':skip wsB (u++v')=u++v':=bj cm (by rw[e1];exact hws)
 rw[hskip]at h c0
 rw[hskip',e1,if_neg c0]
 by_cases c1:bh (chr (u++v)) true=true
 .rw[if_pos c1]at h ⊢
  have h1:skip (bh · false) (nxt (u++v))=v:=congrArg (fun x=>x.2.2.1) h
  have h2:=congrArg (fun x=>x.1) h
  simp only at h2
  rw[e2]at h1
  have h3:=kZ (p:=(bh · false)) (by decide) (by decide) (by decide) hL _ _ (Nat.le_refl _) h1
  rw[e2,h1]at h2
  rw[e3,h3]
  have t1:(u++v).take ((u++v).length - v.length)=u:=by simp
  have t2:(u++v').take ((u++v').length - v'.length)=u:=by simp
  rw[t1]at h2
  rw[t2,h2]
 rw[if_neg c1]at h ⊢
 by_cases c2:decB (chr (u++v))=true
 .rw[if_pos c2]at h ⊢
  have h1:skip decB (u++v)=v:=congrArg (fun x=>x.2.2.1) h
  have h2:2=k:=congrArg (fun x=>x.1) h
  rw[kZ (p:=decB) (by decide) (by decide) (by decide) hL _ _ (Nat.le_refl _) h1,h2]
 rw[if_neg c2]at h ⊢
 by_cases c3:chr (u++v)=34
 .rw[if_pos c3]at h ⊢
  have h1:nxt (aI ((u++v).length+1) (nxt (u++v))).1=v:=congrArg (fun x=>x.2.2.1) h
  have h2:(aI ((u++v).length+1) (nxt (u++v))).2=true:=congrArg (fun x=>x.2.2.2) h
  have h3:4=k:=congrArg (fun x=>x.1) h
  have h4:=kY _ _ h2
  obtain⟨b,r,er,hb,en⟩:=cB (c:=34) (by decide) h4
  have hb':b=34:=UInt8.toNat_inj.1 (by rw[hb];rfl)
  subst hb'
  rw[en]at h1
  subst h1
  have h5:aI ((u++r).length+1) (u.drop (clen (u++r))++r)=(34::r,true):=by rw[<- e2];exact Prod.ext er h2
  have hne:u.drop (clen (u++r)) ≠ []:=by
   intro e
   have:=(de ((u++r).length+1) (u.drop (clen (u++r))++r)).len
   rw[h5,e]at this
   simp at this
   omega
  rw[e3,nM hL _ _ _ (by simp;omega) h5 hne,h3]
  simp only
  rw[(aK v' (b:=34) (by decide)).2.2]
 rw[if_neg c3]at h ⊢
 by_cases c4:chr (u++v)=47
 .rw[if_pos c4]at h ⊢
  have hl47:∀ d:Int,32 < d->chr (nxt (u++v)) ≠ d->nxt (u++v)=v->chr (nxt (u++v')) ≠ d:=by
   intro d hd hn he
   rw[e3]
   rw[e2]at he
   have:=congrArg List.length he
   simp only[List.length_append]at this
   have h0:u.drop (clen (u++v)) = []:=List.length_eq_zero_iff.1 (by omega)
   rw[h0]
   rw[e2,h0]at hn
   simp only[List.nil_append]at hn ⊢
   rcases hL.ch with e|e|e|e
   .rw[e];exact hn
   .rw[e];omega
   .rw[e];omega
   .rw[e];omega
  by_cases c5:chr (nxt (u++v))=47
  .rw[if_pos c5]at h
   exfalso
   have h1:=(cR (u++v).length (skip (fun c=>!(c == 10) && decide (0<=c)) (nxt (nxt (u++v))))).1
   rw[h]at h1
   have:=hst (u++v) (by rw[hskip];exact(Rch.nxt _).trans ((aN dB _ _ (Nat.le_refl _)).2.trans h1))
   omega
  rw[if_neg c5]at h
  by_cases c6:chr (nxt (u++v))=42
  .rw[if_pos c6]at h
   exfalso
   have h1:=(cR (u++v).length (bN ((u++v).length+1) (nxt (nxt (u++v)))).1).1
   have e:(am (u++v).length (bN ((u++v).length+1) (nxt (nxt (u++v)))).1).2.1=u++v:=congrArg (fun x=>x.2.1) h
   rw[e]at h1
   have:=hst (u++v) (by rw[hskip];exact(Rch.nxt _).trans ((cE _ _).trans h1))
   omega
  rw[if_neg c6]at h
  have h1:nxt (u++v)=v:=congrArg (fun x=>x.2.2.1) h
  have h2:6=k:=congrArg (fun x=>x.1) h
  rw[if_neg (hl47 47 (by decide) c5 h1),if_neg (hl47 42 (by decide) c6 h1),h2,e3]
  rw[e2]at h1
  have:=congrArg List.length h1
  simp only[List.length_append]at this
  rw[List.length_eq_zero_iff.1 (show(u.drop (clen (u++v))).length=0 by omega)]
  rfl
 rw[if_neg c4]at h ⊢
 have h1:(az (chr (u++v)) (nxt (u++v))).2=v:=congrArg (fun x=>x.2.2.1) h
 have h2:(az (chr (u++v)) (nxt (u++v))).1=k:=congrArg (fun x=>x.1) h
 rw[e2]at h1 h2
 have h3:=op_st hL (k:=k) (Prod.ext h2 h1)
 rw[e3,h3]
end Go.Proofs.YtbdhlpeckennjaaGreatDoor
