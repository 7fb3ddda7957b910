/- FnLong (the proof that the law returns true for every input), part 39 of 52; the last part says what is proved, and its condition. -/
import Derived.Test.YtbdhlpeckennjaaGreatDoorM38
set_option linter.unusedVariables false
set_option linter.unusedSimpArgs false
set_option maxHeartbeats 80000000
set_option maxRecDepth 1000000
namespace Go.Proofs.YtbdhlpeckennjaaGreatDoor
open Go Go.RowKit
def Bld (w:World)(B b:Nat)(l:List UInt8):Prop:=Lib.IsBuilderF 324 5 B b (Lib.byteCells l) w
theorem Bld.fr{w w':World}{B b:Nat}{l:List UInt8}(h:Bld w B b l)(hf:Fr (fun _=>False) w w'):Bld w' B b l:=by
 have key:∀ p,Lib.BuilderAtF 324 5 B b p (Lib.byteCells l) w->Lib.BuilderAtF 324 5 B b p (Lib.byteCells l) w':=by
  rintro p ⟨hB,v,hb,hown,hne⟩
  refine⟨hB,v,?_,⟨hown.1,?_⟩,hne⟩
  .rw[hf.block b (Array.getElem?_eq_some_iff.1 hb).1 id];exact hb
  .rcases hown.2 with h|⟨g,cap,cur,fz,e1,e2,e3,r⟩
   .exact .inl h
   .refine .inr ⟨g,cap,cur,fz,e1,e2,?_,r⟩
    rw[hf.block g (Array.getElem?_eq_some_iff.1 e3).1 id];exact e3
 exact h.imp (key _) (key _)
theorem Bld.new(w:World)(b:Nat)(hb:b=w.heap.size)(B:Nat)(hB:B<=w.heap.size):Bld (w.alloc (.cells #[.pointer none,.slice none 0 0] 324)) B b []:=by
 subst hb
 exact .inl ⟨hB,.slice none 0 0,heap_alloc_new w _,⟨rfl,.inl ⟨rfl,rfl⟩⟩,by simp[Value.ownBlock]⟩
theorem aW(w:World)(B b r:Nat)(l:List UInt8)(hr:r<=1114111)(h:Bld w B b l)(hl:l.length<=100000000)(hB:B<=w.heap.size) :
  Calls Tryz.prog 163 #[.pointer (some ⟨b,0,none⟩),.int .i32 r] w fun e w'=>(∃ n:Int,e = .returned (.tuple #[.int .i64 n,.nilIface]))/\Bld w' B b (l++Lib.encodeRune (r:Int))/\Fr (fun k=>B<=k) w w':=by
 refine(lU B b _ (r:Int) (by omega) (by omega) w h (by rw[Lib.byteCells_length];omega) hB).mono ?_
 rintro e w' ⟨h1,h2,h3⟩
 refine⟨h1,?_,Fr.of_below h3 (fun k _ h=>h)⟩
 unfold Bld
 rw[show Lib.byteCells (l++Lib.encodeRune (r:Int))=Lib.byteCells l++Lib.runeCells (r:Int)from by rw[<- Lib.byteCells_encodeRune];simp[Lib.byteCells]]
 exact h2
theorem cZ(w:World)(B b:Nat)(l:List UInt8)(h:Bld w B b l)(hB:B<=w.heap.size) :
  Calls Tryz.prog 162 #[.pointer (some ⟨b,0,none⟩)] w fun e w'=>e = .returned (.string ⟨l.toArray⟩)/\Fr (fun k=>B<=k) w w':=by
 refine(Tryz.Builder_String_any_f B b l w h hB).mono ?_
 rintro e w' ⟨h1,h2,h3⟩
 exact⟨h1,Fr.of_below h3 (fun k _ h=>h)⟩
theorem bo(r:Int):1<=(Lib.encodeRune r).length/\(Lib.encodeRune r).length<=4:=by rw[<- Lib.runeCells_length];exact Lib.runeCells_le r
def UQ (w:World)(g:Nat)(s:ByteArray)(r:Option (List UInt8 × Nat))(e:Ending)(w':World):Prop :=
 (match r with
  | some (l,j)=>∃ o c,e = .returned (.tuple #[.string ⟨l.toArray⟩,.slice (some ⟨g,o,none⟩) (s.size - j) c,.nilIface])/\s.size - j<=c/\BA w' g o (s.extract j s.size)
  | none=>∃ (t:TypeId) (u:Value),e = .returned (.tuple #[.string ⟨#[]⟩,.slice none 0 0,.iface t u]))/\New w w'
theorem BA.none{w:World}{g off:Nat}{s:ByteArray}(h:BA w g off s){i:Nat}(hi:s.size<=i):BA w g off (s.extract i s.size) :=
 ⟨h.1,fun j hj=>by rw[ByteArray.size_extract]at hj;omega⟩
theorem EV.bad{w w':World}{r:Option (Nat × Nat)}{e:Ending}(h:EV w r e w')(hr:r=none):(∃ (i:Int) (t:TypeId) (u:Value),e = .returned (.tuple #[.int .i32 0,.int .i64 i,.iface t u]))/\New w w':=by subst hr;exact h
theorem EV.good{w w':World}{r:Option (Nat × Nat)}{e:Ending}{c j:Nat}(h:EV w r e w')(hr:r=some (c,j)):e = .returned (.tuple #[.int .i32 c,.int .i64 j,.nilIface])/\New w w':=by subst hr;exact h
theorem gO{s:ByteArray}{i c j:Nat}(hi:i<=s.size)(h:bF s i=some (c,j)):c<=127/\i < j/\j<=s.size:=by
 unfold bF at h
 split at h
 .cases h
 .rename_i x hx
  split at h
  .cases h
  .rename_i y hy
   split at h
   .cases h
   .cases h
    have h1:=bp s i hi
    have h2:=bp s _ h1
    have h3:¬ (ah s i).1=65533:=fun e=>by rw[e]at hx;simp[cw]at hx
    have h4:=cn h3
    omega
theorem iT{s:ByteArray}:∀ {k i n r:Nat} {x:Nat × Nat × Nat},i<=s.size->ci s k i n r=some x->i<=x.2.2/\x.2.2<=s.size
 | 0,_,_,_,_,_,h=>by simp[ci]at h
 | k+1,i,n,r,x,hi,h=>by
  have h1:=bp s i hi
  simp only[ci]at h
  split at h
  .cases h
  .split at h
   .cases h;exact⟨by simp,h1⟩
   .split at h
    .cases h
    .have:=iT h1 h;omega
theorem gH{s:ByteArray}{i c j:Nat}(hi:i<=s.size)(h:bD s i=some (c,j)):c<=1114111/\i < j/\j<=s.size:=by
 unfold bD at h
 split at h
 .rename_i h0
  have h1:=bp s i hi
  have h4:=cn (s:=s) (i:=i) (by rw[h0];decide)
  split at h
  .cases h
  .rename_i r n k hx
   have h2:=iT h1 hx
   split at h
   .cases h
   .rename_i hc
    cases h
    have hv:Utf8.valid (c:Int)=true:=by
     cases hh:Utf8.valid (c:Int)with
     | true=>rfl
     | false=>exact absurd (.inr (.inr hh)) hc
    rw[iS]at hv
    unfold Lib.validRune at hv
    simp at hv
    simp at h2
    omega
 .cases h
theorem qP{n b0 b1 b2 b3:Nat}(h:¬ b0 < 128):128<=(Lib.decodeN n b0 b1 b2 b3).1:=by
 unfold Lib.decodeN
 rw[if_neg h]
 repeat' split
 all_goals first
  | decide
  | assumption
  |(rename_i hh;exact Nat.le_trans (by decide) hh.1)
theorem lf{s:ByteArray}{i:Nat}(h:(ah s i).1 < 128):(ah s i).2=1:=by
 unfold ah Lib.decodeGo at h ⊢
 split at h
 .exact absurd h (by decide)
 .rename_i h0
  rw[if_neg h0]
  rw[Lib.decode_at]at h ⊢
  by_cases hb:((s.extract i s.size).get! 0).toNat < 128
  .unfold Lib.decodeN;rw[if_pos hb]
  .exact absurd h (by have:=qP (n:=(s.extract i s.size).size - 0) (b1:=((s.extract i s.size).get! (0+1)).toNat) (b2:=((s.extract i s.size).get! (0+2)).toNat) (b3:=((s.extract i s.size).get! (0+3)).toNat) hb;omega)
def jA (s:ByteArray)(star:Bool)(k:Nat)(acc:List UInt8):Option (Nat × Nat)->Option (List UInt8 × Nat)
 | none=>none
 | some (r,j)=>aA s star k j (acc++Lib.encodeRune (r:Int))
theorem pm{s:ByteArray}{star:Bool}{k i:Nat}{acc:List UInt8}(h1:i < s.size)(h2:(ah s i).1=92):aA s star (k+1) i acc=jA s star k acc (cX s star (i+(ah s i).2)):=by
 simp only[aA,h1,if_true,h2]
 rw[if_neg (by decide),if_neg (by simp)]
 cases cX s star (i+(ah s i).2)with
 | none=>rfl
 | some x=>rfl
theorem ko(w:World)(g off cap:Nat)(s:ByteArray)(hcap:s.size<=cap)(hmax:s.size<=1000000)(hb:BA w g off s)(hg:Glob w) :
  Calls Tryz.prog 149 #[.slice (some ⟨g,off,none⟩) s.size cap,.bool false] w (UQ w g s (unq s false)):=by
 have T0:=hqZ (Fr.refl (fun _=>False) w)
 have HB:=hqZ hb
 have HG:=hqZ hg
 clear hb hg
 go_enter Tryz.func149,Tryz.ntmps149
 go_wp2_with fail
 go_loopg [10] (s.size+1) (fun k v wr=>∃ (i:Nat) (acc:List UInt8),v = .int .i64 (i:Int)/\aA s false k i acc=unq s false/\i<=s.size/\s.size+1<=k+i/\acc.length<=4 * i/\Fr (fun _=>False) w wr/\Bld wr w.heap.size w.heap.size acc)
 case atStart=>exact⟨0,[],rfl,rfl,by omega,by omega,by simp,by exact(T0.out.alloc _),Bld.new w _ rfl _ (Nat.le_refl _)⟩
 case round =>
  obtain⟨i,acc,rfl,e1,hi,hk,hal,hf,hbl⟩:=hrel
  (clear T0;have H0:=hqZ hf;have xs0:=Fr.size H0.out;clear hf)
  have E0:=hqZ e1
  clear e1
  obtain⟨k,rfl⟩:∃ k,gk=k+1:=⟨gk - 1,by omega⟩
  cases qs:decide ((i:Int) < (s.size:Int))
  case false =>
   have qs':¬ i < s.size:=by simp at qs;omega
   have ER:=hqZ (show unq s false=some (acc,i)from by rw[<- E0.out];simp[aA,qs'])
   go_wp2_with fail
   by_cases hci:cap=i
   case pos =>
    go_region_with (go_at_call 162;refine(cZ _ w.heap.size w.heap.size acc (hbl.fr (by repeat' (with_reducible(first|exact Fr.refl _ _|apply Fr.drew|apply Fr.alloc)))) (by(try simp only[ae]);omega)).mono ?_;rintro e v5 ⟨rfl,hf⟩;(have xs1:=Fr.size hf;simp only[aa,ae,ad,af]at xs1;have T0:=hqZ (Fr.trans' H0.out.drew hf (fun k hk hs=>by omega));clear H0;clear hf))
    all_goals
     try go_wp2
     refine bodyPost_ret (v:=(.tuple #[.string ⟨acc.toArray⟩,.slice (some ⟨g,off,none⟩) (s.size - i) (cap - i),.nilIface])) (by simp only[results,Tryz.results149];go_simp) rfl ?_
     rw[ER.out]
     exact⟨⟨_,_,rfl,by omega,BA.fr (S:=fun _=>False) (HB.out.none (by omega)) (by exact T0.out) id⟩,by exact T0.out⟩
   go_region_with (go_at_call 162;refine(cZ _ w.heap.size w.heap.size acc (hbl.fr (by repeat' (with_reducible(first|exact Fr.refl _ _|apply Fr.drew|apply Fr.alloc)))) (by(try simp only[ae]);omega)).mono ?_;rintro e v5 ⟨rfl,hf⟩;(have xs1:=Fr.size hf;simp only[aa,ae,ad,af]at xs1;have T0:=hqZ (Fr.trans' H0.out.drew hf (fun k hk hs=>by omega));clear H0;clear hf))
   all_goals
    try go_wp2
    refine bodyPost_ret (v:=(.tuple #[.string ⟨acc.toArray⟩,.slice (some ⟨g,off+i,none⟩) (s.size - i) (cap - i),.nilIface])) (by simp only[results,Tryz.results149];go_simp) rfl ?_
    rw[ER.out]
    exact⟨⟨_,_,rfl,by omega,BA.fr (S:=fun _=>False) (HB.out.drop (by omega)) (by exact T0.out) id⟩,by exact T0.out⟩
  have qs':i < s.size:=by simp at qs;omega
  by_cases q1:(ah s i).1=65533
  case pos =>
   have ER:=hqZ (show unq s false=none from(by rw[<- E0.out];simp[aA,qs',q1]))
   (go_wp2_with fail;refine(Calls.mono (aM _ g off cap s i hi hcap hmax (BA.fr (S:=fun _=>False) HB.out (by exact H0.out) id) (HG.out.frN (by exact H0.out))) fun _ _ h=>NR.bad h q1).mono ?_;rintro e v ⟨⟨t,u,rfl⟩,hf⟩;(have xs1:=Fr.size hf;have T0:=hqZ (Fr.transN H0.out hf);clear H0;clear hf))
   go_wp2
   refine bodyPost_ret (v:=(.tuple #[.string ⟨#[]⟩,.slice none 0 0,.iface t u])) (by simp only[results,Tryz.results149];go_simp) rfl ?_
   rw[ER.out]
   exact⟨⟨_,_,rfl⟩,by exact T0.out⟩
  (go_wp2_with fail;refine(Calls.mono (aM _ g off cap s i hi hcap hmax (BA.fr (S:=fun _=>False) HB.out (by exact H0.out) id) (HG.out.frN (by exact H0.out))) fun _ _ h=>NR.good h q1).mono ?_;rintro e w2 ⟨rfl,hf⟩;have hbl:=hbl.fr hf;(have xs1:=Fr.size hf;have T0:=hqZ (Fr.transN H0.out hf);clear H0;clear hf))
  have HP:=cn q1
  have HL:=bp s i hi
  cases qb:(((ah s i).1:Int) == 92)
  case false =>
   have qb':¬ (ah s i).1=92:=by simp at qb;omega
   have E2:=hqZ (show aA s false k (i+(ah s i).2) (acc++Lib.encodeRune ((ah s i).1:Int))=unq s false from by rw[<- E0.out];simp[aA,qs',q1,qb'])
   (go_wp2_with fail;refine(aW _ w.heap.size w.heap.size (ah s i).1 acc (cL s i) hbl (by omega) (by omega)).mono ?_;rintro e v5 ⟨⟨n,rfl⟩,hbl,hf⟩;(have xs3:=Fr.size hf;have T1:=hqZ (Fr.trans' T0.out hf (fun k hk hs=>by omega));clear T0;clear hf))
   go_wp2
   go_roundg k
   case measure=>omega
   case rel =>
    have HN:=bo ((ah s i).1:Int)
    exact⟨(i+(ah s i).2),acc++Lib.encodeRune ((ah s i).1:Int),by push_cast;rfl,E2.out,HL,by omega,by rw[List.length_append];omega,by exact T1.out,hbl⟩
  have qb':(ah s i).1=92:=by simp at qb;omega
  clear qb
  have E1:=hqZ (show jA s false k acc (cX s false (i+(ah s i).2))=unq s false from by rw[<- E0.out];exact(pm qs' qb').symm)
  by_cases q2:(ah s (i+(ah s i).2)).1=65533
  case pos =>
   have ER:=hqZ (show unq s false=none from(by rw[<- E1.out];simp[cX,q2,jA]))
   (go_wp2_with fail;refine(Calls.mono (aM _ g off cap s (i+(ah s i).2) HL hcap hmax (BA.fr (S:=fun _=>False) HB.out (by exact T0.out) id) (HG.out.frN (by exact T0.out))) fun _ _ h=>NR.bad h q2).mono ?_;rintro e v ⟨⟨t,u,rfl⟩,hf⟩;(have xs3:=Fr.size hf;have T1:=hqZ (Fr.transN T0.out hf);clear T0;clear hf))
   go_wp2
   refine bodyPost_ret (v:=(.tuple #[.string ⟨#[]⟩,.slice none 0 0,.iface t u])) (by simp only[results,Tryz.results149];go_simp) rfl ?_
   rw[ER.out]
   exact⟨⟨_,_,rfl⟩,by exact T1.out⟩
  (go_wp2_with fail;refine(Calls.mono (aM _ g off cap s (i+(ah s i).2) HL hcap hmax (BA.fr (S:=fun _=>False) HB.out (by exact T0.out) id) (HG.out.frN (by exact T0.out))) fun _ _ h=>NR.good h q2).mono ?_;rintro e w3 ⟨rfl,hf⟩;have hbl:=hbl.fr hf;(have xs3:=Fr.size hf;have T1:=hqZ (Fr.transN T0.out hf);clear T0;clear hf))
  have HP2:=cn q2
  have HL2:=bp s _ HL
  have HM2:=cL s (i+(ah s i).2)
  obtain⟨i2,hi2⟩:∃ x,x=i+(ah s i).2:=⟨_,rfl⟩
  have hij:i < i2:=by omega
  rw[<- hi2]at E1 q2 HP2 HL2 HM2 HL ⊢
  clear hi2 HP q1 qb'
  obtain⟨c2,hc2⟩:∃ x,x=ah s i2:=⟨_,rfl⟩
  have E1:=hqZ (show ∀ x,cX s false i2=x->jA s false k acc x=unq s false from fun x e=>by rw[<- e];exact E1.out)
  have EA:=hqZ (show cX s false i2=if c2.1=65533 then none else match bm c2.1 with
   | some r=>some (r,i2+c2.2)
   | none=>if c2.1=120 then bF s (i2+c2.2)else if c2.1=117 then bD s (i2+c2.2)else if c2.1=42/\false=true then some (42,i2+c2.2)else none from by rw[hc2];rfl)
  rw[<- hc2]at q2 HP2 HL2 HM2 ⊢
  clear hc2
  cases z110:((c2.1:Int) == 110)
  case true =>
   have y:c2.1=110:=by simp at z110;omega
   have E2:=hqZ (show aA s false k (i2+c2.2) (acc++Lib.encodeRune ((10:Nat):Int))=unq s false from E1.out (some (10,i2+c2.2)) (by rw[EA.out];simp[y,bm]))
   (go_wp2_with fail;refine(aW _ w.heap.size w.heap.size (10:Nat) acc (by decide) hbl (by omega) (by omega)).mono ?_;rintro e v5 ⟨⟨n,rfl⟩,hbl,hf⟩;(have xs5:=Fr.size hf;have T0:=hqZ (Fr.trans' T1.out hf (fun k hk hs=>by omega));clear T1;clear hf))
   go_wp2
   go_roundg k
   case measure=>omega
   case rel =>
    have HN:=bo ((10:Nat):Int)
    exact⟨(i2+c2.2),acc++Lib.encodeRune ((10:Nat):Int),by push_cast;rfl,E2.out,HL2,by omega,by rw[List.length_append];omega,by exact T0.out,hbl⟩
  have y110:¬ c2.1=110:=by simp at z110;omega
  cases z114:((c2.1:Int) == 114)
  case true =>
   have y:c2.1=114:=by simp at z114;omega
   have E2:=hqZ (show aA s false k (i2+c2.2) (acc++Lib.encodeRune ((13:Nat):Int))=unq s false from E1.out (some (13,i2+c2.2)) (by rw[EA.out];simp[y,bm]))
   (go_wp2_with fail;refine(aW _ w.heap.size w.heap.size (13:Nat) acc (by decide) hbl (by omega) (by omega)).mono ?_;rintro e v5 ⟨⟨n,rfl⟩,hbl,hf⟩;(have xs5:=Fr.size hf;have T0:=hqZ (Fr.trans' T1.out hf (fun k hk hs=>by omega));clear T1;clear hf))
   go_wp2
   go_roundg k
   case measure=>omega
   case rel =>
    have HN:=bo ((13:Nat):Int)
    exact⟨(i2+c2.2),acc++Lib.encodeRune ((13:Nat):Int),by push_cast;rfl,E2.out,HL2,by omega,by rw[List.length_append];omega,by exact T0.out,hbl⟩
  have y114:¬ c2.1=114:=by simp at z114;omega
  cases z116:((c2.1:Int) == 116)
  case true =>
   have y:c2.1=116:=by simp at z116;omega
   have E2:=hqZ (show aA s false k (i2+c2.2) (acc++Lib.encodeRune ((9:Nat):Int))=unq s false from E1.out (some (9,i2+c2.2)) (by rw[EA.out];simp[y,bm]))
   (go_wp2_with fail;refine(aW _ w.heap.size w.heap.size (9:Nat) acc (by decide) hbl (by omega) (by omega)).mono ?_;rintro e v5 ⟨⟨n,rfl⟩,hbl,hf⟩;(have xs5:=Fr.size hf;have T0:=hqZ (Fr.trans' T1.out hf (fun k hk hs=>by omega));clear T1;clear hf))
   go_wp2
   go_roundg k
   case measure=>omega
   case rel =>
    have HN:=bo ((9:Nat):Int)
    exact⟨(i2+c2.2),acc++Lib.encodeRune ((9:Nat):Int),by push_cast;rfl,E2.out,HL2,by omega,by rw[List.length_append];omega,by exact T0.out,hbl⟩
  have y116:¬ c2.1=116:=by simp at z116;omega
  cases z92:((c2.1:Int) == 92)
  case true =>
   have y:c2.1=92:=by simp at z92;omega
   have E2:=hqZ (show aA s false k (i2+c2.2) (acc++Lib.encodeRune ((92:Nat):Int))=unq s false from E1.out (some (92,i2+c2.2)) (by rw[EA.out];simp[y,bm]))
   (go_wp2_with fail;refine(aW _ w.heap.size w.heap.size (92:Nat) acc (by decide) hbl (by omega) (by omega)).mono ?_;rintro e v5 ⟨⟨n,rfl⟩,hbl,hf⟩;(have xs5:=Fr.size hf;have T0:=hqZ (Fr.trans' T1.out hf (fun k hk hs=>by omega));clear T1;clear hf))
   go_wp2
   go_roundg k
   case measure=>omega
   case rel =>
    have HN:=bo ((92:Nat):Int)
    exact⟨(i2+c2.2),acc++Lib.encodeRune ((92:Nat):Int),by push_cast;rfl,E2.out,HL2,by omega,by rw[List.length_append];omega,by exact T0.out,hbl⟩
  have y92:¬ c2.1=92:=by simp at z92;omega
  cases z48:((c2.1:Int) == 48)
  case true =>
   have y:c2.1=48:=by simp at z48;omega
   have E2:=hqZ (show aA s false k (i2+c2.2) (acc++Lib.encodeRune ((0:Nat):Int))=unq s false from E1.out (some (0,i2+c2.2)) (by rw[EA.out];simp[y,bm]))
   (go_wp2_with fail;refine(aW _ w.heap.size w.heap.size (0:Nat) acc (by decide) hbl (by omega) (by omega)).mono ?_;rintro e v5 ⟨⟨n,rfl⟩,hbl,hf⟩;(have xs5:=Fr.size hf;have T0:=hqZ (Fr.trans' T1.out hf (fun k hk hs=>by omega));clear T1;clear hf))
   go_wp2
   go_roundg k
   case measure=>omega
   case rel =>
    have HN:=bo ((0:Nat):Int)
    exact⟨(i2+c2.2),acc++Lib.encodeRune ((0:Nat):Int),by push_cast;rfl,E2.out,HL2,by omega,by rw[List.length_append];omega,by exact T0.out,hbl⟩
  have y48:¬ c2.1=48:=by simp at z48;omega
  cases z39:((c2.1:Int) == 39)
  case true =>
   have y:c2.1=39:=by simp at z39;omega
   have E2:=hqZ (show aA s false k (i2+c2.2) (acc++Lib.encodeRune ((39:Nat):Int))=unq s false from E1.out (some (39,i2+c2.2)) (by rw[EA.out];simp[y,bm]))
   (go_wp2_with fail;refine(aW _ w.heap.size w.heap.size (39:Nat) acc (by decide) hbl (by omega) (by omega)).mono ?_;rintro e v5 ⟨⟨n,rfl⟩,hbl,hf⟩;(have xs5:=Fr.size hf;have T0:=hqZ (Fr.trans' T1.out hf (fun k hk hs=>by omega));clear T1;clear hf))
   go_wp2
   go_roundg k
   case measure=>omega
   case rel =>
    have HN:=bo ((39:Nat):Int)
    exact⟨(i2+c2.2),acc++Lib.encodeRune ((39:Nat):Int),by push_cast;rfl,E2.out,HL2,by omega,by rw[List.length_append];omega,by exact T0.out,hbl⟩
  have y39:¬ c2.1=39:=by simp at z39;omega
  cases z34:((c2.1:Int) == 34)
  case true =>
   have y:c2.1=34:=by simp at z34;omega
   have E2:=hqZ (show aA s false k (i2+c2.2) (acc++Lib.encodeRune ((34:Nat):Int))=unq s false from E1.out (some (34,i2+c2.2)) (by rw[EA.out];simp[y,bm]))
   (go_wp2_with fail;refine(aW _ w.heap.size w.heap.size (34:Nat) acc (by decide) hbl (by omega) (by omega)).mono ?_;rintro e v5 ⟨⟨n,rfl⟩,hbl,hf⟩;(have xs5:=Fr.size hf;have T0:=hqZ (Fr.trans' T1.out hf (fun k hk hs=>by omega));clear T1;clear hf))
   go_wp2
   go_roundg k
   case measure=>omega
   case rel =>
    have HN:=bo ((34:Nat):Int)
    exact⟨(i2+c2.2),acc++Lib.encodeRune ((34:Nat):Int),by push_cast;rfl,E2.out,HL2,by omega,by rw[List.length_append];omega,by exact T0.out,hbl⟩
  have y34:¬ c2.1=34:=by simp at z34;omega
  have EB:=hqZ (show cX s false i2=if c2.1=120 then bF s (i2+c2.2)else if c2.1=117 then bD s (i2+c2.2)else if c2.1=42/\false=true then some (42,i2+c2.2)else none from by rw[EA.out];simp[bm,q2,y110,y114,y116,y92,y48,y39,y34])
  clear EA
  cases z120:((c2.1:Int) == 120)
  case true =>
   have y:c2.1=120:=by simp at z120;omega
   cases hx:bF s (i2+c2.2)with
   | none =>
    have ER:=hqZ (show unq s false=none from(E1.out none (by rw[EB.out];simp[y,hx])).symm)
    (go_wp2_with fail;refine(Calls.mono (eD _ g off cap s (i2+c2.2) HL2 hcap hmax (BA.fr (S:=fun _=>False) HB.out (by exact T1.out) id) (HG.out.frN (by exact T1.out))) fun _ _ h=>EV.bad h hx).mono ?_;rintro e v ⟨⟨z,t,u,rfl⟩,hf⟩;(have xs5:=Fr.size hf;have T0:=hqZ (Fr.transN T1.out hf);clear T1;clear hf))
    go_wp2
    refine bodyPost_ret (v:=(.tuple #[.string ⟨#[]⟩,.slice none 0 0,.iface t u])) (by simp only[results,Tryz.results149];go_simp) rfl ?_
    rw[ER.out]
    exact⟨⟨_,_,rfl⟩,by exact T0.out⟩
   | some x =>
    obtain⟨c,j⟩:=x
    have hle:=gO HL2 hx
    have E2:=hqZ (show aA s false k j (acc++Lib.encodeRune (c:Int))=unq s false from E1.out (some (c,j)) (by rw[EB.out];simp[y,hx]))
    (go_wp2_with fail;refine(Calls.mono (eD _ g off cap s (i2+c2.2) HL2 hcap hmax (BA.fr (S:=fun _=>False) HB.out (by exact T1.out) id) (HG.out.frN (by exact T1.out))) fun _ _ h=>EV.good h hx).mono ?_;rintro e w4 ⟨rfl,hf⟩;have hbl:=hbl.fr hf;(have xs5:=Fr.size hf;have T0:=hqZ (Fr.transN T1.out hf);clear T1;clear hf))
    clear hx
    (go_wp2_with fail;refine(aW _ w.heap.size w.heap.size c acc (by omega) hbl (by omega) (by omega)).mono ?_;rintro e v5 ⟨⟨n,rfl⟩,hbl,hf⟩;(have xs7:=Fr.size hf;have T1:=hqZ (Fr.trans' T0.out hf (fun k hk hs=>by omega));clear T0;clear hf))
    go_wp2
    go_roundg k
    case measure=>omega
    case rel =>
     have HN:=bo (c:Int)
     exact⟨j,acc++Lib.encodeRune (c:Int),by push_cast;rfl,E2.out,hle.2.2,by omega,by rw[List.length_append];omega,by exact T1.out,hbl⟩
  have y120:¬ c2.1=120:=by simp at z120;omega
  cases z117:((c2.1:Int) == 117)
  case true =>
   have y:c2.1=117:=by simp at z117;omega
   cases hx:bD s (i2+c2.2)with
   | none =>
    have ER:=hqZ (show unq s false=none from(E1.out none (by rw[EB.out];simp[y,hx])).symm)
    (go_wp2_with fail;refine(Calls.mono (ej _ g off cap s (i2+c2.2) HL2 hcap hmax (BA.fr (S:=fun _=>False) HB.out (by exact T1.out) id) (HG.out.frN (by exact T1.out))) fun _ _ h=>EV.bad h hx).mono ?_;rintro e v ⟨⟨z,t,u,rfl⟩,hf⟩;(have xs5:=Fr.size hf;have T0:=hqZ (Fr.transN T1.out hf);clear T1;clear hf))
    go_wp2
    refine bodyPost_ret (v:=(.tuple #[.string ⟨#[]⟩,.slice none 0 0,.iface t u])) (by simp only[results,Tryz.results149];go_simp) rfl ?_
    rw[ER.out]
    exact⟨⟨_,_,rfl⟩,by exact T0.out⟩
   | some x =>
    obtain⟨c,j⟩:=x
    have hle:=gH HL2 hx
    have E2:=hqZ (show aA s false k j (acc++Lib.encodeRune (c:Int))=unq s false from E1.out (some (c,j)) (by rw[EB.out];simp[y,hx]))
    (go_wp2_with fail;refine(Calls.mono (ej _ g off cap s (i2+c2.2) HL2 hcap hmax (BA.fr (S:=fun _=>False) HB.out (by exact T1.out) id) (HG.out.frN (by exact T1.out))) fun _ _ h=>EV.good h hx).mono ?_;rintro e w4 ⟨rfl,hf⟩;have hbl:=hbl.fr hf;(have xs5:=Fr.size hf;have T0:=hqZ (Fr.transN T1.out hf);clear T1;clear hf))
    clear hx
    (go_wp2_with fail;refine(aW _ w.heap.size w.heap.size c acc (hle.1) hbl (by omega) (by omega)).mono ?_;rintro e v5 ⟨⟨n,rfl⟩,hbl,hf⟩;(have xs7:=Fr.size hf;have T1:=hqZ (Fr.trans' T0.out hf (fun k hk hs=>by omega));clear T0;clear hf))
    go_wp2
    go_roundg k
    case measure=>omega
    case rel =>
     have HN:=bo (c:Int)
     exact⟨j,acc++Lib.encodeRune (c:Int),by push_cast;rfl,E2.out,hle.2.2,by omega,by rw[List.length_append];omega,by exact T1.out,hbl⟩
  have y117:¬ c2.1=117:=by simp at z117;omega
  cases z42:((c2.1:Int) == 42)
  case false =>
   have y:¬ c2.1=42:=by simp at z42;omega
   have ER:=hqZ (show unq s false=none from(E1.out none (by rw[EB.out];simp[y120,y117,y])).symm)
   (go_wp2_with fail;refine(bv _ _).mono ?_;rintro e v ⟨⟨t,u,rfl⟩,hf⟩;(have xs5:=Fr.size hf;have T0:=hqZ (Fr.transN T1.out hf);clear T1;clear hf))
   go_wp2
   refine bodyPost_ret (v:=(.tuple #[.string ⟨#[]⟩,.slice none 0 0,.iface t u])) (by simp only[results,Tryz.results149];go_simp) rfl ?_
   rw[ER.out]
   exact⟨⟨_,_,rfl⟩,by exact T0.out⟩
  have y:c2.1=42:=by simp at z42;omega
  have ER:=hqZ (show unq s false=none from(E1.out none (by rw[EB.out];simp[y])).symm)
  (go_wp2_with fail;refine(bv _ _).mono ?_;rintro e v ⟨⟨t,u,rfl⟩,hf⟩;(have xs5:=Fr.size hf;have T0:=hqZ (Fr.transN T1.out hf);clear T1;clear hf))
  go_wp2
  refine bodyPost_ret (v:=(.tuple #[.string ⟨#[]⟩,.slice none 0 0,.iface t u])) (by simp only[results,Tryz.results149];go_simp) rfl ?_
  rw[ER.out]
  exact⟨⟨_,_,rfl⟩,by exact T0.out⟩
end Go.Proofs.YtbdhlpeckennjaaGreatDoor
