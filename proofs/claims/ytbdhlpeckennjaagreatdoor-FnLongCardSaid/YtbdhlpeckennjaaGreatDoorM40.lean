/- FnLong (the proof that the law returns true for every input), part 40 of 52; the last part says what is proved, and its condition. -/
import Derived.Shelf.LaysC
import Derived.Shelf.Strconv.ErrVarParseInt
import Derived.Test.YtbdhlpeckennjaaGreatDoorProg
import Derived.Test.YtbdhlpeckennjaaGreatDoorM11
import Derived.Test.YtbdhlpeckennjaaGreatDoorM22
import Derived.Test.YtbdhlpeckennjaaGreatDoorM23
import Derived.Test.YtbdhlpeckennjaaGreatDoorM33
import Derived.Test.YtbdhlpeckennjaaGreatDoorM39
set_option linter.unusedVariables false
set_option linter.unusedSimpArgs false
set_option maxHeartbeats 80000000
set_option maxRecDepth 1000000
namespace Go.Proofs.YtbdhlpeckennjaaGreatDoor
open Go Go.RowKit
theorem lY(w:World)(g off cap:Nat)(s:ByteArray)(hcap:s.size<=cap)(hmax:s.size<=1000000)(hb:BA w g off s)(hg:Glob w) :
  Calls Tryz.prog 149 #[.slice (some ⟨g,off,none⟩) s.size cap,.bool true] w (UQ w g s (unq s true)):=by
 have T0:=hqZ (Fr.refl (fun _=>False) w)
 have HB:=hqZ hb
 have HG:=hqZ hg
 clear hb hg
 go_enter Tryz.func149,Tryz.ntmps149
 go_wp2_with fail
 go_loopg [10] (s.size+1) (fun k v wr=>∃ (i:Nat) (acc:List UInt8),v = .int .i64 (i:Int)/\aA s true k i acc=unq s true/\i<=s.size/\s.size+1<=k+i/\acc.length<=4 * i/\Fr (fun _=>False) w wr/\Bld wr w.heap.size w.heap.size acc)
 case atStart=>exact⟨0,[],rfl,rfl,by omega,by omega,by simp,by exact(T0.out.alloc _),Bld.new w _ rfl _ (Nat.le_refl _)⟩
 case round =>
  obtain⟨i,acc,rfl,e1,hi,hk,hal,hf,hbl⟩:=hrel
  (clear T0;have H0:=hqZ hf;have xs0:=Fr.size H0.out;clear hf)
  have E0:=hqZ e1
  clear e1
  obtain⟨k,rfl⟩:∃ k,gk=k+1:=⟨gk - 1,by omega⟩
  cases qs:decide ((i:Int) < (s.size:Int))
  case false =>
   have qs':¬ i < s.size:=by simp at qs;omega
   have ER:=hqZ (show unq s true=some (acc,i)from by rw[<- E0.out];simp[aA,qs'])
   go_wp2_with fail
   by_cases hci:cap=i
   case pos =>
    go_region_with (go_at_call 162;refine(cZ _ w.heap.size w.heap.size acc (hbl.fr (by repeat' (with_reducible(first|exact Fr.refl _ _|apply Fr.drew|apply Fr.alloc)))) (by(try simp only[ae]);omega)).mono ?_;rintro e v5 ⟨rfl,hf⟩;(have xs1:=Fr.size hf;simp only[aa,ae,ad,af]at xs1;have T0:=hqZ (Fr.trans' H0.out.drew hf (fun k hk hs=>by omega));clear H0;clear hf))
    all_goals
     try go_wp2
     refine bodyPost_ret (v:=(.tuple #[.string ⟨acc.toArray⟩,.slice (some ⟨g,off,none⟩) (s.size - i) (cap - i),.nilIface])) (by simp only[results,Tryz.results149];go_simp) rfl ?_
     rw[ER.out]
     exact⟨⟨_,_,rfl,by omega,BA.fr (S:=fun _=>False) (HB.out.none (by omega)) (by exact T0.out) id⟩,by exact T0.out⟩
   go_region_with (go_at_call 162;refine(cZ _ w.heap.size w.heap.size acc (hbl.fr (by repeat' (with_reducible(first|exact Fr.refl _ _|apply Fr.drew|apply Fr.alloc)))) (by(try simp only[ae]);omega)).mono ?_;rintro e v5 ⟨rfl,hf⟩;(have xs1:=Fr.size hf;simp only[aa,ae,ad,af]at xs1;have T0:=hqZ (Fr.trans' H0.out.drew hf (fun k hk hs=>by omega));clear H0;clear hf))
   all_goals
    try go_wp2
    refine bodyPost_ret (v:=(.tuple #[.string ⟨acc.toArray⟩,.slice (some ⟨g,off+i,none⟩) (s.size - i) (cap - i),.nilIface])) (by simp only[results,Tryz.results149];go_simp) rfl ?_
    rw[ER.out]
    exact⟨⟨_,_,rfl,by omega,BA.fr (S:=fun _=>False) (HB.out.drop (by omega)) (by exact T0.out) id⟩,by exact T0.out⟩
  have qs':i < s.size:=by simp at qs;omega
  by_cases q1:(ah s i).1=65533
  case pos =>
   have ER:=hqZ (show unq s true=none from(by rw[<- E0.out];simp[aA,qs',q1]))
   (go_wp2_with fail;refine(Calls.mono (aM _ g off cap s i hi hcap hmax (BA.fr (S:=fun _=>False) HB.out (by exact H0.out) id) (HG.out.frN (by exact H0.out))) fun _ _ h=>NR.bad h q1).mono ?_;rintro e v ⟨⟨t,u,rfl⟩,hf⟩;(have xs1:=Fr.size hf;have T0:=hqZ (Fr.transN H0.out hf);clear H0;clear hf))
   go_wp2
   refine bodyPost_ret (v:=(.tuple #[.string ⟨#[]⟩,.slice none 0 0,.iface t u])) (by simp only[results,Tryz.results149];go_simp) rfl ?_
   rw[ER.out]
   exact⟨⟨_,_,rfl⟩,by exact T0.out⟩
  (go_wp2_with fail;refine(Calls.mono (aM _ g off cap s i hi hcap hmax (BA.fr (S:=fun _=>False) HB.out (by exact H0.out) id) (HG.out.frN (by exact H0.out))) fun _ _ h=>NR.good h q1).mono ?_;rintro e w2 ⟨rfl,hf⟩;have hbl:=hbl.fr hf;(have xs1:=Fr.size hf;have T0:=hqZ (Fr.transN H0.out hf);clear H0;clear hf))
  have HP:=cn q1
  have HL:=bp s i hi
  cases qa:(((ah s i).1:Int) == 42)
  case true =>
   have qa':(ah s i).1=42:=by simp at qa;omega
   have w1:(ah s i).2=1:=lf (by rw[qa'];decide)
   have ER:=hqZ (show unq s true=some (acc,i)from by rw[<- E0.out];simp[aA,qs',q1,qa'])
   have hw:IntKind.i64.wrap ((i:Int)+((ah s i).2:Int) - 1)=(i:Int):=(IntWalk.i64_in _ (by omega)).trans (by omega)
   go_wp2_with fail
   by_cases hci:cap=i
   case pos =>
    go_region_with (go_at_call 162;refine(cZ _ w.heap.size w.heap.size acc (hbl.fr (by repeat' (with_reducible(first|exact Fr.refl _ _|apply Fr.drew|apply Fr.alloc)))) (by(try simp only[ae]);omega)).mono ?_;rintro e v5 ⟨rfl,hf⟩;(have xs3:=Fr.size hf;simp only[aa,ae,ad,af]at xs3;have T1:=hqZ (Fr.trans' T0.out.drew hf (fun k hk hs=>by omega));clear T0;clear hf))
    all_goals
     try go_wp2
     refine bodyPost_ret (v:=(.tuple #[.string ⟨acc.toArray⟩,.slice (some ⟨g,off,none⟩) (s.size - i) (cap - i),.nilIface])) (by simp only[results,Tryz.results149];go_simp) rfl ?_
     rw[ER.out]
     exact⟨⟨_,_,rfl,by omega,BA.fr (S:=fun _=>False) (HB.out.none (by omega)) (by exact T1.out) id⟩,by exact T1.out⟩
   go_region_with (go_at_call 162;refine(cZ _ w.heap.size w.heap.size acc (hbl.fr (by repeat' (with_reducible(first|exact Fr.refl _ _|apply Fr.drew|apply Fr.alloc)))) (by(try simp only[ae]);omega)).mono ?_;rintro e v5 ⟨rfl,hf⟩;(have xs3:=Fr.size hf;simp only[aa,ae,ad,af]at xs3;have T1:=hqZ (Fr.trans' T0.out.drew hf (fun k hk hs=>by omega));clear T0;clear hf))
   all_goals
    try go_wp2
    refine bodyPost_ret (v:=(.tuple #[.string ⟨acc.toArray⟩,.slice (some ⟨g,off+i,none⟩) (s.size - i) (cap - i),.nilIface])) (by simp only[results,Tryz.results149];go_simp) rfl ?_
    rw[ER.out]
    exact⟨⟨_,_,rfl,by omega,BA.fr (S:=fun _=>False) (HB.out.drop (by omega)) (by exact T1.out) id⟩,by exact T1.out⟩
  have qa':¬ (ah s i).1=42:=by simp at qa;omega
  cases qb:(((ah s i).1:Int) == 92)
  case false =>
   have qb':¬ (ah s i).1=92:=by simp at qb;omega
   have E2:=hqZ (show aA s true k (i+(ah s i).2) (acc++Lib.encodeRune ((ah s i).1:Int))=unq s true from by rw[<- E0.out];simp[aA,qs',q1,qa',qb'])
   (go_wp2_with fail;refine(aW _ w.heap.size w.heap.size (ah s i).1 acc (cL s i) hbl (by omega) (by omega)).mono ?_;rintro e v5 ⟨⟨n,rfl⟩,hbl,hf⟩;(have xs3:=Fr.size hf;have T1:=hqZ (Fr.trans' T0.out hf (fun k hk hs=>by omega));clear T0;clear hf))
   go_wp2
   go_roundg k
   case measure=>omega
   case rel =>
    have HN:=bo ((ah s i).1:Int)
    exact⟨(i+(ah s i).2),acc++Lib.encodeRune ((ah s i).1:Int),by push_cast;rfl,E2.out,HL,by omega,by rw[List.length_append];omega,by exact T1.out,hbl⟩
  have qb':(ah s i).1=92:=by simp at qb;omega
  clear qb
  have E1:=hqZ (show jA s true k acc (cX s true (i+(ah s i).2))=unq s true from by rw[<- E0.out];exact(pm qs' qb').symm)
  by_cases q2:(ah s (i+(ah s i).2)).1=65533
  case pos =>
   have ER:=hqZ (show unq s true=none from(by rw[<- E1.out];simp[cX,q2,jA]))
   (go_wp2_with fail;refine(Calls.mono (aM _ g off cap s (i+(ah s i).2) HL hcap hmax (BA.fr (S:=fun _=>False) HB.out (by exact T0.out) id) (HG.out.frN (by exact T0.out))) fun _ _ h=>NR.bad h q2).mono ?_;rintro e v ⟨⟨t,u,rfl⟩,hf⟩;(have xs3:=Fr.size hf;have T1:=hqZ (Fr.transN T0.out hf);clear T0;clear hf))
   go_wp2
   refine bodyPost_ret (v:=(.tuple #[.string ⟨#[]⟩,.slice none 0 0,.iface t u])) (by simp only[results,Tryz.results149];go_simp) rfl ?_
   rw[ER.out]
   exact⟨⟨_,_,rfl⟩,by exact T1.out⟩
  (go_wp2_with fail;refine(Calls.mono (aM _ g off cap s (i+(ah s i).2) HL hcap hmax (BA.fr (S:=fun _=>False) HB.out (by exact T0.out) id) (HG.out.frN (by exact T0.out))) fun _ _ h=>NR.good h q2).mono ?_;rintro e w3 ⟨rfl,hf⟩;have hbl:=hbl.fr hf;(have xs3:=Fr.size hf;have T1:=hqZ (Fr.transN T0.out hf);clear T0;clear hf))
  have HP2:=cn q2
  have HL2:=bp s _ HL
  have HM2:=cL s (i+(ah s i).2)
  obtain⟨i2,hi2⟩:∃ x,x=i+(ah s i).2:=⟨_,rfl⟩
  have hij:i < i2:=by omega
  rw[<- hi2]at E1 q2 HP2 HL2 HM2 HL ⊢
  clear hi2 HP q1 qb'
  obtain⟨c2,hc2⟩:∃ x,x=ah s i2:=⟨_,rfl⟩
  have E1:=hqZ (show ∀ x,cX s true i2=x->jA s true k acc x=unq s true from fun x e=>by rw[<- e];exact E1.out)
  have EA:=hqZ (show cX s true i2=if c2.1=65533 then none else match bm c2.1 with
   | some r=>some (r,i2+c2.2)
   | none=>if c2.1=120 then bF s (i2+c2.2)else if c2.1=117 then bD s (i2+c2.2)else if c2.1=42/\true=true then some (42,i2+c2.2)else none from by rw[hc2];rfl)
  rw[<- hc2]at q2 HP2 HL2 HM2 ⊢
  clear hc2
  cases z110:((c2.1:Int) == 110)
  case true =>
   have y:c2.1=110:=by simp at z110;omega
   have E2:=hqZ (show aA s true k (i2+c2.2) (acc++Lib.encodeRune ((10:Nat):Int))=unq s true from E1.out (some (10,i2+c2.2)) (by rw[EA.out];simp[y,bm]))
   (go_wp2_with fail;refine(aW _ w.heap.size w.heap.size (10:Nat) acc (by decide) hbl (by omega) (by omega)).mono ?_;rintro e v5 ⟨⟨n,rfl⟩,hbl,hf⟩;(have xs5:=Fr.size hf;have T0:=hqZ (Fr.trans' T1.out hf (fun k hk hs=>by omega));clear T1;clear hf))
   go_wp2
   go_roundg k
   case measure=>omega
   case rel =>
    have HN:=bo ((10:Nat):Int)
    exact⟨(i2+c2.2),acc++Lib.encodeRune ((10:Nat):Int),by push_cast;rfl,E2.out,HL2,by omega,by rw[List.length_append];omega,by exact T0.out,hbl⟩
  have y110:¬ c2.1=110:=by simp at z110;omega
  cases z114:((c2.1:Int) == 114)
  case true =>
   have y:c2.1=114:=by simp at z114;omega
   have E2:=hqZ (show aA s true k (i2+c2.2) (acc++Lib.encodeRune ((13:Nat):Int))=unq s true from E1.out (some (13,i2+c2.2)) (by rw[EA.out];simp[y,bm]))
   (go_wp2_with fail;refine(aW _ w.heap.size w.heap.size (13:Nat) acc (by decide) hbl (by omega) (by omega)).mono ?_;rintro e v5 ⟨⟨n,rfl⟩,hbl,hf⟩;(have xs5:=Fr.size hf;have T0:=hqZ (Fr.trans' T1.out hf (fun k hk hs=>by omega));clear T1;clear hf))
   go_wp2
   go_roundg k
   case measure=>omega
   case rel =>
    have HN:=bo ((13:Nat):Int)
    exact⟨(i2+c2.2),acc++Lib.encodeRune ((13:Nat):Int),by push_cast;rfl,E2.out,HL2,by omega,by rw[List.length_append];omega,by exact T0.out,hbl⟩
  have y114:¬ c2.1=114:=by simp at z114;omega
  cases z116:((c2.1:Int) == 116)
  case true =>
   have y:c2.1=116:=by simp at z116;omega
   have E2:=hqZ (show aA s true k (i2+c2.2) (acc++Lib.encodeRune ((9:Nat):Int))=unq s true from E1.out (some (9,i2+c2.2)) (by rw[EA.out];simp[y,bm]))
   (go_wp2_with fail;refine(aW _ w.heap.size w.heap.size (9:Nat) acc (by decide) hbl (by omega) (by omega)).mono ?_;rintro e v5 ⟨⟨n,rfl⟩,hbl,hf⟩;(have xs5:=Fr.size hf;have T0:=hqZ (Fr.trans' T1.out hf (fun k hk hs=>by omega));clear T1;clear hf))
   go_wp2
   go_roundg k
   case measure=>omega
   case rel =>
    have HN:=bo ((9:Nat):Int)
    exact⟨(i2+c2.2),acc++Lib.encodeRune ((9:Nat):Int),by push_cast;rfl,E2.out,HL2,by omega,by rw[List.length_append];omega,by exact T0.out,hbl⟩
  have y116:¬ c2.1=116:=by simp at z116;omega
  cases z92:((c2.1:Int) == 92)
  case true =>
   have y:c2.1=92:=by simp at z92;omega
   have E2:=hqZ (show aA s true k (i2+c2.2) (acc++Lib.encodeRune ((92:Nat):Int))=unq s true from E1.out (some (92,i2+c2.2)) (by rw[EA.out];simp[y,bm]))
   (go_wp2_with fail;refine(aW _ w.heap.size w.heap.size (92:Nat) acc (by decide) hbl (by omega) (by omega)).mono ?_;rintro e v5 ⟨⟨n,rfl⟩,hbl,hf⟩;(have xs5:=Fr.size hf;have T0:=hqZ (Fr.trans' T1.out hf (fun k hk hs=>by omega));clear T1;clear hf))
   go_wp2
   go_roundg k
   case measure=>omega
   case rel =>
    have HN:=bo ((92:Nat):Int)
    exact⟨(i2+c2.2),acc++Lib.encodeRune ((92:Nat):Int),by push_cast;rfl,E2.out,HL2,by omega,by rw[List.length_append];omega,by exact T0.out,hbl⟩
  have y92:¬ c2.1=92:=by simp at z92;omega
  cases z48:((c2.1:Int) == 48)
  case true =>
   have y:c2.1=48:=by simp at z48;omega
   have E2:=hqZ (show aA s true k (i2+c2.2) (acc++Lib.encodeRune ((0:Nat):Int))=unq s true from E1.out (some (0,i2+c2.2)) (by rw[EA.out];simp[y,bm]))
   (go_wp2_with fail;refine(aW _ w.heap.size w.heap.size (0:Nat) acc (by decide) hbl (by omega) (by omega)).mono ?_;rintro e v5 ⟨⟨n,rfl⟩,hbl,hf⟩;(have xs5:=Fr.size hf;have T0:=hqZ (Fr.trans' T1.out hf (fun k hk hs=>by omega));clear T1;clear hf))
   go_wp2
   go_roundg k
   case measure=>omega
   case rel =>
    have HN:=bo ((0:Nat):Int)
    exact⟨(i2+c2.2),acc++Lib.encodeRune ((0:Nat):Int),by push_cast;rfl,E2.out,HL2,by omega,by rw[List.length_append];omega,by exact T0.out,hbl⟩
  have y48:¬ c2.1=48:=by simp at z48;omega
  cases z39:((c2.1:Int) == 39)
  case true =>
   have y:c2.1=39:=by simp at z39;omega
   have E2:=hqZ (show aA s true k (i2+c2.2) (acc++Lib.encodeRune ((39:Nat):Int))=unq s true from E1.out (some (39,i2+c2.2)) (by rw[EA.out];simp[y,bm]))
   (go_wp2_with fail;refine(aW _ w.heap.size w.heap.size (39:Nat) acc (by decide) hbl (by omega) (by omega)).mono ?_;rintro e v5 ⟨⟨n,rfl⟩,hbl,hf⟩;(have xs5:=Fr.size hf;have T0:=hqZ (Fr.trans' T1.out hf (fun k hk hs=>by omega));clear T1;clear hf))
   go_wp2
   go_roundg k
   case measure=>omega
   case rel =>
    have HN:=bo ((39:Nat):Int)
    exact⟨(i2+c2.2),acc++Lib.encodeRune ((39:Nat):Int),by push_cast;rfl,E2.out,HL2,by omega,by rw[List.length_append];omega,by exact T0.out,hbl⟩
  have y39:¬ c2.1=39:=by simp at z39;omega
  cases z34:((c2.1:Int) == 34)
  case true =>
   have y:c2.1=34:=by simp at z34;omega
   have E2:=hqZ (show aA s true k (i2+c2.2) (acc++Lib.encodeRune ((34:Nat):Int))=unq s true from E1.out (some (34,i2+c2.2)) (by rw[EA.out];simp[y,bm]))
   (go_wp2_with fail;refine(aW _ w.heap.size w.heap.size (34:Nat) acc (by decide) hbl (by omega) (by omega)).mono ?_;rintro e v5 ⟨⟨n,rfl⟩,hbl,hf⟩;(have xs5:=Fr.size hf;have T0:=hqZ (Fr.trans' T1.out hf (fun k hk hs=>by omega));clear T1;clear hf))
   go_wp2
   go_roundg k
   case measure=>omega
   case rel =>
    have HN:=bo ((34:Nat):Int)
    exact⟨(i2+c2.2),acc++Lib.encodeRune ((34:Nat):Int),by push_cast;rfl,E2.out,HL2,by omega,by rw[List.length_append];omega,by exact T0.out,hbl⟩
  have y34:¬ c2.1=34:=by simp at z34;omega
  have EB:=hqZ (show cX s true i2=if c2.1=120 then bF s (i2+c2.2)else if c2.1=117 then bD s (i2+c2.2)else if c2.1=42/\true=true then some (42,i2+c2.2)else none from by rw[EA.out];simp[bm,q2,y110,y114,y116,y92,y48,y39,y34])
  clear EA
  cases z120:((c2.1:Int) == 120)
  case true =>
   have y:c2.1=120:=by simp at z120;omega
   cases hx:bF s (i2+c2.2)with
   | none =>
    have ER:=hqZ (show unq s true=none from(E1.out none (by rw[EB.out];simp[y,hx])).symm)
    (go_wp2_with fail;refine(Calls.mono (eD _ g off cap s (i2+c2.2) HL2 hcap hmax (BA.fr (S:=fun _=>False) HB.out (by exact T1.out) id) (HG.out.frN (by exact T1.out))) fun _ _ h=>EV.bad h hx).mono ?_;rintro e v ⟨⟨z,t,u,rfl⟩,hf⟩;(have xs5:=Fr.size hf;have T0:=hqZ (Fr.transN T1.out hf);clear T1;clear hf))
    go_wp2
    refine bodyPost_ret (v:=(.tuple #[.string ⟨#[]⟩,.slice none 0 0,.iface t u])) (by simp only[results,Tryz.results149];go_simp) rfl ?_
    rw[ER.out]
    exact⟨⟨_,_,rfl⟩,by exact T0.out⟩
   | some x =>
    obtain⟨c,j⟩:=x
    have hle:=gO HL2 hx
    have E2:=hqZ (show aA s true k j (acc++Lib.encodeRune (c:Int))=unq s true from E1.out (some (c,j)) (by rw[EB.out];simp[y,hx]))
    (go_wp2_with fail;refine(Calls.mono (eD _ g off cap s (i2+c2.2) HL2 hcap hmax (BA.fr (S:=fun _=>False) HB.out (by exact T1.out) id) (HG.out.frN (by exact T1.out))) fun _ _ h=>EV.good h hx).mono ?_;rintro e w4 ⟨rfl,hf⟩;have hbl:=hbl.fr hf;(have xs5:=Fr.size hf;have T0:=hqZ (Fr.transN T1.out hf);clear T1;clear hf))
    clear hx
    (go_wp2_with fail;refine(aW _ w.heap.size w.heap.size c acc (by omega) hbl (by omega) (by omega)).mono ?_;rintro e v5 ⟨⟨n,rfl⟩,hbl,hf⟩;(have xs7:=Fr.size hf;have T1:=hqZ (Fr.trans' T0.out hf (fun k hk hs=>by omega));clear T0;clear hf))
    go_wp2
    go_roundg k
    case measure=>omega
    case rel =>
     have HN:=bo (c:Int)
     exact⟨j,acc++Lib.encodeRune (c:Int),by push_cast;rfl,E2.out,hle.2.2,by omega,by rw[List.length_append];omega,by exact T1.out,hbl⟩
  have y120:¬ c2.1=120:=by simp at z120;omega
  cases z117:((c2.1:Int) == 117)
  case true =>
   have y:c2.1=117:=by simp at z117;omega
   cases hx:bD s (i2+c2.2)with
   | none =>
    have ER:=hqZ (show unq s true=none from(E1.out none (by rw[EB.out];simp[y,hx])).symm)
    (go_wp2_with fail;refine(Calls.mono (ej _ g off cap s (i2+c2.2) HL2 hcap hmax (BA.fr (S:=fun _=>False) HB.out (by exact T1.out) id) (HG.out.frN (by exact T1.out))) fun _ _ h=>EV.bad h hx).mono ?_;rintro e v ⟨⟨z,t,u,rfl⟩,hf⟩;(have xs5:=Fr.size hf;have T0:=hqZ (Fr.transN T1.out hf);clear T1;clear hf))
    go_wp2
    refine bodyPost_ret (v:=(.tuple #[.string ⟨#[]⟩,.slice none 0 0,.iface t u])) (by simp only[results,Tryz.results149];go_simp) rfl ?_
    rw[ER.out]
    exact⟨⟨_,_,rfl⟩,by exact T0.out⟩
   | some x =>
    obtain⟨c,j⟩:=x
    have hle:=gH HL2 hx
    have E2:=hqZ (show aA s true k j (acc++Lib.encodeRune (c:Int))=unq s true from E1.out (some (c,j)) (by rw[EB.out];simp[y,hx]))
    (go_wp2_with fail;refine(Calls.mono (ej _ g off cap s (i2+c2.2) HL2 hcap hmax (BA.fr (S:=fun _=>False) HB.out (by exact T1.out) id) (HG.out.frN (by exact T1.out))) fun _ _ h=>EV.good h hx).mono ?_;rintro e w4 ⟨rfl,hf⟩;have hbl:=hbl.fr hf;(have xs5:=Fr.size hf;have T0:=hqZ (Fr.transN T1.out hf);clear T1;clear hf))
    clear hx
    (go_wp2_with fail;refine(aW _ w.heap.size w.heap.size c acc (hle.1) hbl (by omega) (by omega)).mono ?_;rintro e v5 ⟨⟨n,rfl⟩,hbl,hf⟩;(have xs7:=Fr.size hf;have T1:=hqZ (Fr.trans' T0.out hf (fun k hk hs=>by omega));clear T0;clear hf))
    go_wp2
    go_roundg k
    case measure=>omega
    case rel =>
     have HN:=bo (c:Int)
     exact⟨j,acc++Lib.encodeRune (c:Int),by push_cast;rfl,E2.out,hle.2.2,by omega,by rw[List.length_append];omega,by exact T1.out,hbl⟩
  have y117:¬ c2.1=117:=by simp at z117;omega
  cases z42:((c2.1:Int) == 42)
  case false =>
   have y:¬ c2.1=42:=by simp at z42;omega
   have ER:=hqZ (show unq s true=none from(E1.out none (by rw[EB.out];simp[y120,y117,y])).symm)
   (go_wp2_with fail;refine(bv _ _).mono ?_;rintro e v ⟨⟨t,u,rfl⟩,hf⟩;(have xs5:=Fr.size hf;have T0:=hqZ (Fr.transN T1.out hf);clear T1;clear hf))
   go_wp2
   refine bodyPost_ret (v:=(.tuple #[.string ⟨#[]⟩,.slice none 0 0,.iface t u])) (by simp only[results,Tryz.results149];go_simp) rfl ?_
   rw[ER.out]
   exact⟨⟨_,_,rfl⟩,by exact T0.out⟩
  have y:c2.1=42:=by simp at z42;omega
  have E2:=hqZ (show aA s true k (i2+c2.2) (acc++Lib.encodeRune ((42:Nat):Int))=unq s true from E1.out (some (42,i2+c2.2)) (by rw[EB.out];simp[y]))
  (go_wp2_with fail;refine(aW _ w.heap.size w.heap.size (42:Nat) acc (by decide) hbl (by omega) (by omega)).mono ?_;rintro e v5 ⟨⟨n,rfl⟩,hbl,hf⟩;(have xs5:=Fr.size hf;have T0:=hqZ (Fr.trans' T1.out hf (fun k hk hs=>by omega));clear T1;clear hf))
  go_wp2
  go_roundg k
  case measure=>omega
  case rel =>
   have HN:=bo ((42:Nat):Int)
   exact⟨(i2+c2.2),acc++Lib.encodeRune ((42:Nat):Int),by push_cast;rfl,E2.out,HL2,by omega,by rw[List.length_append];omega,by exact T0.out,hbl⟩
theorem nj{s:ByteArray}{star:Bool}{i c j:Nat}(hi:i<=s.size)(h:cX s star i=some (c,j)):i<=j/\j<=s.size:=by
 have h1:=bp s i hi
 unfold cX at h
 simp only at h
 split at h
 .cases h
 .split at h
  .cases h;omega
  .split at h
   .have:=gO h1 h;omega
   .split at h
    .have:=gH h1 h;omega
    .split at h
     .cases h;omega
     .cases h
theorem cY{s:ByteArray}{star:Bool}:∀ {k i:Nat} {acc l:List UInt8} {j:Nat},i<=s.size->aA s star k i acc=some (l,j)->i<=j/\j<=s.size
 | 0,_,_,_,_,_,h=>by simp[aA]at h
 | k+1,i,acc,l,j,hi,h=>by
  have h1:=bp s i hi
  simp only[aA]at h
  split at h
  .split at h
   .cases h
   .split at h
    .cases h;exact⟨Nat.le_refl _,hi⟩
    .split at h
     .cases he:cX s star (i+(ah s i).2)with
      | none=>rw[he]at h;cases h
      | some x =>
       obtain⟨r,j'⟩:=x
       rw[he]at h
       have h2:=nj h1 he
       have:=cY h2.2 h
       omega
     .have:=cY h1 h;omega
  .cases h;exact⟨Nat.le_refl _,hi⟩
theorem unq_pos{s:ByteArray}{l:List UInt8}{j:Nat}(h:unq s true=some (l,j))(h0:0 < s.size)(h1:(ah s 0).1 ≠ 42):1<=j/\j<=s.size:=by
 unfold unq at h
 have hle:=cY (Nat.zero_le _) h
 refine⟨?_,hle.2⟩
 simp only[aA]at h
 rw[if_pos h0]at h
 have h2:=bp s 0 (Nat.zero_le _)
 split at h
 .cases h
 .rename_i hq
  have h3:=cn hq
  rw[if_neg (by rintro⟨_,e⟩;exact h1 e)]at h
  split at h
  .cases he:cX s true (0+(ah s 0).2)with
   | none=>rw[he]at h;cases h
   | some x =>
    obtain⟨r,j'⟩:=x
    rw[he]at h
    have h4:=nj h2 he
    have:=cY h4.2 h
    omega
  .have:=cY h2 h
   omega
theorem unq_le{s:ByteArray}{star:Bool}{l:List UInt8}{j:Nat}(h:unq s star=some (l,j)):j<=s.size:=(cY (Nat.zero_le _) h).2
theorem nQ{l:List UInt8}{b:UInt8}(h:b ≠ 42):(ah ⟨(b::l).toArray⟩ 0).1 ≠ 42:=by
 intro e
 unfold ah Lib.decodeGo at e
 have hx:(ByteArray.mk (b::l).toArray).extract 0 (ByteArray.mk (b::l).toArray).size=⟨(b::l).toArray⟩:=by simp
 rw[hx,if_neg (by show ¬ (b::l).toArray.size=0;simp),Lib.decode_at]at e
 have h1:=(jC _ _ _ _ _ (by rw[e];decide)).1
 rw[e]at h1
 have h2:(ByteArray.mk (b::l).toArray).get! 0=b:=by show(b::l).toArray[0]! = b;simp
 rw[h2]at h1
 exact h (UInt8.toNat_inj.1 h1)
theorem mE{k:Nat}{r:List UInt8}{acc:List Part}(hr:r ≠ []):df (k+1) r acc=match unq ⟨(r.dropWhile (· == 42)).toArray⟩ true with
  | none=>none
  | some (s,j)=>df k ((r.dropWhile (· == 42)).drop j) (acc++fE r ++ [.txt s]):=by
 simp only[df,if_neg hr]
 rfl
theorem nP(r:List UInt8):fE (42::r) = .star::fE r:=by simp[fE]
theorem ja{r:List UInt8}(h:∀ b ∈ r.head?,b ≠ 42):fE r = []/\r.dropWhile (· == 42)=r:=by
 cases r with
 | nil=>exact⟨rfl,rfl⟩
 | cons b r =>
  have hb:b ≠ 42:=h b (by simp)
  constructor
  .unfold fE;rw[List.takeWhile_cons_of_neg (by simpa using hb)];rfl
  .rw[List.dropWhile_cons_of_neg (by simpa using hb)]
theorem qO(r:List UInt8):(42::r).dropWhile (· == 42)=r.dropWhile (· == 42):=by simp
def bJ (acc:List (Bool × List UInt8)):Part->List (Bool × List UInt8)
 | .txt s=>match acc.reverse with | []=>[(false,s)]|(w,t)::q=>q.reverse ++ [(w,t++s)]
 | .star=>match acc.reverse with | []=>[(true,[])]|(_,t)::_=>if t = []then acc else acc ++ [(true,[])]
theorem dH(p:Part)(l:List Part)(acc:List (Bool × List UInt8)):ba (p::l) acc=ba l (bJ acc p):=by
 cases p with
 | txt s=>simp only[ba,bJ];cases acc.reverse with|nil=>rfl|cons x q=>rfl
 | star =>
  simp only[ba,bJ]
  cases acc.reverse with
  | nil=>rfl
  | cons x q=>simp only;split <;> rfl
theorem jF:∀ (l:List Part) (p:Part) (acc:List (Bool × List UInt8)),ba (l ++ [p]) acc=bJ (ba l acc) p
 | [],p,acc=>by rw[List.nil_append,dH];rfl
 | q::l,p,acc=>by rw[List.cons_append,dH,dH,jF l p]
theorem gi(s:List UInt8):bJ [] (.txt s) = [(false,s)]:=rfl
theorem iZ(D:List (Bool × List UInt8))(w:Bool)(t s:List UInt8):bJ (D ++ [(w,t)]) (.txt s)=D ++ [(w,t++s)]:=by simp[bJ]
theorem jT:bJ [] .star = [(true,[])]:=rfl
theorem fl(D:List (Bool × List UInt8))(w:Bool)(t:List UInt8):bJ (D ++ [(w,t)]) .star=if t = []then D ++ [(w,t)]else D ++ [(w,t)] ++ [(true,[])]:=by simp[bJ]
def cT:Part->Bool
 | .star=>true
 | .txt _=>false
theorem kN:∀ (l:List Part) (acc:List (Bool × List UInt8)),(ba l acc).length<=max acc.length 1+l.countP cT
 | [],acc=>by simp only[ba,List.countP_nil];omega
 | p::l,acc=>by
  rw[dH]
  have h:=kN l (bJ acc p)
  rw[List.countP_cons]
  rcases List.eq_nil_or_concat acc with rfl|⟨D,⟨w,t⟩,hD⟩
  .cases p <;> simp only[gi,jT,cT,List.length_singleton,List.length_nil]at * <;> omega
  .rw[List.concat_eq_append]at hD
   subst hD
   cases p with
   | txt s =>
    simp only[iZ,List.length_append,List.length_singleton,cT]at *
    simp only[Bool.false_eq_true,if_false]at *
    omega
   | star =>
    rw[fl]at h ⊢
    simp only[cT,if_true]
    split at h <;> simp only[*,if_true,if_false,List.length_append,List.length_singleton]at h ⊢ <;> omega
def pl:Part->Nat
 | .txt s=>s.length
 | .star=>0
def tl (l:List Part):Nat:=(l.map pl).sum
def cl (l:List (Bool × List UInt8)):Nat:=(l.map (·.2.length)).sum
theorem lK(D:List (Bool × List UInt8))(x:Bool × List UInt8):cl (D ++ [x])=cl D+x.2.length:=by simp[cl]
theorem kW(a b:List Part):tl (a++b)=tl a+tl b:=by simp[tl]
theorem nB:∀ (l:List Part) (acc:List (Bool × List UInt8)),cl (ba l acc)=cl acc+tl l
 | [],acc=>by simp[ba,tl]
 | p::l,acc=>by
  rw[dH,nB l]
  have h:cl (bJ acc p)=cl acc+pl p:=by
   rcases List.eq_nil_or_concat acc with rfl|⟨D,⟨w,t⟩,hD⟩
   .cases p <;> simp[bJ,cl,pl]
   .rw[List.concat_eq_append]at hD
    subst hD
    cases p with
    | txt s=>rw[iZ,lK,lK];simp only[List.length_append,pl];omega
    | star=>rw[fl];split <;> simp[cl,pl]
  rw[h]
  simp only[tl,List.map_cons,List.sum_cons]
  omega
theorem tl_take{l:List Part}{j:Nat}{x:Part}(h:l[j]? = some x):tl (l.take j)+pl x<=tl l:=by
 have h1:l=l.take (j+1)++l.drop (j+1):=(List.take_append_drop _ _).symm
 have h2:tl (l.take (j+1))=tl (l.take j)+pl x:=by rw[List.take_add_one,h,kW];simp[tl]
 have h3:=congrArg tl h1
 rw[kW,h2]at h3
 omega
theorem eN{s:ByteArray}{star:Bool}:∀ {k i:Nat} {acc l:List UInt8} {j:Nat},aA s star k i acc=some (l,j)->l.length<=acc.length+4 * k
 | 0,_,_,_,_,h=>by simp[aA]at h
 | k+1,i,acc,l,j,h=>by
  simp only[aA]at h
  split at h
  .split at h
   .cases h
   .split at h
    .cases h;omega
    .split at h
     .cases he:cX s star (i+(ah s i).2)with
      | none=>rw[he]at h;cases h
      | some x =>
       obtain⟨r,j'⟩:=x
       rw[he]at h
       have h2:=bo (r:Int)
       have:=eN h
       rw[List.length_append]at this
       omega
     .have h2:=bo ((ah s i).1:Int)
      have:=eN h
      rw[List.length_append]at this
      omega
  .cases h;omega
structure PI(s:ByteArray)(k:Nat)(r:List UInt8)(acc:List Part):Prop where
 lp:df k r acc=df (s.size+1) s.data.toList []
 k1:r.length+1<=k
 n:r ≠ []->acc.length+r.length<=s.size
 n0:acc.length<=s.size+1
 c:acc.countP cT+r.length<=s.size
 t:tl acc<=700000 * acc.length
structure PJ(r:List UInt8)(acc:List Part)(r2:List UInt8)(acc2:List Part):Prop where
 dw:r2.dropWhile (· == 42)=r.dropWhile (· == 42)
 st:acc2++fE r2=acc++fE r
 n:acc2.length+r2.length=acc.length+r.length
 c:acc2.countP cT+r2.length=acc.countP cT+r.length
 t:tl acc2=tl acc
 le:r2.length<=r.length
theorem PJ.refl(r:List UInt8)(acc:List Part):PJ r acc r acc:=⟨rfl,rfl,rfl,rfl,rfl,Nat.le_refl _⟩
theorem PJ.step{r r2:List UInt8}{acc acc2:List Part}(h:PJ r acc (42::r2) acc2):PJ r acc r2 (acc2 ++ [.star]) where
 dw:=by rw[<- h.dw,qO]
 st:=by rw[<- h.st,nP];simp
 n:=by have:=h.n;simp only[List.length_cons,List.length_append,List.length_nil]at *;omega
 c:=by have:=h.c;simp only[List.length_cons,List.countP_append,List.countP_cons,List.countP_nil,cT,if_true]at *;omega
 t:=by rw[kW,h.t];rfl
 le:=by have:=h.le;simp only[List.length_cons]at this;omega
theorem PI.first(s:ByteArray):PI s (s.size+1) s.data.toList [] where
 lp:=rfl
 k1:=by show s.data.toList.length+1<=_;rw[Array.length_toList];exact Nat.le_refl _
 n:=fun _=>by show 0+s.data.toList.length<=_;rw[Array.length_toList];show 0+s.size<=_;omega
 n0:=Nat.zero_le _
 c:=by show 0+s.data.toList.length<=_;rw[Array.length_toList];show 0+s.size<=_;omega
 t:=by simp[tl]
theorem PI.fin{s:ByteArray}{k:Nat}{acc:List Part}(h:PI s k [] acc):bU s=some (ba (if acc = []then [.txt []]else acc) []):=by
 unfold bU
 rw[<- h.lp]
 obtain⟨k',rfl⟩:∃ k',k=k'+1:=⟨k - 1,by have:=h.k1;omega⟩
 simp only[df,if_true,Option.map_some]
theorem PI.bad{s:ByteArray}{k:Nat}{r r2:List UInt8}{acc acc2:List Part}(h:PI s k r acc)(hr:r ≠ [])(hj:PJ r acc r2 acc2)(h2:∀ b ∈ r2.head?,b ≠ 42)(hu:unq ⟨r2.toArray⟩ true=none):bU s=none:=by
 unfold bU
 rw[<- h.lp]
 obtain⟨k',rfl⟩:∃ k',k=k'+1:=⟨k - 1,by have:=h.k1;omega⟩
 obtain⟨e1,e2⟩:=ja h2
 rw[mE hr,<- hj.dw,e2,hu]
 rfl
theorem PI.next{s:ByteArray}(hs:s.size<=150000){k:Nat}{r r2:List UInt8}{acc acc2:List Part}(h:PI s k r acc)(hr:r ≠ [])(hj:PJ r acc r2 acc2)(h2:∀ b ∈ r2.head?,b ≠ 42){l:List UInt8}{j:Nat}(hu:unq ⟨r2.toArray⟩ true=some (l,j)) :
  0 < k/\PI s (k - 1) (r2.drop j) (acc2 ++ [.txt l]):=by
 obtain⟨k',rfl⟩:∃ k',k=k'+1:=⟨k - 1,by have:=h.k1;omega⟩
 obtain⟨e1,e2⟩:=ja h2
 have hr1:1<=r.length:=by cases r with|nil=>exact absurd rfl hr|cons a r=>simp
 have hle:=unq_le hu
 have hsz:(ByteArray.mk r2.toArray).size=r2.length:=by show r2.toArray.size=_;simp
 have hp:r2 = []\/1<=j:=by
  cases r2 with
  | nil=>exact .inl rfl
  | cons b r2=>exact .inr (unq_pos hu (by rw[hsz];simp) (nQ (h2 b rfl))).1
 have hl:=eN (show aA ⟨r2.toArray⟩ true _ 0 []=some (l,j)from hu)
 rw[hsz]at hle hl
 have a1:=h.k1
 have a2:=h.n hr
 have a3:=h.c
 have a4:=h.t
 have b1:=hj.n
 have b2:=hj.c
 have b3:=hj.t
 have b4:=hj.le
 have hq:r2.length=0\/1<=j:=by rcases hp with rfl|h;exact .inl rfl;exact .inr h
 refine⟨Nat.succ_pos _,?_,?_,?_,?_,?_,?_⟩
 .rw[<- h.lp,mE hr,<- hj.dw,e2,hu,Nat.add_sub_cancel]
  show df k' _ _=df k' _ (acc++fE r ++ [.txt l])
  rw[<- hj.st,e1,List.append_nil]
 .rw[List.length_drop];omega
 .intro hne
  have:0 < (r2.drop j).length:=List.length_pos_iff.2 hne
  rw[List.length_drop]at this ⊢
  rw[List.length_append,List.length_singleton];omega
 .rw[List.length_append,List.length_singleton];omega
 .rw[List.length_drop,List.countP_append];simp only[List.countP_cons,List.countP_nil,cT];simp;omega
 .rw[kW,List.length_append,List.length_singleton,b3]
  simp only[tl,List.map_cons,List.map_nil,List.sum_cons,List.sum_nil,pl]at a4 ⊢
  simp only[List.length_nil]at hl
  omega
end Go.Proofs.YtbdhlpeckennjaaGreatDoor
namespace Go.Proofs
open Go.Shelf
def Tryz.laysC174_ren:Go.Shelf.Ren:=⟨fun|174=>208|247=>213|245=>214|287=>218|279=>219|280=>220|281=>221|282=>222|321=>245|322=>246|316=>247|171=>248|205=>127|243=>259|246=>262|283=>263|284=>264|285=>265|286=>266|129=>268|317=>267|318=>269|319=>270|320=>271|337=>272|338=>273|n=>n,fun|9=>9|3=>3|2=>2|75=>82|85=>348|4=>4|167=>355|5=>5|53=>22|175=>356|46=>224|168=>358|37=>67|0=>0|210=>379|21=>21|127=>332|145=>316|143=>314|171=>396|173=>399|212=>402|51=>337|20=>20|213=>403|232=>406|233=>407|80=>138|n=>n,fun|15=>5|16=>6|17=>7|18=>8|19=>9|n=>n⟩
theorem Tryz.laysC174:Go.Proofs.LaysC.n174 Tryz.prog Tryz.laysC174_ren:={
 mixed:=by kernel_rfl
 f129:=Tryz.func268.trans (congrArg some (by kernel_rfl))
 f171:=Tryz.func248.trans (congrArg some (by kernel_rfl))
 f174:=Tryz.func208.trans (congrArg some (by kernel_rfl))
 f205:=Tryz.func127.trans (congrArg some (by kernel_rfl))
 f243:=Tryz.func259.trans (congrArg some (by kernel_rfl))
 f245:=Tryz.func214.trans (congrArg some (by kernel_rfl))
 f246:=Tryz.func262.trans (congrArg some (by kernel_rfl))
 f247:=Tryz.func213.trans (congrArg some (by kernel_rfl))
 f279:=Tryz.func219.trans (congrArg some (by kernel_rfl))
 f280:=Tryz.func220.trans (congrArg some (by kernel_rfl))
 f281:=Tryz.func221.trans (congrArg some (by kernel_rfl))
 f282:=Tryz.func222.trans (congrArg some (by kernel_rfl))
 f283:=Tryz.func263.trans (congrArg some (by kernel_rfl))
 f284:=Tryz.func264.trans (congrArg some (by kernel_rfl))
 f285:=Tryz.func265.trans (congrArg some (by kernel_rfl))
 f286:=Tryz.func266.trans (congrArg some (by kernel_rfl))
 f287:=Tryz.func218.trans (congrArg some (by kernel_rfl))
 f316:=Tryz.func247.trans (congrArg some (by kernel_rfl))
 f317:=Tryz.func267.trans (congrArg some (by kernel_rfl))
 f318:=Tryz.func269.trans (congrArg some (by kernel_rfl))
 f319:=Tryz.func270.trans (congrArg some (by kernel_rfl))
 f320:=Tryz.func271.trans (congrArg some (by kernel_rfl))
 f321:=Tryz.func245.trans (congrArg some (by kernel_rfl))
 f322:=Tryz.func246.trans (congrArg some (by kernel_rfl))
 f337:=Tryz.func272.trans (congrArg some (by kernel_rfl))
 f338:=Tryz.func273.trans (congrArg some (by kernel_rfl))
 t0:=Tryz.underlying0
 a0:=Tryz.isAgg0
 z0:=Tryz.sizeOf0
 v0:=Tryz.zeroValue0
 t2:=Tryz.underlying2
 a2:=Tryz.isAgg2
 z2:=Tryz.sizeOf2
 v2:=Tryz.zeroValue2
 t3:=Tryz.underlying3
 a3:=Tryz.isAgg3
 z3:=Tryz.sizeOf3
 v3:=Tryz.zeroValue3
 t4:=Tryz.underlying4
 a4:=Tryz.isAgg4
 z4:=Tryz.sizeOf4
 v4:=Tryz.zeroValue4
 t5:=Tryz.underlying5
 a5:=Tryz.isAgg5
 z5:=Tryz.sizeOf5
 v5:=Tryz.zeroValue5
 t9:=Tryz.underlying9
 a9:=Tryz.isAgg9
 z9:=Tryz.sizeOf9
 v9:=Tryz.zeroValue9
 t20:=Tryz.underlying20
 a20:=Tryz.isAgg20
 z20:=Tryz.sizeOf20
 v20:=Tryz.zeroValue20
 t21:=Tryz.underlying21
 a21:=Tryz.isAgg21
 z21:=Tryz.sizeOf21
 v21:=Tryz.zeroValue21
 t37:=Tryz.underlying67
 a37:=Tryz.isAgg67
 z37:=Tryz.sizeOf67
 v37:=Tryz.zeroValue67
 t46:=Tryz.underlying224
 a46:=Tryz.isAgg224
 z46:=Tryz.sizeOf224
 v46:=Tryz.zeroValue224
 t51:=Tryz.underlying337
 a51:=Tryz.isAgg337
 z51:=Tryz.sizeOf337
 v51:=Tryz.zeroValue337
 t53:=Tryz.underlying22
 a53:=Tryz.isAgg22
 z53:=Tryz.sizeOf22
 v53:=Tryz.zeroValue22
 t75:=Tryz.underlying82
 a75:=Tryz.isAgg82
 z75:=Tryz.sizeOf82
 v75:=Tryz.zeroValue82
 t85:=Tryz.underlying348
 a85:=Tryz.isAgg348
 z85:=Tryz.sizeOf348
 v85:=Tryz.zeroValue348
 t127:=Tryz.underlying332
 a127:=Tryz.isAgg332
 z127:=Tryz.sizeOf332
 v127:=Tryz.zeroValue332
 t143:=Tryz.underlying314
 a143:=Tryz.isAgg314
 z143:=Tryz.sizeOf314
 v143:=Tryz.zeroValue314
 t145:=Tryz.underlying316
 a145:=Tryz.isAgg316
 z145:=Tryz.sizeOf316
 v145:=Tryz.zeroValue316
 t167:=Tryz.underlying355
 a167:=Tryz.isAgg355
 z167:=Tryz.sizeOf355
 v167:=Tryz.zeroValue355
 t168:=Tryz.underlying358
 a168:=Tryz.isAgg358
 z168:=Tryz.sizeOf358
 v168:=Tryz.zeroValue358
 t171:=Tryz.underlying396
 a171:=Tryz.isAgg396
 z171:=Tryz.sizeOf396
 v171:=Tryz.zeroValue396
 t173:=Tryz.underlying399
 a173:=Tryz.isAgg399
 z173:=Tryz.sizeOf399
 v173:=Tryz.zeroValue399
 t175:=Tryz.underlying356
 a175:=Tryz.isAgg356
 z175:=Tryz.sizeOf356
 v175:=Tryz.zeroValue356
 t210:=Tryz.underlying379
 a210:=Tryz.isAgg379
 z210:=Tryz.sizeOf379
 v210:=Tryz.zeroValue379
 t212:=Tryz.underlying402
 a212:=Tryz.isAgg402
 z212:=Tryz.sizeOf402
 v212:=Tryz.zeroValue402
 t213:=Tryz.underlying403
 a213:=Tryz.isAgg403
 z213:=Tryz.sizeOf403
 t232:=Tryz.underlying406
 a232:=Tryz.isAgg406
 z232:=Tryz.sizeOf406
 v232:=Tryz.zeroValue406
 t233:=Tryz.underlying407
 a233:=Tryz.isAgg407
 z233:=Tryz.sizeOf407
 v233:=Tryz.zeroValue407
 g15:=by kernel_rfl
 g16:=by kernel_rfl
 g17:=by kernel_rfl
 g18:=by kernel_rfl
 g19:=by kernel_rfl
 t80:=Tryz.underlying138
 a80:=Tryz.isAgg138
 z80:=Tryz.sizeOf138
 v80:=Tryz.zeroValue138
 i0:=by kernel_rfl
 i2:=by kernel_rfl
 i3:=by kernel_rfl
 i4:=by kernel_rfl
 i5:=by kernel_rfl
 i9:=by kernel_rfl
 i20:=by kernel_rfl
 i21:=by kernel_rfl
 i37:=by kernel_rfl
 i46:=by kernel_rfl
 i51:=by kernel_rfl
 i53:=by kernel_rfl
 i75:=by kernel_rfl
 i80:=by kernel_rfl
 i85:=by kernel_rfl
 i127:=by kernel_rfl
 i143:=by kernel_rfl
 i145:=by kernel_rfl
 i167:=by kernel_rfl
 i168:=by kernel_rfl
 i171:=by kernel_rfl
 i173:=by kernel_rfl
 i175:=by kernel_rfl
 i210:=by kernel_rfl
 i212:=by kernel_rfl
 i232:=by kernel_rfl
 i233:=by kernel_rfl
 m15:=by kernel_rfl
 m16:=by kernel_rfl
 m17:=by kernel_rfl
 m18:=by kernel_rfl
 m19:=by kernel_rfl
 c0:=by kernel_rfl
 c2:=by kernel_rfl
 c3:=by kernel_rfl
 c4:=by kernel_rfl
 c5:=by kernel_rfl
 c9:=by kernel_rfl
 c20:=by kernel_rfl
 c21:=by kernel_rfl
 c37:=by kernel_rfl
 c46:=by kernel_rfl
 c51:=by kernel_rfl
 c53:=by kernel_rfl
 c75:=by kernel_rfl
 c80:=by kernel_rfl
 c85:=by kernel_rfl
 c127:=by kernel_rfl
 c143:=by kernel_rfl
 c145:=by kernel_rfl
 c167:=by kernel_rfl
 c168:=by kernel_rfl
 c171:=by kernel_rfl
 c173:=by kernel_rfl
 c175:=by kernel_rfl
 c210:=by kernel_rfl
 c212:=by kernel_rfl
 c213:=by kernel_rfl
 c232:=by kernel_rfl
 c233:=by kernel_rfl }
open Go.RowKit in
theorem Tryz.strconv_ParseInt_10_at64_ok(s:ByteArray)(hmax:s.size<=9223372036854775806)(v:Int)(h:Lib.parseIntB 64 s.data.toList = .ok v)(w:World) :
  Calls Tryz.prog 208 #[.string s,.int .i64 10,.int .i64 64] w fun e w'=>e = .returned (.tuple #[.int .i64 v,.nilIface])/\(w'=w\/∃ t,w'=Lib.bytesWorld w 5 t):=Any.strconv_ParseInt_10_at64_ok Tryz.laysC174 s hmax v h w
open Go.RowKit in
theorem Tryz.strconv_ParseInt_10_at64_range(s:ByteArray)(hlim:s.size<=281474976710656)(h:Lib.parseIntB 64 s.data.toList = .range)(ev:Value)(w:World)(hv:w.cell? ⟨6,0,none⟩=some ev)(hev:ev = .nilIface\/∃ te pe,ev = .iface te pe) :
  Calls Tryz.prog 208 #[.string s,.int .i64 10,.int .i64 64] w fun e w'=>∃ N,e = .returned (.tuple #[.int .i64 (Lib.intSat 64 s.data.toList),.iface 358 (.pointer (some ⟨N,0,none⟩))])/\w.heap.size<=N/\w'.heap[N]? = some (.cells #[.string ⟨#[80,97,114,115,101,73,110,116]⟩,.string s,ev] 379 (0,0))/\Below w.heap.size w w':=Any.strconv_ParseInt_10_at64_range Tryz.laysC174 s hlim h ev w hv hev
end Go.Proofs
namespace Go.Proofs.YtbdhlpeckennjaaGreatDoor
open Go Go.RowKit
theorem lM{a b:ByteArray}(h:a.data.toList=b.data.toList):a=b:=by
 obtain⟨⟨a⟩⟩:=a;obtain⟨⟨b⟩⟩:=b;simp at h;subst h;rfl
theorem ma:rZ:=by
 intro w s
 refine(Tryz.strings_TrimPrefix s ⟨#[34]⟩ w).mono fun e w' h=>?_
 obtain⟨rfl,rfl⟩:=h
 refine⟨?_,Fr.refl _ _⟩
 congr 2
 refine lM ?_
 show Lib.trimPrefix s.data.toList [34]=_
 unfold Lib.trimPrefix eO
 obtain⟨⟨l⟩⟩:=s
 cases l with
 | nil=>rfl
 | cons c l =>
  by_cases hc:c=34
  .subst hc
   simp[Lib.hasPrefix,Lib.extract_data,ByteArray.size]
  .simp[Lib.hasPrefix,hc,Ne.symm hc]
theorem lZ:rY:=by
 intro w s hs
 refine(Tryz.strings_TrimSuffix s ⟨#[34]⟩ w (by omega)).mono fun e w' h=>?_
 obtain⟨rfl,rfl⟩:=h
 refine⟨?_,Fr.refl _ _⟩
 congr 2
 refine lM ?_
 show Lib.trimSuffix s.data.toList [34]=_
 unfold Lib.trimSuffix gf
 obtain⟨⟨l⟩⟩:=s
 rcases List.eq_nil_or_concat l with rfl|⟨l',c,rfl⟩
 .rfl
 .by_cases hc:c=34
  .subst hc
   simp[Lib.hasSuffix,Lib.extract_data,ByteArray.size]
  .simp[Lib.hasSuffix,hc,Ne.symm hc]
theorem lu:jP:=by
 intro w neg t ht ⟨_,⟨ev,h3,h4⟩,⟨ev2,h5,h6⟩⟩
 have hsz:(if neg then⟨#[45]⟩++t else t:ByteArray).size<=1000001:=by
  split
  .rw[ByteArray.size_append];show 1+t.size<=_;omega
  .omega
 have hl:(if neg then⟨#[45]⟩++t else t:ByteArray).data.toList=if neg then 45::t.data.toList else t.data.toList:=by split <;> simp
 cases hp:Lib.parseIntB 64 (if neg then 45::t.data.toList else t.data.toList)
 .rename_i v
  refine(Tryz.strconv_ParseInt_10_at64_ok _ (by omega) v (by rw[hl];exact hp) w).mono fun e w' h=>?_
  obtain⟨rfl,hw⟩:=h
  simp only[dQ,hp]
  refine⟨rfl,?_⟩
  rcases hw with rfl|⟨t,rfl⟩
  .exact Fr.refl _ _
  .exact Fr.of_below (Lib.bytesWorld_below _ _ _) (by intro k h1 h2;omega)
 .refine(Any.strconv_ParseInt_10_at64_syntax Tryz.laysC174 _ (by omega) (by rw[hl];exact hp) ev w h3 h4).mono fun e w' h=>?_
  obtain⟨N,rfl,_,_,hb⟩:=h
  simp only[dQ,hp]
  exact⟨_,_,_,rfl,Fr.of_below hb (by intro k h1 h2;omega)⟩
 .refine(Tryz.strconv_ParseInt_10_at64_range _ (by omega) (by rw[hl];exact hp) ev2 w h5 h6).mono fun e w' h=>?_
  obtain⟨N,rfl,_,_,hb⟩:=h
  simp only[dQ,hp]
  exact⟨_,_,_,rfl,Fr.of_below hb (by intro k h1 h2;omega)⟩
end Go.Proofs.YtbdhlpeckennjaaGreatDoor
