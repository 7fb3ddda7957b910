/- FnLong (the proof that the law returns true for every input), part 34 of 52; the last part says what is proved, and its condition. -/
import Derived.Deep.LoopGhost
import Derived.Test.YtbdhlpeckennjaaGreatDoorM30
import Derived.Test.YtbdhlpeckennjaaGreatDoorM33
set_option linter.unusedVariables false
set_option linter.unusedSimpArgs false
set_option maxHeartbeats 80000000
set_option maxRecDepth 1000000
namespace Go.Proofs.YtbdhlpeckennjaaGreatDoor
open Go Go.RowKit
theorem eB(w:World)(c:Int):Calls Tryz.prog 140 #[.int .i32 c] w fun e w'=>e = .returned (.bool (gv c))/\w'=w:=by
 go_enter Tryz.func140,Tryz.ntmps140
 go_wp2
 all_goals go_ret
 all_goals refine⟨?_,rfl⟩
 all_goals congr 2
 all_goals unfold gv
 all_goals simp_all
 all_goals omega
theorem gx(w:World)(c:Int):Calls Tryz.prog 141 #[.int .i32 c] w fun e w'=>e = .returned (.bool (decB c))/\w'=w:=by
 go_enter Tryz.func141,Tryz.ntmps141
 go_wp2
 all_goals go_ret
 all_goals refine⟨?_,rfl⟩
 all_goals congr 2
 all_goals unfold decB
 all_goals simp_all
 all_goals omega
theorem ef(w:World)(c:Int):Calls Tryz.prog 109 #[.int .i32 c] w fun e w'=>e = .returned (.bool (decB c))/\w'=w:=by
 go_enter Tryz.func109,Tryz.ntmps109
 go_wp2
 all_goals go_ret
 all_goals refine⟨?_,rfl⟩
 all_goals congr 2
 all_goals unfold decB
 all_goals simp_all
 all_goals omega
theorem ry(w:World)(c:Int):Calls Tryz.prog 105 #[.int .i32 c] w fun e w'=>e = .returned (.bool (wsB c))/\w'=w:=by
 go_enter Tryz.func105,Tryz.ntmps105
 go_wp2
 all_goals go_ret
 all_goals refine⟨?_,rfl⟩
 all_goals congr 2
 all_goals unfold wsB
 all_goals simp_all
 all_goals omega
theorem dx(w:World)(c:Int)(first:Bool):Calls Tryz.prog 107 #[.int .i32 c,.bool first] w fun e w'=>e = .returned (.bool (bh c first))/\w'=w:=by
 by_cases h95:c=95
 .subst h95
  go_enter Tryz.func107,Tryz.ntmps107
  go_wp2
  go_ret
  exact⟨by simp[bh],rfl⟩
 have hn:(c == 95)=false:=by simp[h95]
 cases hl:gv c
 .cases hd:decB c
  .go_enter Tryz.func107,Tryz.ntmps107
   go_wp2_with fail
   refine(eB _ c).mono ?_
   rintro e w1 ⟨rfl,rfl⟩
   rw[hl]
   go_wp2_with fail
   refine(gx _ c).mono ?_
   rintro e w1 ⟨rfl,rfl⟩
   rw[hd]
   go_wp2
   go_ret
   exact⟨by simp[bh,hl,hd,h95],rfl⟩
  .go_enter Tryz.func107,Tryz.ntmps107
   go_wp2_with fail
   refine(eB _ c).mono ?_
   rintro e w1 ⟨rfl,rfl⟩
   rw[hl]
   go_wp2_with fail
   refine(gx _ c).mono ?_
   rintro e w1 ⟨rfl,rfl⟩
   rw[hd]
   go_wp2
   go_ret
   exact⟨by simp[bh,hl,hd,h95],rfl⟩
 .go_enter Tryz.func107,Tryz.ntmps107
  go_wp2_with fail
  refine(eB _ c).mono ?_
  rintro e w1 ⟨rfl,rfl⟩
  rw[hl]
  go_wp2
  go_ret
  exact⟨by simp[bh,hl],rfl⟩
theorem fv(b:Bool):bh (-1) b=false:=by cases b <;> decide
theorem iL:decB (-1)=false:=by decide
theorem dV(v:List UInt8):(nxt v).length<=v.length:=by rw[gt];omega
theorem lA{p:Int->Bool}(hp:p (-1)=false){v:List UInt8}(h:p (chr v)=true):(nxt v).length < v.length:=bZ (by rintro rfl;rw[cJ,hp]at h;cases h)
theorem jU(w:World)(V:Env)(v:List UInt8)(tk:Option Nat)(er:Bool)(ch:KP)(h:Cu w V v tk er ch) :
  Calls Tryz.prog 108 #[.pointer (some ⟨V.sb,0,none⟩)] w fun e w'=>e = .returned (.int .i32 (chr (skip (bh · false) (nxt v))))/\Ran w V v tk er ch (skip (bh · false) (nxt v)) true w':=by
 have H0:=hqZ (Ran.start h)
 clear h
 go_enter Tryz.func108,Tryz.ntmps108
 go_wp2_with fail
 refine(H0.out.next).mono ?_
 rintro e w1 ⟨rfl,h1⟩
 have H1:=hqZ h1
 clear h1
 go_wp2_with fail
 go_loopg [3] (v.length+1) (fun k sl wr=>∃ u,sl = .int .i32 (chr u)/\Ran w V v tk er ch u true wr/\skip (bh · false) (nxt v)=skip (bh · false) u/\u.length < k)
 case atStart=>exact⟨nxt v,rfl,H1.out,rfl,Nat.lt_succ_of_le (dV v)⟩
 case round =>
  obtain⟨u,rfl,h2,hs,hk⟩:=hrel
  have H2:=hqZ h2
  have HS:=hqZ hs
  clear h2 hs H1 H0
  go_wp2_with fail
  refine(dx _ (chr u) false).mono ?_
  rintro e w2 ⟨rfl,rfl⟩
  cases hq:bh (chr u) false
  case false =>
   go_wp2
   go_ret
   rw[HS.out,bj (fv false) hq]
   exact⟨rfl,H2.out⟩
  case true =>
   go_wp2_with fail
   refine(H2.out.next).mono ?_
   rintro e w3 ⟨rfl,h3⟩
   have HN:=hqZ h3
   clear h3
   go_wp2_with fail
   go_roundg (gk - 1)
   case measure=>omega
   case rel=>exact⟨nxt u,rfl,HN.out,by rw[HS.out,bP (fv false),if_pos hq],by have:=lA (p:=(bh · false)) (fv false) hq;omega⟩
theorem mj(w:World)(V:Env)(v:List UInt8)(tk:Option Nat)(er:Bool)(ch:KP)(h:Cu w V v tk er ch) :
  Calls Tryz.prog 110 #[.pointer (some ⟨V.sb,0,none⟩),.int .i32 (chr v)] w fun e w'=>e = .returned (.int .i32 (chr (skip decB v)))/\Ran w V v tk er ch (skip decB v) true w':=by
 have H0:=hqZ (Ran.start h)
 clear h
 go_enter Tryz.func110,Tryz.ntmps110
 go_wp2_with fail
 go_loopg [1] (v.length+1) (fun k sl wr=>∃ u,sl = .int .i32 (chr u)/\Ran w V v tk er ch u true wr/\skip decB v=skip decB u/\u.length < k)
 case atStart=>exact⟨v,rfl,H0.out,rfl,Nat.lt_succ_self _⟩
 case round =>
  obtain⟨u,rfl,h2,hs,hk⟩:=hrel
  have H2:=hqZ h2
  have HS:=hqZ hs
  clear h2 hs H0
  go_wp2_with fail
  refine(ef _ (chr u)).mono ?_
  rintro e w2 ⟨rfl,rfl⟩
  cases hq:decB (chr u)
  case false =>
   go_wp2
   go_ret
   rw[HS.out,bj iL hq]
   exact⟨rfl,H2.out⟩
  case true =>
   go_wp2_with fail
   refine(H2.out.next).mono ?_
   rintro e w3 ⟨rfl,h3⟩
   have HN:=hqZ h3
   clear h3
   go_wp2_with fail
   go_roundg (gk - 1)
   case measure=>omega
   case rel=>exact⟨nxt u,rfl,HN.out,by rw[HS.out,bP iL,if_pos hq],by have:=lA (p:=decB) iL hq;omega⟩
theorem or32(c:Nat)(hc:c<=1114111):∃ m:Int,bits .or .i32 32 (c:Int)=m/\((c < 128/\m=(c:Int)+32 * (1 - (c:Int) / 32 % 2))\/(128<=c/\128<=m/\m < 2097152)):=by
 have h32:32 ||| c < 2 ^ 21:=Nat.or_lt_two_pow (by omega) (by omega)
 have e:bits .or .i32 32 (c:Int)=((32 ||| c:Nat):Int):=by
  show IntKind.i32.wrap ((BitVec.ofInt 32 (32:Int) ||| BitVec.ofInt 32 (c:Int)).toNat:Int)=_
  rw[BitVec.toNat_or,show(BitVec.ofInt 32 (32:Int)).toNat=32 from by decide,BitVec.ofInt_natCast,BitVec.toNat_ofNat,Nat.mod_eq_of_lt (by omega)]
  exact IntWalk.i32_in _ (by omega)
 refine⟨_,e,?_⟩
 by_cases h:c < 128
 .refine .inl ⟨h,?_⟩
  have:∀ c:_root_.Fin 128,((32 ||| c.val:Nat):Int)=(c.val:Int)+32 * (1 - (c.val:Int) / 32 % 2):=by decide
  exact this ⟨c,h⟩
 .refine .inr ⟨by omega,?_,by omega⟩
  have:c<=32 ||| c:=Nat.right_le_or
  omega
theorem fu(w:World)(c:Nat)(hc:c<=1114111):Calls Tryz.prog 171 #[.int .i32 c] w fun e w'=>e = .returned (.bool (cw c).isSome)/\w'=w:=by
 obtain⟨m,hm,h2⟩:=or32 c hc
 go_enter Tryz.func171,Tryz.ntmps171
 go_wp2
 all_goals go_ret
 all_goals refine⟨?_,rfl⟩
 all_goals congr 2
 all_goals unfold cw
 all_goals repeat' split
 all_goals simp
 all_goals omega
theorem eE(w:World)(c d:Nat)(hc:cw c=some d):Calls Tryz.prog 176 #[.int .i32 c] w fun e w'=>e = .returned (.int .i64 d)/\w'=w:=by
 have hc2:(48<=c/\c<=57/\d=c - 48)\/(65<=c/\c<=70/\d=c - 55)\/(97<=c/\c<=102/\d=c - 87):=by
  unfold cw at hc
  repeat' split at hc
  all_goals simp at hc
  all_goals omega
 obtain⟨m,hm,h2⟩:=or32 c (by omega)
 go_enter Tryz.func176,Tryz.ntmps176
 go_wp2
 all_goals go_ret
 all_goals refine⟨?_,rfl⟩
 all_goals refine congrArg (fun x:Int=>Ending.returned (.int .i64 x)) ?_
 all_goals omega
theorem gN{c d:Nat}(h:cw c=some d):d < 16:=by
 unfold cw at h
 repeat' split at h
 all_goals simp at h
 all_goals omega
def EV (w:World)(r:Option (Nat × Nat))(e:Ending)(w':World):Prop :=
 (match r with
  | some (c,j)=>e = .returned (.tuple #[.int .i32 c,.int .i64 j,.nilIface])
  | none=>∃ (i:Int) (t:TypeId) (u:Value),e = .returned (.tuple #[.int .i32 0,.int .i64 i,.iface t u]))/\New w w'
theorem NR.bad{w w':World}{s:ByteArray}{i:Nat}{e:Ending}(h:NR w s i e w')(hq:(ah s i).1=65533):(∃ (t:TypeId) (u:Value),e = .returned (.tuple #[.int .i32 65533,.int .i64 i,.iface t u]))/\New w w':=⟨by have:=h.1;rwa [if_pos hq]at this,h.2⟩
theorem NR.good{w w':World}{s:ByteArray}{i:Nat}{e:Ending}(h:NR w s i e w')(hq:¬ (ah s i).1=65533):e = .returned (.tuple #[.int .i32 (ah s i).1,.int .i64 ((i+(ah s i).2:Nat):Int),.nilIface])/\New w w':=⟨by have:=h.1;rwa [if_neg hq]at this,h.2⟩
theorem eD(w:World)(g off cap:Nat)(s:ByteArray)(i:Nat)(hi:i<=s.size)(hcap:s.size<=cap)(hmax:s.size<=1000000)(hb:BA w g off s)(hg:Glob w) :
  Calls Tryz.prog 164 #[.slice (some ⟨g,off,none⟩) s.size cap,.int .i64 i] w (EV w (bF s i)):=by
 have T0:=hqZ (Fr.refl (fun _=>False) w)
 have HB:=hqZ hb
 have HG:=hqZ hg
 have HI:=hqZ (bp s i hi)
 clear hb hg
 go_enter Tryz.func164,Tryz.ntmps164
 by_cases q1:(ah s i).1=65533
 case pos =>
  have ER:=hqZ (show bF s i=none from(by simp[bF,q1,cw]))
  (go_wp2_with fail;refine(Calls.mono (aM _ g off cap s i hi hcap hmax (BA.fr (S:=fun _=>False) HB.out (by exact T0.out) id) (HG.out.frN (by exact T0.out))) fun _ _ h=>NR.bad h q1).mono ?_;rintro e v ⟨⟨t,u,rfl⟩,hf⟩;(have xs0:=Fr.size hf;have T1:=hqZ (Fr.transN T0.out hf);clear T0;clear hf))
  go_wp2
  refine bodyPost_ret (v:=(.tuple #[.int .i32 0,.int .i64 ((i:Nat):Int),.iface t u])) (by simp only[results,Tryz.results164];go_simp) rfl ?_
  rw[ER.out]
  exact⟨⟨_,_,_,rfl⟩,by exact T1.out⟩
 (go_wp2_with fail;refine(Calls.mono (aM _ g off cap s i hi hcap hmax (BA.fr (S:=fun _=>False) HB.out (by exact T0.out) id) (HG.out.frN (by exact T0.out))) fun _ _ h=>NR.good h q1).mono ?_;rintro e w1 ⟨rfl,hf⟩;(have xs0:=Fr.size hf;have T1:=hqZ (Fr.transN T0.out hf);clear T0;clear hf))
 (go_wp2_with fail;refine(fu _ _ (cL _ _)).mono ?_;rintro e w2 ⟨rfl,rfl⟩)
 cases h1:cw (ah s i).1 with
 | none =>
  have ER:=hqZ (show bF s i=none from(by simp[bF,h1]))
  (go_wp2_with fail;refine(bv _ _).mono ?_;rintro e v ⟨⟨t,u,rfl⟩,hf⟩;(have xs2:=Fr.size hf;have T0:=hqZ (Fr.transN T1.out hf);clear T1;clear hf))
  go_wp2
  refine bodyPost_ret (v:=(.tuple #[.int .i32 0,.int .i64 ((i+(ah s i).2:Nat):Int),.iface t u])) (by simp only[results,Tryz.results164];go_simp) rfl ?_
  rw[ER.out]
  exact⟨⟨_,_,_,rfl⟩,by exact T0.out⟩
 | some x =>
  (go_wp2_with fail;refine(eE _ _ _ h1).mono ?_;rintro e w2 ⟨rfl,rfl⟩)
  by_cases q2:(ah s (i+(ah s i).2)).1=65533
  case pos =>
   have ER:=hqZ (show bF s i=none from(by simp[bF,h1,q2,show cw 65533=none from rfl]))
   (go_wp2_with fail;refine(Calls.mono (aM _ g off cap s (i+(ah s i).2) HI.out hcap hmax (BA.fr (S:=fun _=>False) HB.out (by exact T1.out) id) (HG.out.frN (by exact T1.out))) fun _ _ h=>NR.bad h q2).mono ?_;rintro e v ⟨⟨t,u,rfl⟩,hf⟩;(have xs2:=Fr.size hf;have T0:=hqZ (Fr.transN T1.out hf);clear T1;clear hf))
   go_wp2
   refine bodyPost_ret (v:=(.tuple #[.int .i32 0,.int .i64 (((i+(ah s i).2):Nat):Int),.iface t u])) (by simp only[results,Tryz.results164];go_simp) rfl ?_
   rw[ER.out]
   exact⟨⟨_,_,_,rfl⟩,by exact T0.out⟩
  (go_wp2_with fail;refine(Calls.mono (aM _ g off cap s (i+(ah s i).2) HI.out hcap hmax (BA.fr (S:=fun _=>False) HB.out (by exact T1.out) id) (HG.out.frN (by exact T1.out))) fun _ _ h=>NR.good h q2).mono ?_;rintro e w3 ⟨rfl,hf⟩;(have xs2:=Fr.size hf;have T0:=hqZ (Fr.transN T1.out hf);clear T1;clear hf))
  (go_wp2_with fail;refine(fu _ _ (cL _ _)).mono ?_;rintro e w4 ⟨rfl,rfl⟩)
  have HJ:=hqZ (bp s _ HI.out)
  cases h2:cw (ah s (i+(ah s i).2)).1 with
  | none =>
   have ER:=hqZ (show bF s i=none from(by simp[bF,h1,h2]))
   (go_wp2_with fail;refine(bv _ _).mono ?_;rintro e v ⟨⟨t,u,rfl⟩,hf⟩;(have xs4:=Fr.size hf;have T1:=hqZ (Fr.transN T0.out hf);clear T0;clear hf))
   go_wp2
   refine bodyPost_ret (v:=(.tuple #[.int .i32 0,.int .i64 ((i+(ah s i).2+(ah s (i+(ah s i).2)).2:Nat):Int),.iface t u])) (by simp only[results,Tryz.results164];go_simp) rfl ?_
   rw[ER.out]
   exact⟨⟨_,_,_,rfl⟩,by exact T1.out⟩
  | some y =>
   have hx:=gN h1
   have hy:=gN h2
   (go_wp2_with fail;refine(eE _ _ _ h2).mono ?_;rintro e w2 ⟨rfl,rfl⟩)
   cases q3:decide ((127:Int) < 16 * (x:Int)+(y:Int))
   case true =>
    have ER:=hqZ (show bF s i=none from(by simp[bF,h1,h2];simp at q3;omega))
    (go_wp2_with fail;refine(bv _ _).mono ?_;rintro e v ⟨⟨t,u,rfl⟩,hf⟩;(have xs4:=Fr.size hf;have T1:=hqZ (Fr.transN T0.out hf);clear T0;clear hf))
    go_wp2
    refine bodyPost_ret (v:=(.tuple #[.int .i32 0,.int .i64 ((i+(ah s i).2+(ah s (i+(ah s i).2)).2:Nat):Int),.iface t u])) (by simp only[results,Tryz.results164];go_simp) rfl ?_
    rw[ER.out]
    exact⟨⟨_,_,_,rfl⟩,by exact T1.out⟩
   case false =>
    have ER:=hqZ (show bF s i=some (16 * x+y,i+(ah s i).2+(ah s (i+(ah s i).2)).2)from by simp[bF,h1,h2];simp at q3;omega)
    go_wp2
    refine bodyPost_ret (v:=(.tuple #[.int .i32 (16 * (x:Int)+(y:Int)),.int .i64 ((i:Int)+((ah s i).2:Int)+((ah s (i+(ah s i).2)).2:Int)),.nilIface])) (by simp only[results,Tryz.results164];go_simp) rfl ?_
    rw[ER.out]
    refine⟨?_,by exact T0.out⟩
    push_cast
    rfl
theorem rA(c:Nat):hexB (c:Int)=(cw c).isSome:=by
 unfold hexB decB cw
 repeat' split
 all_goals simp
 all_goals omega
theorem oo(w:World)(c:Int)(h1 : -1<=c)(h2:c<=1114111):Calls Tryz.prog 171 #[.int .i32 c] w fun e w'=>e = .returned (.bool (hexB c))/\w'=w:=by
 by_cases hc:c = -1
 .subst hc
  have hb:bits .or .i32 32 (-1) = -1:=by decide
  go_enter Tryz.func171,Tryz.ntmps171
  go_wp2
  all_goals go_ret
  all_goals exact⟨by first|rfl|(simp;decide)|decide,rfl⟩
 .obtain⟨n,rfl⟩:∃ n:Nat,c=n:=⟨c.toNat,by omega⟩
  refine(fu w n (by omega)).mono ?_
  rintro e w' ⟨rfl,rfl⟩
  exact⟨by rw[rA],rfl⟩
theorem gX(w:World)(V:Env)(v:List UInt8)(tk:Option Nat)(er:Bool)(ch:KP)(h:Cu w V v tk er ch)(mn mx:Nat)(hmn:mn<=mx)(hmx:mx<=100) :
  Calls Tryz.prog 157 #[.pointer (some ⟨V.sb,0,none⟩),.int .i32 (chr v),.int .i64 mn,.int .i64 mx] w fun e w'=>e = .returned (.int .i32 (chr (aY mn mx 0 v).1))/\Ran w V v tk er ch (aY mn mx 0 v).1 (aY mn mx 0 v).2 w':=by
 have H0:=hqZ (Ran.start h)
 clear h
 go_enter Tryz.func157,Tryz.ntmps157
 go_wp2_with fail
 go_loopg [1,9] mx (fun k sl sn wr=>∃ (u:List UInt8) (n:Nat),sl = .int .i32 (chr u)/\sn = .int .i64 (n:Int)/\n+k=mx/\Ran w V v tk er ch u true wr/\aY mn mx 0 v=aY mn k n u)
 case atStart=>exact⟨v,0,rfl,rfl,by omega,H0.out,rfl⟩
 case round =>
  obtain⟨u,n,rfl,rfl,hnk,h2,hs⟩:=hrel
  have H2:=hqZ h2
  have HS:=hqZ hs
  clear h2 hs H0
  have hcl:=rS u
  by_cases hk0:gk=0
  case pos =>
   subst hk0
   have e1:n=mx:=by omega
   subst e1
   have ER:=hqZ (show aY mn n 0 v=(u,true)from by rw[HS.out];unfold aY;rw[decide_eq_true hmn])
   have q1:¬ (n:Int) < (n:Int):=by omega
   have q2:¬ (n:Int) < (mn:Int):=by omega
   go_wp2_with fail
   go_ret
   rw[ER.out]
   exact⟨rfl,H2.out⟩
  case neg =>
   obtain⟨k,rfl⟩:∃ k,gk=k+1:=⟨gk - 1,by omega⟩
   have q1:(n:Int) < (mx:Int):=by omega
   go_wp2_with fail
   refine(oo _ (chr u) hcl.1 hcl.2).mono ?_
   rintro e w2 ⟨rfl,rfl⟩
   cases hq:hexB (chr u)
   case false =>
    have q3:¬ (mx:Int) < (n:Int):=by omega
    by_cases hlt:n < mn
    case pos =>
     have q2:(n:Int) < (mn:Int):=by omega
     have ER:=hqZ (show aY mn mx 0 v=(u,false)from by rw[HS.out];unfold aY;rw[if_neg (by simp[hq]),decide_eq_false (by omega)])
     go_wp2_with fail
     refine(H2.out.err _).mono ?_
     rintro e w3 ⟨rfl,h3⟩
     have H3:=hqZ h3
     clear h3
     go_wp2_with fail
     go_ret
     rw[ER.out]
     exact⟨rfl,H3.out⟩
    case neg =>
     have q2:¬ (n:Int) < (mn:Int):=by omega
     have ER:=hqZ (show aY mn mx 0 v=(u,true)from by rw[HS.out];unfold aY;rw[if_neg (by simp[hq]),decide_eq_true (by omega)])
     go_wp2_with fail
     go_ret
     rw[ER.out]
     exact⟨rfl,H2.out⟩
   case true =>
    go_wp2_with fail
    refine(H2.out.next).mono ?_
    rintro e w3 ⟨rfl,h3⟩
    have HN:=hqZ h3
    clear h3
    have hw:IntKind.i64.wrap ((n:Int)+1)=((n+1:Nat):Int):=(IntWalk.i64_in _ (by omega)).trans (by push_cast;rfl)
    go_wp2_with fail
    go_roundg k
    case measure=>omega
    case rel=>exact⟨nxt u,n+1,rfl,rfl,by omega,HN.out,by rw[HS.out];conv=>lhs;unfold aY;rw[if_pos hq]⟩
theorem mo(w:World)(V:Env)(v:List UInt8)(tk:Option Nat)(er:Bool)(ch:KP)(h:Cu w V v tk er ch) :
  Calls Tryz.prog 142 #[.pointer (some ⟨V.sb,0,none⟩)] w fun e w'=>e = .returned (.int .i32 (chr (aF (nxt v)).1))/\Ran w V v tk er ch (aF (nxt v)).1 (aF (nxt v)).2 w':=by
 have H0:=hqZ (Ran.start h)
 clear h
 go_enter Tryz.func142,Tryz.ntmps142
 go_wp2_with fail
 refine(H0.out.next).mono ?_
 rintro e w1 ⟨rfl,h1⟩
 have H1:=hqZ h1
 clear h1 H0
 obtain⟨c,hc⟩:∃ c,chr (nxt v)=c:=⟨_,rfl⟩
 rw[hc]
 have HC:=hqZ hc
 by_cases c1:c=110
 case pos =>
  subst c1
  have ER:=hqZ (show aF (nxt v)=(nxt (nxt v),true)from by unfold aF;rw[hc];simp)
  go_wp2_with fail
  refine(H1.out.next).mono ?_
  rintro e w2 ⟨rfl,h2⟩
  have H2:=hqZ h2
  clear h2
  go_wp2_with fail
  go_ret
  rw[ER.out]
  exact⟨rfl,H2.out⟩
 by_cases c2:c=114
 case pos =>
  subst c2
  have ER:=hqZ (show aF (nxt v)=(nxt (nxt v),true)from by unfold aF;rw[hc];simp)
  go_wp2_with fail
  refine(H1.out.next).mono ?_
  rintro e w2 ⟨rfl,h2⟩
  have H2:=hqZ h2
  clear h2
  go_wp2_with fail
  go_ret
  rw[ER.out]
  exact⟨rfl,H2.out⟩
 by_cases c3:c=116
 case pos =>
  subst c3
  have ER:=hqZ (show aF (nxt v)=(nxt (nxt v),true)from by unfold aF;rw[hc];simp)
  go_wp2_with fail
  refine(H1.out.next).mono ?_
  rintro e w2 ⟨rfl,h2⟩
  have H2:=hqZ h2
  clear h2
  go_wp2_with fail
  go_ret
  rw[ER.out]
  exact⟨rfl,H2.out⟩
 by_cases c4:c=92
 case pos =>
  subst c4
  have ER:=hqZ (show aF (nxt v)=(nxt (nxt v),true)from by unfold aF;rw[hc];simp)
  go_wp2_with fail
  refine(H1.out.next).mono ?_
  rintro e w2 ⟨rfl,h2⟩
  have H2:=hqZ h2
  clear h2
  go_wp2_with fail
  go_ret
  rw[ER.out]
  exact⟨rfl,H2.out⟩
 by_cases c5:c=48
 case pos =>
  subst c5
  have ER:=hqZ (show aF (nxt v)=(nxt (nxt v),true)from by unfold aF;rw[hc];simp)
  go_wp2_with fail
  refine(H1.out.next).mono ?_
  rintro e w2 ⟨rfl,h2⟩
  have H2:=hqZ h2
  clear h2
  go_wp2_with fail
  go_ret
  rw[ER.out]
  exact⟨rfl,H2.out⟩
 by_cases c6:c=39
 case pos =>
  subst c6
  have ER:=hqZ (show aF (nxt v)=(nxt (nxt v),true)from by unfold aF;rw[hc];simp)
  go_wp2_with fail
  refine(H1.out.next).mono ?_
  rintro e w2 ⟨rfl,h2⟩
  have H2:=hqZ h2
  clear h2
  go_wp2_with fail
  go_ret
  rw[ER.out]
  exact⟨rfl,H2.out⟩
 by_cases c7:c=34
 case pos =>
  subst c7
  have ER:=hqZ (show aF (nxt v)=(nxt (nxt v),true)from by unfold aF;rw[hc];simp)
  go_wp2_with fail
  refine(H1.out.next).mono ?_
  rintro e w2 ⟨rfl,h2⟩
  have H2:=hqZ h2
  clear h2
  go_wp2_with fail
  go_ret
  rw[ER.out]
  exact⟨rfl,H2.out⟩
 by_cases c8:c=42
 case pos =>
  subst c8
  have ER:=hqZ (show aF (nxt v)=(nxt (nxt v),true)from by unfold aF;rw[hc];simp)
  go_wp2_with fail
  refine(H1.out.next).mono ?_
  rintro e w2 ⟨rfl,h2⟩
  have H2:=hqZ h2
  clear h2
  go_wp2_with fail
  go_ret
  rw[ER.out]
  exact⟨rfl,H2.out⟩
 by_cases c9:c=120
 case pos =>
  subst c9
  have ER:=hqZ (show aF (nxt v)=aY 2 2 0 (nxt (nxt v))from by unfold aF;rw[hc];simp)
  go_wp2_with fail
  refine(H1.out.next).mono ?_
  rintro e w2 ⟨rfl,h2⟩
  obtain⟨er2,g1,g2,g3⟩:=h2
  go_wp2_with fail
  refine(gX _ V (nxt (nxt v)) tk er2 ch g2 2 2 (by omega) (by omega)).mono ?_
  rintro e w3 ⟨rfl,er3,k1,k2,k3⟩
  have H3:=hqZ (show Ran w V v tk er ch (aY 2 2 0 (nxt (nxt v))).1 (aY 2 2 0 (nxt (nxt v))).2 w3 from⟨er3,(g1.trans k1).as (Bool.true_and _),k2,g3.trans k3⟩)
  clear g1 g2 g3 k1 k2 k3
  go_wp2_with fail
  go_ret
  rw[ER.out]
  exact⟨rfl,H3.out⟩
 by_cases c10:c=117
 case pos =>
  subst c10
  go_wp2_with fail
  refine(H1.out.next).mono ?_
  rintro e w2 ⟨rfl,h2⟩
  have H2:=hqZ h2
  clear h2 H1
  obtain⟨d,hd⟩:∃ d,chr (nxt (nxt v))=d:=⟨_,rfl⟩
  rw[hd]
  have HD:=hqZ hd
  by_cases d1:d=123
  case neg =>
   have ER:=hqZ (show aF (nxt v)=(nxt (nxt v),false)from by unfold aF;simp[hc,hd,d1])
   go_wp2_with fail
   refine(H2.out.err _).mono ?_
   rintro e w3 ⟨rfl,h3⟩
   have H3:=hqZ h3
   clear h3
   go_wp2_with fail
   go_ret
   rw[ER.out]
   exact⟨by rw[hd];rfl,H3.out⟩
  case pos =>
   subst d1
   go_wp2_with fail
   refine(H2.out.next).mono ?_
   rintro e w3 ⟨rfl,h3⟩
   obtain⟨er3,g1,g2,g3⟩:=h3
   go_wp2_with fail
   refine(gX _ V (nxt (nxt (nxt v))) tk er3 ch g2 1 6 (by omega) (by omega)).mono ?_
   rintro e w4 ⟨rfl,er4,k1,k2,k3⟩
   have ER0:aF (nxt v)=if chr (aY 1 6 0 (nxt (nxt (nxt v)))).1=125 then(nxt (aY 1 6 0 (nxt (nxt (nxt v)))).1,(aY 1 6 0 (nxt (nxt (nxt v)))).2)else((aY 1 6 0 (nxt (nxt (nxt v)))).1,false):=by
    unfold aF;simp[hc,hd]
   have H4:=(show Ran w V v tk er ch (aY 1 6 0 (nxt (nxt (nxt v)))).1 (aY 1 6 0 (nxt (nxt (nxt v)))).2 w4 from⟨er4,(g1.trans k1).as (Bool.true_and _),k2,g3.trans k3⟩)
   clear g1 g2 g3 k1 k2 k3 H2
   generalize aY 1 6 0 (nxt (nxt (nxt v)))=r at *
   have H4:=hqZ H4
   obtain⟨x,hx⟩:∃ x,chr r.1=x:=⟨_,rfl⟩
   rw[hx]
   have HX:=hqZ hx
   by_cases x1:x=125
   case neg =>
    have ER:=hqZ (show aF (nxt v)=(r.1,false)from by rw[ER0,if_neg (by rw[hx];exact x1)])
    clear ER0
    go_wp2_with fail
    refine(H4.out.err _).mono ?_
    rintro e w5 ⟨rfl,h5⟩
    have H5:=hqZ h5
    clear h5
    go_wp2_with fail
    go_ret
    rw[ER.out]
    exact⟨by rw[hx];rfl,H5.out⟩
   case pos =>
    have ER:=hqZ (show aF (nxt v)=(nxt r.1,r.2)from by rw[ER0,if_pos (by rw[hx];exact x1)])
    clear ER0
    subst x1
    go_wp2_with fail
    refine(H4.out.next).mono ?_
    rintro e w5 ⟨rfl,h5⟩
    have H5:=hqZ h5
    clear h5
    go_wp2_with fail
    go_ret
    rw[ER.out]
    exact⟨rfl,H5.out⟩
 have ER:=hqZ (show aF (nxt v)=(nxt v,false)from by unfold aF;rw[hc];simp[c1,c2,c3,c4,c5,c6,c7,c8,c9,c10])
 go_wp2_with fail
 refine(H1.out.err _).mono ?_
 rintro e w2 ⟨rfl,h2⟩
 have H2:=hqZ h2
 clear h2
 go_wp2_with fail
 go_ret
 rw[ER.out]
 exact⟨by rw[hc];rfl,H2.out⟩
theorem mi(w:World)(V:Env)(v:List UInt8)(tk:Option Nat)(er:Bool)(ch:KP)(h:Cu w V v tk er ch) :
  Calls Tryz.prog 111 #[.pointer (some ⟨V.sb,0,none⟩)] w fun e w'=>(∃ z:Int,e = .returned (.int .i64 z))/\Ran w V v tk er ch (aI (v.length+1) (nxt v)).1 (aI (v.length+1) (nxt v)).2 w':=by
 have H0:=hqZ (Ran.start h)
 clear h
 go_enter Tryz.func111,Tryz.ntmps111
 go_wp2_with fail
 refine(H0.out.next).mono ?_
 rintro e w1 ⟨rfl,h1⟩
 have H1:=hqZ h1
 clear h1 H0
 go_wp2_with fail
 go_loopg [2,3] (v.length+1) (fun k sn sl wr=>∃ (u:List UInt8) (z:Int) (ok:Bool),sn = .int .i64 z/\sl = .int .i32 (chr u)/\Ran w V v tk er ch u ok wr/\aI (v.length+1) (nxt v)=((aI k u).1,ok && (aI k u).2)/\u.length < k)
 case atStart=>exact⟨nxt v,0,true,rfl,rfl,H1.out,by simp,Nat.lt_succ_of_le (dV v)⟩
 case round =>
  obtain⟨u,z,ok,rfl,rfl,h2,hs,hk⟩:=hrel
  have H2:=hqZ h2
  have HS:=hqZ hs
  clear h2 hs H1
  obtain⟨k,rfl⟩:∃ k,gk=k+1:=⟨gk - 1,by omega⟩
  obtain⟨c,hc⟩:∃ c,chr u=c:=⟨_,rfl⟩
  rw[hc]
  have HC:=hqZ hc
  by_cases c1:c=34
  case pos =>
   have ER:=hqZ (show aI (v.length+1) (nxt v)=(u,ok)from by rw[HS.out];simp[aI,hc,c1])
   subst c1
   go_wp2_with fail
   go_ret
   rw[ER.out]
   exact⟨⟨_,rfl⟩,H2.out⟩
  by_cases c2:c=10
  case pos =>
   have ER:=hqZ (show aI (v.length+1) (nxt v)=(u,false)from by rw[HS.out];simp[aI,hc,c2])
   subst c2
   go_wp2_with fail
   refine(H2.out.err _).mono ?_
   rintro e w3 ⟨rfl,h3⟩
   have H3:=hqZ h3
   clear h3
   go_wp2_with fail
   go_ret
   rw[ER.out]
   exact⟨⟨_,rfl⟩,H3.out⟩
  by_cases c3:c < 0
  case pos =>
   have ER:=hqZ (show aI (v.length+1) (nxt v)=(u,false)from by rw[HS.out];simp[aI,hc,c3,c1])
   go_wp2_with fail
   refine(H2.out.err _).mono ?_
   rintro e w3 ⟨rfl,h3⟩
   have H3:=hqZ h3
   clear h3
   go_wp2_with fail
   go_ret
   rw[ER.out]
   exact⟨⟨_,rfl⟩,H3.out⟩
  have hne:u ≠ []:=by rintro rfl;rw[cJ]at hc;omega
  have hlt:=bZ hne
  by_cases c4:c=92
  case pos =>
   have ER:=hqZ (show aI (v.length+1) (nxt v)=((aI k (aF (nxt u)).1).1,ok && ((aF (nxt u)).2 && (aI k (aF (nxt u)).1).2))from by rw[HS.out];simp[aI,hc,c4])
   have hel:=(iK (nxt u)).len
   subst c4
   go_wp2_with fail
   obtain⟨er2,g1,g2,g3⟩:=H2.out
   refine(mo _ V u tk er2 ch g2).mono ?_
   rintro e w3 ⟨rfl,er3,k1,k2,k3⟩
   have H3:=hqZ (show Ran w V v tk er ch (aF (nxt u)).1 (ok && (aF (nxt u)).2) w3 from⟨er3,g1.trans k1,k2,g3.trans k3⟩)
   clear g1 g2 g3 k1 k2 k3 H2
   go_wp2_with fail
   go_roundg k
   case measure=>omega
   case rel=>exact⟨(aF (nxt u)).1,_,ok && (aF (nxt u)).2,rfl,rfl,H3.out,by rw[ER.out,Bool.and_assoc],by omega⟩
  have ER:=hqZ (show aI (v.length+1) (nxt v)=((aI k (nxt u)).1,ok && (aI k (nxt u)).2)from by rw[HS.out];simp[aI,hc,c1,c2,c3,c4])
  go_wp2_with fail
  refine(H2.out.next).mono ?_
  rintro e w3 ⟨rfl,h3⟩
  have H3:=hqZ h3
  clear h3
  go_wp2_with fail
  go_roundg k
  case measure=>omega
  case rel=>exact⟨nxt u,_,ok,rfl,rfl,H3.out,ER.out,by omega⟩
def dW (c:Int):Bool:=!(c == 10) && decide (0<=c)
theorem fp:dW (-1)=false:=by decide
theorem mq(w:World)(V:Env)(v:List UInt8)(tk:Option Nat)(er:Bool)(ch:KP)(h:Cu w V v tk er ch) :
  Calls Tryz.prog 112 #[.pointer (some ⟨V.sb,0,none⟩),.int .i32 47] w fun e w'=>e = .returned (.int .i32 (chr (skip dW (nxt v))))/\Ran w V v tk er ch (skip dW (nxt v)) true w':=by
 have H0:=hqZ (Ran.start h)
 clear h
 go_enter Tryz.func112,Tryz.ntmps112
 go_wp2_with fail
 refine(H0.out.next).mono ?_
 rintro e w1 ⟨rfl,h1⟩
 have H1:=hqZ h1
 clear h1 H0
 go_wp2_with fail
 go_loopg [1] (v.length+1) (fun k sl wr=>∃ u,sl = .int .i32 (chr u)/\Ran w V v tk er ch u true wr/\skip dW (nxt v)=skip dW u/\u.length < k)
 case atStart=>exact⟨nxt v,rfl,H1.out,rfl,Nat.lt_succ_of_le (dV v)⟩
 case round =>
  obtain⟨u,rfl,h2,hs,hk⟩:=hrel
  have H2:=hqZ h2
  have HS:=hqZ hs
  clear h2 hs H1
  obtain⟨c,hc⟩:∃ c,chr u=c:=⟨_,rfl⟩
  rw[hc]
  have HC:=hqZ hc
  by_cases c2:c=10
  case pos =>
   subst c2
   go_wp2_with fail
   go_ret
   rw[HS.out,bj fp (by rw[HC.out];decide)]
   exact⟨by rw[HC.out];rfl,H2.out⟩
  by_cases c3:c < 0
  case pos =>
   have q1:¬ 0<=c:=by omega
   go_wp2_with fail
   go_ret
   rw[HS.out,bj fp (by rw[HC.out];simp[dW,q1])]
   exact⟨by rw[HC.out];rfl,H2.out⟩
  have q1:0<=c:=by omega
  have hne:u ≠ []:=by rintro rfl;rw[cJ]at hc;omega
  have hlt:=bZ hne
  go_wp2_with fail
  refine(H2.out.next).mono ?_
  rintro e w3 ⟨rfl,h3⟩
  have HN:=hqZ h3
  clear h3
  go_wp2_with fail
  go_roundg (gk - 1)
  case measure=>omega
  case rel=>exact⟨nxt u,rfl,HN.out,by rw[HS.out,bP fp,if_pos (by rw[HC.out];simp[dW,q1,c2])],by omega⟩
theorem je(w:World)(V:Env)(v:List UInt8)(tk:Option Nat)(er:Bool)(ch:KP)(h:Cu w V v tk er ch)(c0:Int) :
  Calls Tryz.prog 113 #[.pointer (some ⟨V.sb,0,none⟩),.int .i32 c0,.int .i32 (chr v)] w fun e w'=>e = .returned (.tuple #[.int .i64 (az c0 v).1,.int .i32 (chr (az c0 v).2)])/\Ran w V v tk er ch (az c0 v).2 true w':=by
 have H0:=hqZ (Ran.start h)
 clear h
 go_enter Tryz.func113,Tryz.ntmps113
 by_cases c1:c0=64
 case pos =>
  subst c1
  have ER:=hqZ (show az 64 v=(5,v)from by unfold az;simp)
  go_wp2_with fail
  go_ret2
  rw[ER.out]
  exact⟨rfl,H0.out⟩
 have n64:=c1;clear c1
 by_cases c1:c0=46
 case pos =>
  subst c1
  have ER:=hqZ (show az 46 v=(5,v)from by unfold az;simp)
  go_wp2_with fail
  go_ret2
  rw[ER.out]
  exact⟨rfl,H0.out⟩
 have n46:=c1;clear c1
 by_cases c1:c0=44
 case pos =>
  subst c1
  have ER:=hqZ (show az 44 v=(5,v)from by unfold az;simp)
  go_wp2_with fail
  go_ret2
  rw[ER.out]
  exact⟨rfl,H0.out⟩
 have n44:=c1;clear c1
 by_cases c1:c0=59
 case pos =>
  subst c1
  have ER:=hqZ (show az 59 v=(5,v)from by unfold az;simp)
  go_wp2_with fail
  go_ret2
  rw[ER.out]
  exact⟨rfl,H0.out⟩
 have n59:=c1;clear c1
 by_cases c1:c0=40
 case pos =>
  subst c1
  have ER:=hqZ (show az 40 v=(5,v)from by unfold az;simp)
  go_wp2_with fail
  go_ret2
  rw[ER.out]
  exact⟨rfl,H0.out⟩
 have n40:=c1;clear c1
 by_cases c1:c0=41
 case pos =>
  subst c1
  have ER:=hqZ (show az 41 v=(5,v)from by unfold az;simp)
  go_wp2_with fail
  go_ret2
  rw[ER.out]
  exact⟨rfl,H0.out⟩
 have n41:=c1;clear c1
 by_cases c1:c0=123
 case pos =>
  subst c1
  have ER:=hqZ (show az 123 v=(5,v)from by unfold az;simp)
  go_wp2_with fail
  go_ret2
  rw[ER.out]
  exact⟨rfl,H0.out⟩
 have n123:=c1;clear c1
 by_cases c1:c0=125
 case pos =>
  subst c1
  have ER:=hqZ (show az 125 v=(5,v)from by unfold az;simp)
  go_wp2_with fail
  go_ret2
  rw[ER.out]
  exact⟨rfl,H0.out⟩
 have n125:=c1;clear c1
 by_cases c1:c0=91
 case pos =>
  subst c1
  have ER:=hqZ (show az 91 v=(5,v)from by unfold az;simp)
  go_wp2_with fail
  go_ret2
  rw[ER.out]
  exact⟨rfl,H0.out⟩
 have n91:=c1;clear c1
 by_cases c1:c0=93
 case pos =>
  subst c1
  have ER:=hqZ (show az 93 v=(5,v)from by unfold az;simp)
  go_wp2_with fail
  go_ret2
  rw[ER.out]
  exact⟨rfl,H0.out⟩
 have n93:=c1;clear c1
 by_cases c1:c0=43
 case pos =>
  subst c1
  have ER:=hqZ (show az 43 v=(5,v)from by unfold az;simp)
  go_wp2_with fail
  go_ret2
  rw[ER.out]
  exact⟨rfl,H0.out⟩
 have n43:=c1;clear c1
 by_cases c1:c0=45
 case pos =>
  subst c1
  have ER:=hqZ (show az 45 v=(5,v)from by unfold az;simp)
  go_wp2_with fail
  go_ret2
  rw[ER.out]
  exact⟨rfl,H0.out⟩
 have n45:=c1;clear c1
 by_cases c1:c0=42
 case pos =>
  subst c1
  have ER:=hqZ (show az 42 v=(5,v)from by unfold az;simp)
  go_wp2_with fail
  go_ret2
  rw[ER.out]
  exact⟨rfl,H0.out⟩
 have n42:=c1;clear c1
 by_cases c1:c0=58
 case pos =>
  subst c1
  obtain⟨d,hd⟩:∃ d,chr v=d:=⟨_,rfl⟩
  rw[hd]
  have HD:=hqZ hd
  by_cases d1:d=58
  case pos =>
   have ER:=hqZ (show az 58 v=(5,nxt v)from by unfold az;simp[hd,d1])
   subst d1
   go_wp2_with fail
   refine(H0.out.next).mono ?_
   rintro e w2 ⟨rfl,h2⟩
   have H2:=hqZ h2
   clear h2
   go_wp2_with fail
   go_ret2
   rw[ER.out]
   exact⟨rfl,H2.out⟩
  case neg =>
   have ER:=hqZ (show az 58 v=(5,v)from by unfold az;simp[hd,d1])
   go_wp2_with fail
   go_ret2
   rw[ER.out]
   exact⟨by rw[HD.out];rfl,H0.out⟩
 have n58:=c1;clear c1
 by_cases c1:c0=33
 case pos =>
  subst c1
  obtain⟨d,hd⟩:∃ d,chr v=d:=⟨_,rfl⟩
  rw[hd]
  have HD:=hqZ hd
  by_cases d1:d=61
  case pos =>
   have ER:=hqZ (show az 33 v=(5,nxt v)from by unfold az;simp[hd,d1])
   subst d1
   go_wp2_with fail
   refine(H0.out.next).mono ?_
   rintro e w2 ⟨rfl,h2⟩
   have H2:=hqZ h2
   clear h2
   go_wp2_with fail
   go_ret2
   rw[ER.out]
   exact⟨rfl,H2.out⟩
  case neg =>
   have ER:=hqZ (show az 33 v=(5,v)from by unfold az;simp[hd,d1])
   go_wp2_with fail
   go_ret2
   rw[ER.out]
   exact⟨by rw[HD.out];rfl,H0.out⟩
 have n33:=c1;clear c1
 by_cases c1:c0=60
 case pos =>
  subst c1
  obtain⟨d,hd⟩:∃ d,chr v=d:=⟨_,rfl⟩
  rw[hd]
  have HD:=hqZ hd
  by_cases d1:d=61
  case pos =>
   have ER:=hqZ (show az 60 v=(5,nxt v)from by unfold az;simp[hd,d1])
   subst d1
   go_wp2_with fail
   refine(H0.out.next).mono ?_
   rintro e w2 ⟨rfl,h2⟩
   have H2:=hqZ h2
   clear h2
   go_wp2_with fail
   go_ret2
   rw[ER.out]
   exact⟨rfl,H2.out⟩
  case neg =>
   have ER:=hqZ (show az 60 v=(5,v)from by unfold az;simp[hd,d1])
   go_wp2_with fail
   go_ret2
   rw[ER.out]
   exact⟨by rw[HD.out];rfl,H0.out⟩
 have n60:=c1;clear c1
 by_cases c1:c0=62
 case pos =>
  subst c1
  obtain⟨d,hd⟩:∃ d,chr v=d:=⟨_,rfl⟩
  rw[hd]
  have HD:=hqZ hd
  by_cases d1:d=61
  case pos =>
   have ER:=hqZ (show az 62 v=(5,nxt v)from by unfold az;simp[hd,d1])
   subst d1
   go_wp2_with fail
   refine(H0.out.next).mono ?_
   rintro e w2 ⟨rfl,h2⟩
   have H2:=hqZ h2
   clear h2
   go_wp2_with fail
   go_ret2
   rw[ER.out]
   exact⟨rfl,H2.out⟩
  case neg =>
   have ER:=hqZ (show az 62 v=(5,v)from by unfold az;simp[hd,d1])
   go_wp2_with fail
   go_ret2
   rw[ER.out]
   exact⟨by rw[HD.out];rfl,H0.out⟩
 have n62:=c1;clear c1
 by_cases c1:c0=61
 case pos =>
  subst c1
  obtain⟨d,hd⟩:∃ d,chr v=d:=⟨_,rfl⟩
  rw[hd]
  have HD:=hqZ hd
  by_cases d1:d=61
  case pos =>
   have ER:=hqZ (show az 61 v=(5,nxt v)from by unfold az;simp[hd,d1])
   subst d1
   go_wp2_with fail
   refine(H0.out.next).mono ?_
   rintro e w2 ⟨rfl,h2⟩
   have H2:=hqZ h2
   clear h2
   go_wp2_with fail
   go_ret2
   rw[ER.out]
   exact⟨rfl,H2.out⟩
  case neg =>
   have ER:=hqZ (show az 61 v=(6,v)from by unfold az;simp[hd,d1])
   go_wp2_with fail
   go_ret2
   rw[ER.out]
   exact⟨by rw[HD.out];rfl,H0.out⟩
 have n61:=c1;clear c1
 by_cases c1:c0=124
 case pos =>
  subst c1
  obtain⟨d,hd⟩:∃ d,chr v=d:=⟨_,rfl⟩
  rw[hd]
  have HD:=hqZ hd
  by_cases d1:d=124
  case pos =>
   have ER:=hqZ (show az 124 v=(5,nxt v)from by unfold az;simp[hd,d1])
   subst d1
   go_wp2_with fail
   refine(H0.out.next).mono ?_
   rintro e w2 ⟨rfl,h2⟩
   have H2:=hqZ h2
   clear h2
   go_wp2_with fail
   go_ret2
   rw[ER.out]
   exact⟨rfl,H2.out⟩
  case neg =>
   have ER:=hqZ (show az 124 v=(6,v)from by unfold az;simp[hd,d1])
   go_wp2_with fail
   go_ret2
   rw[ER.out]
   exact⟨by rw[HD.out];rfl,H0.out⟩
 have n124:=c1;clear c1
 by_cases c1:c0=38
 case pos =>
  subst c1
  obtain⟨d,hd⟩:∃ d,chr v=d:=⟨_,rfl⟩
  rw[hd]
  have HD:=hqZ hd
  by_cases d1:d=38
  case pos =>
   have ER:=hqZ (show az 38 v=(5,nxt v)from by unfold az;simp[hd,d1])
   subst d1
   go_wp2_with fail
   refine(H0.out.next).mono ?_
   rintro e w2 ⟨rfl,h2⟩
   have H2:=hqZ h2
   clear h2
   go_wp2_with fail
   go_ret2
   rw[ER.out]
   exact⟨rfl,H2.out⟩
  case neg =>
   have ER:=hqZ (show az 38 v=(6,v)from by unfold az;simp[hd,d1])
   go_wp2_with fail
   go_ret2
   rw[ER.out]
   exact⟨by rw[HD.out];rfl,H0.out⟩
 have n38:=c1;clear c1
 have ER:=hqZ (show az c0 v=(6,v)from by unfold az;simp[n64,n46,n44,n59,n40,n41,n123,n125,n91,n93,n43,n45,n42,n58,n33,n60,n62,n61,n124,n38])
 go_wp2_with fail
 go_ret2
 rw[ER.out]
 exact⟨rfl,H0.out⟩
end Go.Proofs.YtbdhlpeckennjaaGreatDoor
