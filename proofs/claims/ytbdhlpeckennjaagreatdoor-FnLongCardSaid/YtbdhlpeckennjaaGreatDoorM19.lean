/- FnLong (the proof that the law returns true for every input), part 19 of 52; the last part says what is proved, and its condition. -/
import Derived.Test.YtbdhlpeckennjaaGreatDoorM07
set_option linter.unusedVariables false
set_option linter.unusedSimpArgs false
set_option maxHeartbeats 80000000
set_option maxRecDepth 1000000
namespace Go.Proofs.YtbdhlpeckennjaaGreatDoor
open Go Go.RowKit
def GotP (pb tb:Nat)(w:World)(r:PR (ByteArray × Ex))(e:Ending)(w':World):Prop :=
 match r with
 | .ok x ts=>∃ (t:TypeId) (u:Value),e = .returned (.tuple #[.string x.1,.agg #[.iface t u],.nilIface])/\Rep w' (w.heap.size <= ·) x.2 (.iface t u)/\PSt w' pb tb ts/\Fr (· = pb) w w'
 | .bad=>∃ (s:ByteArray) (t:TypeId) (u:Value),e = .returned (.tuple #[.string s,.agg #[.nilIface],.iface t u])/\Fr (· = pb) w w'
 | .out=>True
theorem jB(hSV:cC)(E:List Tok->PR Ex)(hE:Does 135 E)(w:World)(pb tb:Nat)(ts:List Tok)(h:PSt w pb tb ts)(hne:cf E ts ≠ .out) :
  Calls Tryz.prog 258 #[.pointer (some ⟨pb,0,none⟩)] w (GotP pb tb w (cf E ts)):=by
 have hft:=aq
 have ltp:=h.lt
 have ltt:=h.lt2
 have P0:=hqZ h
 have T0:=hqZ (Fr.refl (· = pb) w)
 have HN:=hqZ hne
 have HE:=hqZ hE
 have HS:=hqZ hSV
 clear h hne hE hSV
 go_enter Tryz.func258,Tryz.ntmps258
 have hz1:=PSt.fine P0.out |>.hd
 (go_wp2_with fail;refine(ag _ pb tb ts ?_).mono ?_;(all_goals try exact PSt.over (w0:=w) P0.out ((Fr.r.alloc _).alloc _) ltp ltt);rintro e w1 ⟨⟨o,l,c,rfl⟩,hp,hf⟩;(have xs0:=Fr.size hf;simp only[aa,ae,ad,af]at xs0;have T1:=hqZ (Fr.trans ((T0.out.alloc _).alloc _) hf);clear T0;clear P0;have B0:=hqZ (Blk.next ((Blk.at_ _ _ _ (n:=w.heap.size) rfl).alloc _) hf (by show ¬ _;omega));obtain⟨xk0,xl0⟩:=Blk.k1 B0.out;have B1:=hqZ (Blk.next (Blk.at_ _ _ _ (n:=w.heap.size+1) (by simp only[aa,ae,ad,af])) hf (by show ¬ _;omega));obtain⟨xk1,xl1⟩:=Blk.k1 B1.out;have P0:=hqZ hp;clear hp;clear hf))
 cases hk:(((hd ts).kind:Int) == 1)
 case false =>
  have hk':¬ (hd ts).kind=1:=by simp at hk;omega
  (go_wp2_with fail;refine(aD _ _ _ _ _ _ _).mono ?_;rintro e w2 ⟨rfl,hf⟩;(have xs2:=Fr.size hf;simp only[aa,ae,ad,af]at xs2;have T0:=hqZ (Fr.transN (T1.out.alloc _) hf);clear T1;have P1:=hqZ (PSt.new (PSt.over (w0:=w) P0.out (Fr.r.alloc _) ltp ltt) hf);clear P0;have B2:=hqZ (Blk.next (B0.out.alloc _) hf id);clear B0;obtain⟨xk2,xl2⟩:=Blk.k1 B2.out;have B0:=hqZ (Blk.next (B1.out.alloc _) hf id);clear B1;obtain⟨xk3,xl3⟩:=Blk.k1 B0.out;have B1:=hqZ (Blk.next (Blk.at_ _ _ _ (n:=w1.heap.size) rfl) hf id);obtain⟨xk4,xl4⟩:=Blk.k6 B1.out;clear hf;clear xk0 xk1))
  cases hj:(((hd ts).kind:Int) == 4)
  case false =>
   have hj':¬ (hd ts).kind=4:=by simp at hj;omega
   (go_wp2_with fail;refine(aG _ _ _ _ _ _ _).mono ?_;rintro e w3 ⟨rfl,hf⟩;(have xs4:=Fr.size hf;have T1:=hqZ (Fr.transN T0.out hf);clear T0;have P0:=hqZ (PSt.new (P1.out) hf);clear P1;have B3:=hqZ (Blk.next B2.out hf id);clear B2;obtain⟨xk0,xl5⟩:=Blk.k1 B3.out;have B2:=hqZ (Blk.next B0.out hf id);clear B0;obtain⟨xk1,xl6⟩:=Blk.k1 B2.out;have B0:=hqZ (Blk.next B1.out hf id);clear B1;obtain⟨xk10,xl7⟩:=Blk.k6 B0.out;clear hf;clear xk2 xk3 xk4))
   (go_wp2_with fail;refine(ax _ pb tb (adv ts) _ _ ?_).mono ?_;(all_goals try exact P0.out);rintro e w4 ⟨⟨t,u,rfl⟩,hf⟩;(have xs6:=Fr.size hf;have T0:=hqZ (Fr.transN T1.out hf);clear T1;have P1:=hqZ (PSt.new (P0.out) hf);clear P0;have B1:=hqZ (Blk.next B3.out hf id);clear B3;obtain⟨xk2,xl8⟩:=Blk.k1 B1.out;have B3:=hqZ (Blk.next B2.out hf id);clear B2;obtain⟨xk3,xl9⟩:=Blk.k1 B3.out;have B2:=hqZ (Blk.next B0.out hf id);clear B0;obtain⟨xk4,xl10⟩:=Blk.k6 B2.out;clear hf;clear xk0 xk1 xk10))
   go_wp2
   refine bodyPost_ret (v:=(.tuple #[.string ⟨#[]⟩,.agg #[.nilIface],.iface t u])) (by simp only[results,Tryz.results258];go_simp) rfl ?_
   rw[show cf E ts = .bad from by simp[cf,hk',hj']]
   exact⟨_,t,u,rfl,by exact(T0.out.set (.inr (Nat.le_refl _)))⟩
  case true =>
   have hj':(hd ts).kind=4:=by simp at hj;omega
   (go_wp2_with fail;refine(aG _ _ _ _ _ _ _).mono ?_;rintro e w3 ⟨rfl,hf⟩;(have xs4:=Fr.size hf;have T1:=hqZ (Fr.transN T0.out hf);clear T0;have P0:=hqZ (PSt.new (P1.out) hf);clear P1;have B3:=hqZ (Blk.next B2.out hf id);clear B2;obtain⟨xk0,xl5⟩:=Blk.k1 B3.out;have B2:=hqZ (Blk.next B0.out hf id);clear B0;obtain⟨xk1,xl6⟩:=Blk.k1 B2.out;have B0:=hqZ (Blk.next B1.out hf id);clear B1;obtain⟨xk10,xl7⟩:=Blk.k6 B0.out;clear hf;clear xk2 xk3 xk4))
   have E0:=hqZ (show cf E ts=(bw (aX (hd ts).text) fun s=>bA E s (adv ts))from by simp[cf,hj'])
   cases hv:aX (hd ts).text with
   | none =>
    (go_wp2_with fail;refine(sv (HS.out _ _ _ _ _ _ _ hz1 (by exact(PSt.glob (P0.out)).1)) hv).mono ?_;rintro e w5 ⟨x,t,u,rfl,hf⟩;(have xs6:=Fr.size hf;have T0:=hqZ (Fr.transN T1.out hf);clear T1;have P1:=hqZ (PSt.new (P0.out) hf);clear P0;have B1:=hqZ (Blk.next B3.out hf id);clear B3;obtain⟨xk2,xl8⟩:=Blk.k1 B1.out;have B3:=hqZ (Blk.next B2.out hf id);clear B2;obtain⟨xk3,xl9⟩:=Blk.k1 B3.out;have B2:=hqZ (Blk.next B0.out hf id);clear B0;obtain⟨xk4,xl10⟩:=Blk.k6 B2.out;clear hf;clear xk0 xk1 xk10))
    go_wp2
    go_region
    all_goals
     go_wp2
     refine bodyPost_ret (v:=(.tuple #[.string ⟨#[]⟩,.agg #[.nilIface],.iface t u])) (by simp only[results,Tryz.results258];go_simp) rfl ?_
     rw[E0.out,hv]
     exact⟨_,t,u,rfl,by exact(T0.out.set (.inr (Nat.le_refl _))).drew⟩
   | some s =>
    have E1:=hqZ (show cf E ts=bA E s (adv ts)from by rw[E0.out,hv];rfl)
    (go_wp2_with fail;refine(sv (HS.out _ _ _ _ _ _ _ hz1 (by exact(PSt.glob (P0.out)).1)) hv).mono ?_;rintro e w5 ⟨rfl,hf⟩;(have xs6:=Fr.size hf;have T0:=hqZ (Fr.transN T1.out hf);clear T1;have P1:=hqZ (PSt.new (P0.out) hf);clear P0;have B1:=hqZ (Blk.next B3.out hf id);clear B3;obtain⟨xk2,xl8⟩:=Blk.k1 B1.out;have B3:=hqZ (Blk.next B2.out hf id);clear B2;obtain⟨xk3,xl9⟩:=Blk.k1 B3.out;have B2:=hqZ (Blk.next B0.out hf id);clear B0;obtain⟨xk4,xl10⟩:=Blk.k6 B2.out;clear hf;clear xk0 xk1 xk10))
    clear hv
    cases hq:((hd (adv ts)).text.toList == [58])
    case false =>
     (go_wp2_with fail;refine(bf _ pb tb _ _ ?_ hq).mono ?_;(all_goals try exact P1.out);rintro e w6 ⟨⟨t,u,rfl⟩,hf⟩;(have xs8:=Fr.size hf;have T1:=hqZ (Fr.trans T0.out hf);clear T0;clear P1;have B0:=hqZ (Blk.next B1.out hf (by show ¬ _;omega));clear B1;obtain⟨xk0,xl11⟩:=Blk.k1 B0.out;have B1:=hqZ (Blk.next B3.out hf (by show ¬ _;omega));clear B3;obtain⟨xk1,xl12⟩:=Blk.k1 B1.out;have B3:=hqZ (Blk.next B2.out hf (by show ¬ _;omega));clear B2;obtain⟨xk10,xl13⟩:=Blk.k6 B3.out;clear hf;clear xk2 xk3 xk4))
     go_wp2
     go_region
     all_goals
      go_wp2
      refine bodyPost_ret (v:=(.tuple #[.string s,.agg #[.nilIface],.iface t u])) (by simp only[results,Tryz.results258];go_simp) rfl ?_
      rw[E1.out,show bA E s (adv ts) = .bad from by simp[bA,ak,Tok.is,hq,PR.bind]]
      exact⟨_,t,u,rfl,by exact(T1.out.set (.inr (Nat.le_refl _))).drew⟩
    case true =>
     have E2:=hqZ (show cf E ts=(E (adv (adv ts))).bind fun v ts3=>.ok (s,v) ts3 from by rw[E1.out];simp only[bA,ak,Tok.is,hq,if_true,PR.bind])
     (go_wp2_with fail;refine(aQ _ pb tb _ _ ?_ hq).mono ?_;(all_goals try exact P1.out);rintro e w6 ⟨rfl,hp,hf⟩;(have xs8:=Fr.size hf;have T1:=hqZ (Fr.trans T0.out hf);clear T0;clear P1;have B0:=hqZ (Blk.next B1.out hf (by show ¬ _;omega));clear B1;obtain⟨xk0,xl11⟩:=Blk.k1 B0.out;have B1:=hqZ (Blk.next B3.out hf (by show ¬ _;omega));clear B3;obtain⟨xk1,xl12⟩:=Blk.k1 B1.out;have B3:=hqZ (Blk.next B2.out hf (by show ¬ _;omega));clear B2;obtain⟨xk10,xl13⟩:=Blk.k6 B3.out;have P0:=hqZ hp;clear hp;clear hf;clear xk2 xk3 xk4))
     cases hs:E (adv (adv ts))with
     | out=>exact absurd (by rw[E2.out,hs];rfl) HN.out
     | bad =>
      (go_wp2_with fail;refine(HE.out.bad (tb:=tb) ?_ hs).mono ?_;(all_goals try exact P0.out);rintro e w7 ⟨t,u,rfl,hf⟩;(have xs10:=Fr.size hf;have T0:=hqZ (Fr.trans T1.out hf);clear T1;clear P0;have B2:=hqZ (Blk.next B0.out hf (by show ¬ _;omega));clear B0;obtain⟨xk2,xl14⟩:=Blk.k1 B2.out;have B0:=hqZ (Blk.next B1.out hf (by show ¬ _;omega));clear B1;obtain⟨xk3,xl15⟩:=Blk.k1 B0.out;have B1:=hqZ (Blk.next B3.out hf (by show ¬ _;omega));clear B3;obtain⟨xk4,xl16⟩:=Blk.k6 B1.out;clear hf;clear xk0 xk1 xk10))
      go_wp2
      go_region
      all_goals
       go_wp2
       refine bodyPost_ret (v:=(.tuple #[.string s,.agg #[.nilIface],.iface t u])) (by simp only[results,Tryz.results258];go_simp) rfl ?_
       rw[E2.out,hs]
       exact⟨_,t,u,rfl,by exact((T0.out.set (.inr (by omega))).set (.inr (Nat.le_refl _))).drew⟩
     | ok y ts1 =>
      (go_wp2_with fail;refine(HE.out.ok (tb:=tb) ?_ hs).mono ?_;(all_goals try exact P0.out);rintro e w7 ⟨t,u,rfl,hy,hp,hf⟩;(have xs10:=Fr.size hf;have T0:=hqZ (Fr.trans T1.out hf);clear T1;clear P0;have B2:=hqZ (Blk.next B0.out hf (by show ¬ _;omega));clear B0;obtain⟨xk2,xl14⟩:=Blk.k1 B2.out;have B0:=hqZ (Blk.next B1.out hf (by show ¬ _;omega));clear B1;obtain⟨xk3,xl15⟩:=Blk.k1 B0.out;have B1:=hqZ (Blk.next B3.out hf (by show ¬ _;omega));clear B3;obtain⟨xk4,xl16⟩:=Blk.k6 B1.out;have X0:=hqZ (Rep.mono (Z':=fun g=>w6.heap.size<=g/\g < w7.heap.size) (hZ:=fun g h1 h2=>⟨h2,h1⟩) (h:=hy));clear hy;have P0:=hqZ hp;clear hp;clear hf;clear xk0 xk1 xk10))
      go_wp2
      go_region
      all_goals
       go_wp2
       refine bodyPost_ret (v:=(.tuple #[.string s,.agg #[.iface t u],.nilIface])) (by simp only[results,Tryz.results258];go_simp) rfl ?_
       rw[E2.out,hs]
       exact⟨t,u,rfl,by exact Rep.mono (h:=(Rep.carry X0.out ((Fr.r.set (.inl (by omega))).set (.inl (by omega))).drew)) (hZ:=fun g _ hg=>by omega),by exact PSt.over (w0:=w) P0.out ((Fr.r.set (.inl (by omega))).set (.inl (by omega))).drew ltp ltt,by exact((T0.out.set (.inr (by omega))).set (.inr (Nat.le_refl _))).drew⟩
 case true =>
  have hk':(hd ts).kind=1:=by simp at hk;omega
  have E1:=hqZ (show cf E ts=bA E (hd ts).text (adv ts)from by simp[cf,hk'])
  (go_wp2_with fail;refine(aD _ _ _ _ _ _ _).mono ?_;rintro e w2 ⟨rfl,hf⟩;(have xs2:=Fr.size hf;simp only[aa,ae,ad,af]at xs2;have T0:=hqZ (Fr.transN (T1.out.alloc _) hf);clear T1;have P1:=hqZ (PSt.new (PSt.over (w0:=w) P0.out (Fr.r.alloc _) ltp ltt) hf);clear P0;have B2:=hqZ (Blk.next (B0.out.alloc _) hf id);clear B0;obtain⟨xk2,xl2⟩:=Blk.k1 B2.out;have B0:=hqZ (Blk.next (B1.out.alloc _) hf id);clear B1;obtain⟨xk3,xl3⟩:=Blk.k1 B0.out;have B1:=hqZ (Blk.next (Blk.at_ _ _ _ (n:=w1.heap.size) rfl) hf id);obtain⟨xk4,xl4⟩:=Blk.k6 B1.out;clear hf;clear xk0 xk1))
  cases hq:((hd (adv ts)).text.toList == [58])
  case false =>
   (go_wp2_with fail;refine(bf _ pb tb _ _ ?_ hq).mono ?_;(all_goals try exact P1.out);rintro e w6 ⟨⟨t,u,rfl⟩,hf⟩;(have xs4:=Fr.size hf;have T1:=hqZ (Fr.trans T0.out hf);clear T0;clear P1;have B3:=hqZ (Blk.next B2.out hf (by show ¬ _;omega));clear B2;obtain⟨xk0,xl5⟩:=Blk.k1 B3.out;have B2:=hqZ (Blk.next B0.out hf (by show ¬ _;omega));clear B0;obtain⟨xk1,xl6⟩:=Blk.k1 B2.out;have B0:=hqZ (Blk.next B1.out hf (by show ¬ _;omega));clear B1;obtain⟨xk10,xl7⟩:=Blk.k6 B0.out;clear hf;clear xk2 xk3 xk4))
   go_wp2
   go_region
   all_goals
    go_wp2
    refine bodyPost_ret (v:=(.tuple #[.string (hd ts).text,.agg #[.nilIface],.iface t u])) (by simp only[results,Tryz.results258];go_simp) rfl ?_
    rw[E1.out,show bA E (hd ts).text (adv ts) = .bad from by simp[bA,ak,Tok.is,hq,PR.bind]]
    exact⟨_,t,u,rfl,by exact(T1.out.set (.inr (Nat.le_refl _))).drew⟩
  case true =>
   have E2:=hqZ (show cf E ts=(E (adv (adv ts))).bind fun v ts3=>.ok ((hd ts).text,v) ts3 from by rw[E1.out];simp only[bA,ak,Tok.is,hq,if_true,PR.bind])
   (go_wp2_with fail;refine(aQ _ pb tb _ _ ?_ hq).mono ?_;(all_goals try exact P1.out);rintro e w6 ⟨rfl,hp,hf⟩;(have xs4:=Fr.size hf;have T1:=hqZ (Fr.trans T0.out hf);clear T0;clear P1;have B3:=hqZ (Blk.next B2.out hf (by show ¬ _;omega));clear B2;obtain⟨xk0,xl5⟩:=Blk.k1 B3.out;have B2:=hqZ (Blk.next B0.out hf (by show ¬ _;omega));clear B0;obtain⟨xk1,xl6⟩:=Blk.k1 B2.out;have B0:=hqZ (Blk.next B1.out hf (by show ¬ _;omega));clear B1;obtain⟨xk10,xl7⟩:=Blk.k6 B0.out;have P0:=hqZ hp;clear hp;clear hf;clear xk2 xk3 xk4))
   cases hs:E (adv (adv ts))with
   | out=>exact absurd (by rw[E2.out,hs];rfl) HN.out
   | bad =>
    (go_wp2_with fail;refine(HE.out.bad (tb:=tb) ?_ hs).mono ?_;(all_goals try exact P0.out);rintro e w7 ⟨t,u,rfl,hf⟩;(have xs6:=Fr.size hf;have T0:=hqZ (Fr.trans T1.out hf);clear T1;clear P0;have B1:=hqZ (Blk.next B3.out hf (by show ¬ _;omega));clear B3;obtain⟨xk2,xl8⟩:=Blk.k1 B1.out;have B3:=hqZ (Blk.next B2.out hf (by show ¬ _;omega));clear B2;obtain⟨xk3,xl9⟩:=Blk.k1 B3.out;have B2:=hqZ (Blk.next B0.out hf (by show ¬ _;omega));clear B0;obtain⟨xk4,xl10⟩:=Blk.k6 B2.out;clear hf;clear xk0 xk1 xk10))
    go_wp2
    go_region
    all_goals
     go_wp2
     refine bodyPost_ret (v:=(.tuple #[.string (hd ts).text,.agg #[.nilIface],.iface t u])) (by simp only[results,Tryz.results258];go_simp) rfl ?_
     rw[E2.out,hs]
     exact⟨_,t,u,rfl,by exact((T0.out.set (.inr (by omega))).set (.inr (Nat.le_refl _))).drew⟩
   | ok y ts1 =>
    (go_wp2_with fail;refine(HE.out.ok (tb:=tb) ?_ hs).mono ?_;(all_goals try exact P0.out);rintro e w7 ⟨t,u,rfl,hy,hp,hf⟩;(have xs6:=Fr.size hf;have T0:=hqZ (Fr.trans T1.out hf);clear T1;clear P0;have B1:=hqZ (Blk.next B3.out hf (by show ¬ _;omega));clear B3;obtain⟨xk2,xl8⟩:=Blk.k1 B1.out;have B3:=hqZ (Blk.next B2.out hf (by show ¬ _;omega));clear B2;obtain⟨xk3,xl9⟩:=Blk.k1 B3.out;have B2:=hqZ (Blk.next B0.out hf (by show ¬ _;omega));clear B0;obtain⟨xk4,xl10⟩:=Blk.k6 B2.out;have X0:=hqZ (Rep.mono (Z':=fun g=>w6.heap.size<=g/\g < w7.heap.size) (hZ:=fun g h1 h2=>⟨h2,h1⟩) (h:=hy));clear hy;have P0:=hqZ hp;clear hp;clear hf;clear xk0 xk1 xk10))
    go_wp2
    go_region
    all_goals
     go_wp2
     refine bodyPost_ret (v:=(.tuple #[.string (hd ts).text,.agg #[.iface t u],.nilIface])) (by simp only[results,Tryz.results258];go_simp) rfl ?_
     rw[E2.out,hs]
     exact⟨t,u,rfl,by exact Rep.mono (h:=(Rep.carry X0.out ((Fr.r.set (.inl (by omega))).set (.inl (by omega))).drew)) (hZ:=fun g _ hg=>by omega),by exact PSt.over (w0:=w) P0.out ((Fr.r.set (.inl (by omega))).set (.inl (by omega))).drew ltp ltt,by exact((T0.out.set (.inr (by omega))).set (.inr (Nat.le_refl _))).drew⟩
def mH (w:World)(Z:Nat->Prop)(x:ByteArray × Ex)(cs:List Value):Prop:=∃ t u,cs = [.string x.1,.iface t u]/\Rep w Z x.2 (.iface t u)
instance pairOK:bq mH 2 where
 frame:=fun⟨t,u,e,h⟩ hf hS=>⟨t,u,e,h.frame hf hS⟩
 mono:=fun⟨t,u,e,h⟩ hS=>⟨t,u,e,Rep.mono hS h⟩
 len:=fun⟨t,u,e,h⟩=>by rw[e];rfl
 one:=fun⟨t,u,e,h⟩ v hv=>by rw[e]at hv;simp at hv;rcases hv with rfl|rfl <;> rfl
theorem pairT:ElT 387 392 2 32:=⟨by kernel_rfl,by
 have h:(Tryz.prog.info? 392).map (fun i=>(i.zero.map (·.cells.size),i.size,i.bytes))=some (some 2,2,32):=by kernel_rfl
 obtain⟨i,hi⟩:∃ i,Tryz.prog.info? 392=some i:=by cases hh:Tryz.prog.info? 392 with|none=>rw[hh]at h;cases h|some i=>exact⟨i,rfl⟩
 rw[hi]at h
 simp at h
 obtain⟨⟨z,hz,hc⟩,h1,h2⟩:=h
 exact⟨i,z,hi,hz,h1,h2,hc⟩,by decide,by decide⟩
theorem ri{w:World}{Z:Nat->Prop}{l:List (ByteArray × Ex)}{xs:List Value}(h:EL mH w Z l xs):∃ vs,RepL w Z (l.map (·.2)) vs/\xs=dU (l.map (·.1)) vs:=by
 induction l generalizing xs with
 | nil=>cases h;exact⟨[],.nil,rfl⟩
 | cons x l ih =>
  obtain⟨a,b,rfl,⟨t,u,rfl,hx⟩,h2⟩:=h
  obtain⟨vs,h3,rfl⟩:=ih h2
  exact⟨.iface t u::vs,.cons _ _ _ _ hx h3,rfl⟩
def lR:Prop:=∀ (w:World) (Z:Nat->Prop) (v:Value) (ks:List ByteArray) (l:List Ex) (vs:List Value),Row w Z v l.length 2 (dU ks vs)->RepL w Z l vs->ks.length=l.length->ks.Pairwise (fun a b=>a.toList ≠ b.toList) ->
 Calls Tryz.prog 257 #[v] w fun e w'=>∃ sv,e = .returned (.agg #[.iface 205 (.agg #[sv])])/\Row w' (w.heap.size <= ·) sv l.length 2 (dU ks vs)/\New w w'
theorem pw_snoc{l:List (ByteArray × Ex)}{k:ByteArray}{x:Ex}(h:(l.map (·.1)).Pairwise (fun a b=>a.toList ≠ b.toList))(hn:(l.any fun x=>x.1.toList == k.toList)=false) :
  ((l ++ [(k,x)]).map (·.1)).Pairwise (fun a b:ByteArray=>a.toList ≠ b.toList):=by
 rw[List.map_append,List.pairwise_append]
 refine⟨h,by simp,fun a ha b hb=>?_⟩
 simp only[List.map_cons,List.map_nil,List.mem_singleton]at hb
 subst hb
 obtain⟨y,hy,rfl⟩:=List.mem_map.1 ha
 intro e
 rw[List.any_eq_false]at hn
 exact hn y hy (by simpa using e)
theorem mu(hSV:cC)(hRC:lR)(E:List Tok->PR Ex)(hE:Does 135 E):Does 234 (bE E):=by
 intro w pb tb ts h hne
 have hft:=aq
 have ltp:=h.lt
 have ltt:=h.lt2
 have ll:=h.len
 have P0:=hqZ h
 have T0:=hqZ (Fr.refl (· = pb) w)
 have HN:=hqZ hne
 have HE:=hqZ hE
 have HS:=hqZ hSV
 have HC:=hqZ hRC
 clear h hne hE hSV hRC
 go_enter Tryz.func234,Tryz.ntmps234
 go_wp2_with fail
 go_loopg [5] (ts.length+1) (fun k v wr=>∃ (l:List (ByteArray × Ex)) (ts':List Tok) (mv:Value) (mb:Nat),
  (ai (cj E) k l ts').bind (fun l ts1=>.ok (.rec_ (l.map (·.1)) (l.map (·.2))) ts1)=bE E ts/\PSt wr pb tb ts'/\Fr (· = pb) w wr/\Acc mH wr (fun g=>w.heap.size+1+1 < g/\g ≠ mb) v l 392 2 /\
  KM wr (fun g=>g=mb) mv (l.map (·.1))/\(w.heap.size+1+1<=mb/\mb < wr.heap.size)/\l.length+k<=100001/\(l.map (·.1)).Pairwise (fun a b=>a.toList ≠ b.toList) /\
  Blk wr w.heap.size #[.nilIface] 246/\Blk wr (w.heap.size+1) #[.nilIface] 246/\Blk wr (w.heap.size+1+1) #[mv] 230)
 case atStart=>exact⟨[],ts,.map none,w.heap.size+1+1,rfl,by exact PSt.over (w0:=w) P0.out (((Fr.r.alloc _).alloc _).alloc _) ltp ltt,by exact(((T0.out.alloc _).alloc _).alloc _),Acc.nil _ _ _ _,.inl ⟨rfl,rfl⟩,by simp only[aa];omega,by simp;omega,by simp,by exact(((Blk.at_ _ _ _ (n:=w.heap.size) rfl).alloc _).alloc _),by exact((Blk.at_ _ _ _ (n:=w.heap.size+1) (by simp only[aa,ae,ad,af])).alloc _),by exact(Blk.at_ _ _ _ (n:=w.heap.size+1+1) (by simp only[aa,ae,ad,af]))⟩
 case round =>
  obtain⟨l,ts',mv,mb,e1,hp,hf,hacc,hkm,hmb,hlen,hpw,hb1,hb2,hb3⟩:=hrel
  have HV:=hqZ hacc.lt
  have HPW:=hqZ hpw
  (clear T0;clear P0;have H0:=hqZ hf;have xs0:=Fr.size H0.out;clear hf;have H1:=hqZ hp;clear hp;have H2:=hqZ hb1;obtain⟨xk0,xl0⟩:=Blk.k1 H2.out;clear hb1;have H3:=hqZ hb2;obtain⟨xk1,xl1⟩:=Blk.k1 H3.out;clear hb2;have H4:=hqZ hb3;obtain⟨xk2,xl2⟩:=Blk.k1 H4.out;clear hb3;have H5:=hqZ (Acc.mono (Z':=fun g=>(w.heap.size+1+1 < g/\g ≠ mb)/\g < wr.heap.size) (hZ:=fun g h1 h2=>⟨h2,h1⟩) (h:=hacc));clear hacc;have H6:=hqZ (KM.mono (Z':=fun g=>g=mb/\g < wr.heap.size) (hZ:=fun g h1 h2=>⟨h2,h1⟩) (h:=hkm));clear hkm)
  have E0:=hqZ e1
  clear e1 hpw
  obtain⟨n,rfl⟩:∃ n,gk=n+1:=by
   cases gk with
   | zero=>exact absurd E0.out.symm HN.out
   | succ n=>exact⟨n,rfl⟩
  (go_wp2_with fail;refine(ay _ pb tb ts' ?_).mono ?_;(all_goals try exact H1.out);rintro e v1 ⟨⟨o1,l1,c1,rfl⟩,hf⟩;(have xs1:=Fr.size hf;have T0:=hqZ (Fr.transN H0.out hf);clear H0;have P0:=hqZ (PSt.new (H1.out) hf);clear H1;have B0:=hqZ (Blk.next H2.out hf id);clear H2;obtain⟨xk3,xl3⟩:=Blk.k1 B0.out;have B1:=hqZ (Blk.next H3.out hf id);clear H3;obtain⟨xk4,xl4⟩:=Blk.k1 B1.out;have B2:=hqZ (Blk.next H4.out hf id);clear H4;obtain⟨xk5,xl5⟩:=Blk.k1 B2.out;have X0:=hqZ (Acc.carry H5.out (Fr.transN Fr.r hf));clear H5;have X1:=hqZ (KM.carry H6.out (Fr.transN Fr.r hf));clear H6;clear hf;clear xk0 xk1 xk2))
  cases hq:((hd ts').text.toList == [125])
  case true =>
   have ER:=hqZ (show bE E ts = .ok (.rec_ (l.map (·.1)) (l.map (·.2))) (adv ts')from by rw[<- E0.out];simp[ai,cj,Tok.is,hq,PR.bind])
   (go_wp2_with fail;refine(ag _ pb tb ts' ?_).mono ?_;(all_goals try exact PSt.over (w0:=w) P0.out (Fr.r.alloc _) ltp ltt);rintro e v2 ⟨⟨o2,l2,c2,rfl⟩,hp,hf⟩;(have xs3:=Fr.size hf;simp only[aa,ae,ad,af]at xs3;have T1:=hqZ (Fr.trans (T0.out.alloc _) hf);clear T0;clear P0;have B3:=hqZ (Blk.next (B0.out.alloc _) hf (by show ¬ _;omega));clear B0;obtain⟨xk0,xl6⟩:=Blk.k1 B3.out;have B0:=hqZ (Blk.next (B1.out.alloc _) hf (by show ¬ _;omega));clear B1;obtain⟨xk1,xl7⟩:=Blk.k1 B0.out;have B1:=hqZ (Blk.next (B2.out.alloc _) hf (by show ¬ _;omega));clear B2;obtain⟨xk2,xl8⟩:=Blk.k1 B1.out;have B2:=hqZ (Blk.next (Blk.at_ _ _ _ (n:=v1.heap.size) rfl) hf (by show ¬ _;omega));obtain⟨xk6,xl9⟩:=Blk.k6 B2.out;have X2:=hqZ (Acc.carry X0.out (Fr.trans' (Fr.r.alloc _) hf (fun k _ hs=>by omega)));clear X0;have X0:=hqZ (KM.carry X1.out (Fr.trans' (Fr.r.alloc _) hf (fun k _ hs=>by omega)));clear X1;have P0:=hqZ hp;clear hp;clear hf;clear xk3 xk4 xk5))
   have hacc:Acc mH v2 (fun g=>w.heap.size+1+1 < g/\g ≠ mb) u5 l 392 2:=by exact Acc.mono (h:=X2.out) (hZ:=fun g _ hg=>by omega)
   obtain⟨xs,hrow,hel⟩:=hacc.row (by omega)
   obtain⟨vs,hrl,rfl⟩:=ri hel
   have HR:=hqZ (show Row v2 (fun g=>w.heap.size+1+1 < g/\g ≠ mb) u5 (l.map (·.2)).length 2 (dU (l.map (·.1)) vs)from by simpa using hrow)
   have HL:=hqZ hrl
   clear hacc hel hrow hrl
   (go_wp2_with fail;refine(HC.out _ (fun g=>w.heap.size+1+1 < g/\g ≠ mb) _ (l.map (·.1)) (l.map (·.2)) vs (by exact HR.out) (by exact HL.out) (by simp) HPW.out).mono ?_;rintro e v3 ⟨sv,rfl,hrow2,hf⟩;(have xs5:=Fr.size hf;have T0:=hqZ (Fr.transN T1.out hf);clear T1;have P1:=hqZ (PSt.new (P0.out) hf);clear P0;have B4:=hqZ (Blk.next B3.out hf id);clear B3;obtain⟨xk3,xl10⟩:=Blk.k1 B4.out;have B3:=hqZ (Blk.next B0.out hf id);clear B0;obtain⟨xk4,xl11⟩:=Blk.k1 B3.out;have B0:=hqZ (Blk.next B1.out hf id);clear B1;obtain⟨xk5,xl12⟩:=Blk.k1 B0.out;have B1:=hqZ (Blk.next B2.out hf id);clear B2;obtain⟨xk12,xl13⟩:=Blk.k6 B1.out;have X1:=hqZ (RepL.carry HL.out (Fr.transN Fr.r hf));clear HL;have X3:=hqZ (Row.carry HR.out (Fr.transN Fr.r hf));clear HR;have X4:=hqZ (Row.mono (Z':=fun g=>v2.heap.size<=g/\g < v3.heap.size) (hZ:=fun g h1 h2=>⟨h2,h1⟩) (h:=hrow2));clear hrow2;have X5:=hqZ (Acc.carry X2.out (Fr.transN Fr.r hf));clear X2;have X2:=hqZ (KM.carry X0.out (Fr.transN Fr.r hf));clear X0;clear hf;clear xk0 xk1 xk2 xk6))
   go_wp2
   refine bodyPost_ret (v:=(.tuple #[.agg #[.iface 205 (.agg #[sv])],.nilIface])) (by simp only[results,Tryz.results234];go_simp) rfl ?_
   rw[ER.out]
   exact⟨_,_,rfl,.rec_ _ _ vs sv (by simp) (by exact RepL.mono (h:=(RepL.carry X1.out (Fr.r.set (.inl (by omega))))) (hZ:=fun g _ hg=>by omega)) (by exact Row.mono (h:=(Row.carry X4.out (Fr.r.set (.inl (by omega))))) (hZ:=fun g _ hg=>by omega)),by exact PSt.over (w0:=w) P1.out (Fr.r.set (.inl (by omega))) ltp ltt,by exact(T0.out.set (.inr (Nat.le_refl _)))⟩
  case false =>
   have E1:=hqZ (show bE E ts=(cf E ts').bind fun e ts1=>if l.any (fun x=>x.1.toList == e.1.toList)then .bad else if(hd ts1).is [44]then(ai (cj E) n (l ++ [e]) (adv ts1)).bind (fun l ts1=>.ok (.rec_ (l.map (·.1)) (l.map (·.2))) ts1)else if(hd ts1).is [125]then(ai (cj E) n (l ++ [e]) ts1).bind (fun l ts1=>.ok (.rec_ (l.map (·.1)) (l.map (·.2))) ts1)else .bad from by
    rw[<- E0.out];simp only[ai,cj,Tok.is,hq,Bool.false_eq_true,if_false];cases cf E ts' with
    | ok x ts1 =>
     rcases Bool.eq_false_or_eq_true (l.any fun y=>y.1.toList == x.1.toList)with h0|h0 <;> rcases Bool.eq_false_or_eq_true ((hd ts1).text.toList == [44])with h1|h1 <;> rcases Bool.eq_false_or_eq_true ((hd ts1).text.toList == [125])with h2|h2 <;> simp only[PR.bind,h0,h1,h2,Bool.false_eq_true,if_true,if_false]
    | bad=>rfl
    | out=>rfl)
   cases hs:cf E ts' with
   | out=>exact absurd (by rw[E1.out,hs];rfl) HN.out
   | bad =>
    (go_wp2_with fail;refine(got (GotP pb tb) (jB HS.out E HE.out _ pb tb _ ?_ (by rw[hs];intro e;cases e)) hs).mono ?_;(all_goals try exact PSt.over (w0:=w) P0.out (Fr.r.alloc _) ltp ltt);rintro e v2 ⟨s,t,u,rfl,hf⟩;(have xs3:=Fr.size hf;simp only[aa,ae,ad,af]at xs3;have T1:=hqZ (Fr.trans (T0.out.alloc _) hf);clear T0;clear P0;have B3:=hqZ (Blk.next (B0.out.alloc _) hf (by show ¬ _;omega));clear B0;obtain⟨xk0,xl6⟩:=Blk.k1 B3.out;have B0:=hqZ (Blk.next (B1.out.alloc _) hf (by show ¬ _;omega));clear B1;obtain⟨xk1,xl7⟩:=Blk.k1 B0.out;have B1:=hqZ (Blk.next (B2.out.alloc _) hf (by show ¬ _;omega));clear B2;obtain⟨xk2,xl8⟩:=Blk.k1 B1.out;have B2:=hqZ (Blk.next (Blk.at_ _ _ _ (n:=v1.heap.size) rfl) hf (by show ¬ _;omega));obtain⟨xk6,xl9⟩:=Blk.k6 B2.out;have X2:=hqZ (Acc.carry X0.out (Fr.trans' (Fr.r.alloc _) hf (fun k _ hs=>by omega)));clear X0;have X0:=hqZ (KM.carry X1.out (Fr.trans' (Fr.r.alloc _) hf (fun k _ hs=>by omega)));clear X1;clear hf;clear xk3 xk4 xk5))
    go_wp2
    refine bodyPost_ret (v:=(.tuple #[.agg #[.nilIface],.iface t u])) (by simp only[results,Tryz.results234];go_simp) rfl ?_
    rw[E1.out,hs]
    exact⟨t,u,rfl,by exact((T1.out.set (.inr (Nat.le_refl _))).alloc _)⟩
   | ok y ts1 =>
    (go_wp2_with fail;refine(got (GotP pb tb) (jB HS.out E HE.out _ pb tb _ ?_ (by rw[hs];intro e;cases e)) hs).mono ?_;(all_goals try exact PSt.over (w0:=w) P0.out (Fr.r.alloc _) ltp ltt);rintro e v2 ⟨t2,u2,rfl,hy,hp,hf⟩;(have xs3:=Fr.size hf;simp only[aa,ae,ad,af]at xs3;have T1:=hqZ (Fr.trans (T0.out.alloc _) hf);clear T0;clear P0;have B3:=hqZ (Blk.next (B0.out.alloc _) hf (by show ¬ _;omega));clear B0;obtain⟨xk0,xl6⟩:=Blk.k1 B3.out;have B0:=hqZ (Blk.next (B1.out.alloc _) hf (by show ¬ _;omega));clear B1;obtain⟨xk1,xl7⟩:=Blk.k1 B0.out;have B1:=hqZ (Blk.next (B2.out.alloc _) hf (by show ¬ _;omega));clear B2;obtain⟨xk2,xl8⟩:=Blk.k1 B1.out;have B2:=hqZ (Blk.next (Blk.at_ _ _ _ (n:=v1.heap.size) rfl) hf (by show ¬ _;omega));obtain⟨xk6,xl9⟩:=Blk.k6 B2.out;have X2:=hqZ (Rep.mono (Z':=fun g=>v1.heap.size+1<=g/\g < v2.heap.size) (hZ:=fun g h1 h2=>by simp only[aa,ae,ad,af]at h2;omega) (h:=hy));clear hy;have X3:=hqZ (Acc.carry X0.out (Fr.trans' (Fr.r.alloc _) hf (fun k _ hs=>by omega)));clear X0;have X0:=hqZ (KM.carry X1.out (Fr.trans' (Fr.r.alloc _) hf (fun k _ hs=>by omega)));clear X1;have P0:=hqZ hp;clear hp;clear hf;clear xk3 xk4 xk5))
    have E2:=hqZ (show bE E ts=if l.any (fun x=>x.1.toList == y.1.toList)then .bad else if(hd ts1).is [44]then(ai (cj E) n (l ++ [y]) (adv ts1)).bind (fun l ts1=>.ok (.rec_ (l.map (·.1)) (l.map (·.2))) ts1)else if(hd ts1).is [125]then(ai (cj E) n (l ++ [y]) ts1).bind (fun l ts1=>.ok (.rec_ (l.map (·.1)) (l.map (·.2))) ts1)else .bad from by rw[E1.out,hs];rfl)
    clear hs
    (go_wp2_with fail;refine(eH _ (fun g=>g=mb) mv (l.map (·.1)) y.1 (by exact KM.mono (h:=(KM.carry X0.out (Fr.r.alloc _))) (hZ:=fun g _ hg=>by omega))).mono ?_;rintro e v3 ⟨rfl,hf⟩;(have xs5:=Fr.size hf;simp only[aa,ae,ad,af]at xs5;have T0:=hqZ (Fr.transN (T1.out.alloc _) hf);clear T1;have P1:=hqZ (PSt.new (PSt.over (w0:=w) P0.out (Fr.r.alloc _) ltp ltt) hf);clear P0;have B4:=hqZ (Blk.next (B3.out.alloc _) hf id);clear B3;obtain⟨xk3,xl10⟩:=Blk.k1 B4.out;have B3:=hqZ (Blk.next (B0.out.alloc _) hf id);clear B0;obtain⟨xk4,xl11⟩:=Blk.k1 B3.out;have B0:=hqZ (Blk.next (B1.out.alloc _) hf id);clear B1;obtain⟨xk5,xl12⟩:=Blk.k1 B0.out;have B1:=hqZ (Blk.next (B2.out.alloc _) hf id);clear B2;obtain⟨xk12,xl13⟩:=Blk.k6 B1.out;have B2:=hqZ (Blk.next (Blk.at_ _ _ _ (n:=v2.heap.size) rfl) hf id);obtain⟨xk18,xl14⟩:=Blk.k1 B2.out;have X1:=hqZ (Rep.carry X2.out (Fr.transN (Fr.r.alloc _) hf));clear X2;have X2:=hqZ (Acc.carry X3.out (Fr.transN (Fr.r.alloc _) hf));clear X3;have X3:=hqZ (KM.carry X0.out (Fr.transN (Fr.r.alloc _) hf));clear X0;clear hf;clear xk0 xk1 xk2 xk6))
    cases h0:((l.map (·.1)).any fun k=>k.toList == y.1.toList)
    case true =>
     have E3:=hqZ (show bE E ts = .bad from by rw[E2.out,if_pos (by simpa[List.any_map] using h0)])
     go_wp2
     go_region_with (go_at_call 84;refine(ax _ pb tb ts1 _ _ ?_).mono ?_;(all_goals try exact PSt.over (w0:=w) P1.out (Fr.r.alloc _).drew ltp ltt);rintro e w9 ⟨⟨t,u,rfl⟩,hf⟩;(have xs7:=Fr.size hf;simp only[aa,ae,ad,af]at xs7;have T1:=hqZ (Fr.transN (T0.out.alloc _).drew hf);clear T0;have P0:=hqZ (PSt.new (PSt.over (w0:=w) P1.out (Fr.r.alloc _).drew ltp ltt) hf);clear P1;have B5:=hqZ (Blk.next (B4.out.alloc _).drew hf id);clear B4;obtain⟨xk0,xl15⟩:=Blk.k1 B5.out;have B4:=hqZ (Blk.next (B3.out.alloc _).drew hf id);clear B3;obtain⟨xk1,xl16⟩:=Blk.k1 B4.out;have B3:=hqZ (Blk.next (B0.out.alloc _).drew hf id);clear B0;obtain⟨xk2,xl17⟩:=Blk.k1 B3.out;have B0:=hqZ (Blk.next (B1.out.alloc _).drew hf id);clear B1;obtain⟨xk6,xl18⟩:=Blk.k6 B0.out;have B1:=hqZ (Blk.next (B2.out.alloc _).drew hf id);clear B2;obtain⟨xk19,xl19⟩:=Blk.k1 B1.out;have B2:=hqZ (Blk.next (Blk.at_ _ _ _ (n:=v3.heap.size) rfl).drew hf id);obtain⟨xk20,xl20⟩:=Blk.k1 B2.out;have X0:=hqZ (Rep.carry X1.out (Fr.transN (Fr.r.alloc _).drew hf));clear X1;have X1:=hqZ (Acc.carry X2.out (Fr.transN (Fr.r.alloc _).drew hf));clear X2;have X2:=hqZ (KM.carry X3.out (Fr.transN (Fr.r.alloc _).drew hf));clear X3;clear hf;clear xk3 xk4 xk5 xk12 xk18))
     all_goals
      go_wp2
      refine bodyPost_ret (v:=(.tuple #[.agg #[.nilIface],.iface t u])) (by simp only[results,Tryz.results234];go_simp) rfl ?_
      rw[E3.out]
      exact⟨t,u,rfl,by exact(T1.out.set (.inr (Nat.le_refl _)))⟩
    case false =>
     have h0':(l.any fun x=>x.1.toList == y.1.toList)=false:=by simpa[List.any_map] using h0
     have E3:=hqZ (show bE E ts=if(hd ts1).is [44]then(ai (cj E) n (l ++ [y]) (adv ts1)).bind (fun l ts1=>.ok (.rec_ (l.map (·.1)) (l.map (·.2))) ts1)else if(hd ts1).is [125]then(ai (cj E) n (l ++ [y]) ts1).bind (fun l ts1=>.ok (.rec_ (l.map (·.1)) (l.map (·.2))) ts1)else .bad from by rw[E2.out,h0'];rfl)
     have PW:=hqZ (pw_snoc (x:=y.2) HPW.out h0')
     clear h0'
     (go_wp2_with fail;refine(lP _ mb (w.heap.size+1+1) mv (l.map (·.1)) y.1 (by exact B0.out) (by exact KM.mono (h:=X3.out) (hZ:=fun g _ hg=>by omega)) h0).mono ?_;rintro e v4 ⟨rfl,mv',mb',hb,hkm,hmb2,hf⟩;(have xs7:=Fr.size hf;have T1:=hqZ (Fr.trans' T0.out hf (fun k hk hs=>by omega));clear T0;have P0:=hqZ (PSt.frame (P1.out) hf (by show ¬ _;omega) (by show ¬ _;omega));clear P1;have B5:=hqZ (Blk.next B4.out hf (by show ¬ _;omega));clear B4;obtain⟨xk0,xl15⟩:=Blk.k1 B5.out;have B4:=hqZ (Blk.next B3.out hf (by show ¬ _;omega));clear B3;obtain⟨xk1,xl16⟩:=Blk.k1 B4.out;clear B0;have B0:=hqZ (Blk.next B1.out hf (by show ¬ _;omega));clear B1;obtain⟨xk2,xl17⟩:=Blk.k6 B0.out;have B1:=hqZ (Blk.next B2.out hf (by show ¬ _;omega));clear B2;obtain⟨xk11,xl18⟩:=Blk.k1 B1.out;have B2:=hqZ hb;obtain⟨xk19,xl19⟩:=Blk.k1 B2.out;clear hb;have X0:=hqZ (Rep.carry X1.out (Fr.trans' Fr.r hf (fun k _ hs=>by omega)));clear X1;have X1:=hqZ (Acc.carry X2.out (Fr.trans' Fr.r hf (fun k _ hs=>by omega)));clear X2;clear X3;have X2:=hqZ (KM.mono (Z':=fun g=>g=mb'/\g < v4.heap.size) (hZ:=fun g h1 h2=>⟨h2,h1⟩) (h:=hkm));clear hkm;clear hf;clear xk3 xk4 xk5 xk12 xk18))
     (try simp only[aa,ae,af]at hmb2)
     go_wp2_with (at_builtin;refine bu ?_)
     unfold Stop
     refine Acc.push (E:=mH) (Z:=fun g=>w.heap.size+1+1 < g/\g ≠ mb') pairT rfl _ _ rfl rfl (by exact Acc.mono (h:=(Acc.carry X1.out (Fr.r.alloc _))) (hZ:=fun g _ hg=>by omega)) rfl (news:=[.string y.1,.iface t2 u2]) (by exact(Blk.at_ _ _ _ (n:=v4.heap.size) rfl)) (y:=y) (Zy:=fun g=>v1.heap.size<=g/\g < v2.heap.size) ⟨_,_,rfl,by exact Rep.mono (h:=(Rep.carry X0.out (Fr.r.alloc _))) (hZ:=fun g _ hg=>by omega)⟩
      (fun k _ hk=>⟨by(try dsimp only at hk ⊢);omega,fun e=>by have:=(HV.out k e).1;(try dsimp only at hk);omega⟩) (by simp only[aa];omega) (by omega) (S:=fun k=>w.heap.size+1+1 < k/\k < wr.heap.size/\k ≠ mb) (fun k e=>by have:=HV.out k e;exact⟨this.2.1,this.1,this.2.2⟩) ?_
     rintro v' v5 hacc hf
     (have xs9:=Fr.size hf;simp only[aa,ae,ad,af]at xs9;have T0:=hqZ (Fr.trans' (T1.out.alloc _) hf (fun k hk hs=>by omega));clear T1;have P1:=hqZ (PSt.frame (PSt.over (w0:=w) P0.out (Fr.r.alloc _) ltp ltt) hf (by show ¬ _;omega) (by show ¬ _;omega));clear P0;have B3:=hqZ (Blk.next (B5.out.alloc _) hf (by show ¬ _;omega));clear B5;obtain⟨xk3,xl20⟩:=Blk.k1 B3.out;have B5:=hqZ (Blk.next (B4.out.alloc _) hf (by show ¬ _;omega));clear B4;obtain⟨xk4,xl21⟩:=Blk.k1 B5.out;have B4:=hqZ (Blk.next (B0.out.alloc _) hf (by show ¬ _;omega));clear B0;obtain⟨xk5,xl22⟩:=Blk.k6 B4.out;have B0:=hqZ (Blk.next (B1.out.alloc _) hf (by show ¬ _;omega));clear B1;obtain⟨xk17,xl23⟩:=Blk.k1 B0.out;have B1:=hqZ (Blk.next (B2.out.alloc _) hf (by show ¬ _;omega));clear B2;obtain⟨xk18,xl24⟩:=Blk.k1 B1.out;have B2:=hqZ (Blk.next (Blk.at_ _ _ _ (n:=v4.heap.size) rfl) hf (by show ¬ _;omega));obtain⟨xk20,xl25⟩:=Blk.k2 B2.out;have X3:=hqZ (Rep.carry X0.out (Fr.trans' (Fr.r.alloc _) hf (fun k _ hs=>by omega)));clear X0;clear X1;have X0:=hqZ (Acc.mono (Z':=fun g=>(w.heap.size+1+1 < g/\g ≠ mb')/\g < v5.heap.size) (hZ:=fun g h1 h2=>⟨h2,h1⟩) (h:=hacc));clear hacc;have X1:=hqZ (KM.carry X2.out (Fr.trans' (Fr.r.alloc _) hf (fun k _ hs=>by omega)));clear X2;clear hf;clear xk0 xk1 xk2 xk11 xk19)
     (go_wp2_with fail;refine(ay _ pb tb ts1 ?_).mono ?_;(all_goals try exact P1.out);rintro e v6 ⟨⟨o2,l2,c2,rfl⟩,hf⟩;(have xs11:=Fr.size hf;have T1:=hqZ (Fr.transN T0.out hf);clear T0;have P0:=hqZ (PSt.new (P1.out) hf);clear P1;have B6:=hqZ (Blk.next B3.out hf id);clear B3;obtain⟨xk0,xl26⟩:=Blk.k1 B6.out;have B3:=hqZ (Blk.next B5.out hf id);clear B5;obtain⟨xk1,xl27⟩:=Blk.k1 B3.out;have B5:=hqZ (Blk.next B4.out hf id);clear B4;obtain⟨xk2,xl28⟩:=Blk.k6 B5.out;have B4:=hqZ (Blk.next B0.out hf id);clear B0;obtain⟨xk11,xl29⟩:=Blk.k1 B4.out;have B0:=hqZ (Blk.next B1.out hf id);clear B1;obtain⟨xk19,xl30⟩:=Blk.k1 B0.out;have B1:=hqZ (Blk.next B2.out hf id);clear B2;obtain⟨xk22,xl31⟩:=Blk.k2 B1.out;have X2:=hqZ (Rep.carry X3.out (Fr.transN Fr.r hf));clear X3;have X3:=hqZ (Acc.carry X0.out (Fr.transN Fr.r hf));clear X0;have X0:=hqZ (KM.carry X1.out (Fr.transN Fr.r hf));clear X1;clear hf;clear xk3 xk4 xk5 xk17 xk18 xk20))
     cases q1:((hd ts1).text.toList == [44])
     case true =>
      have E4:=hqZ (show(ai (cj E) n (l ++ [y]) (adv ts1)).bind (fun l ts1=>.ok (.rec_ (l.map (·.1)) (l.map (·.2))) ts1)=bE E ts from by rw[E3.out,if_pos (by simp[Tok.is,q1])])
      (go_wp2_with fail;refine(ag _ pb tb ts1 ?_).mono ?_;(all_goals try exact P0.out);rintro e v7 ⟨⟨o3,l3,c3,rfl⟩,hp,hf⟩;(have xs13:=Fr.size hf;have T0:=hqZ (Fr.trans T1.out hf);clear T1;clear P0;have B2:=hqZ (Blk.next B6.out hf (by show ¬ _;omega));clear B6;obtain⟨xk3,xl32⟩:=Blk.k1 B2.out;have B6:=hqZ (Blk.next B3.out hf (by show ¬ _;omega));clear B3;obtain⟨xk4,xl33⟩:=Blk.k1 B6.out;have B3:=hqZ (Blk.next B5.out hf (by show ¬ _;omega));clear B5;obtain⟨xk5,xl34⟩:=Blk.k6 B3.out;have B5:=hqZ (Blk.next B4.out hf (by show ¬ _;omega));clear B4;obtain⟨xk17,xl35⟩:=Blk.k1 B5.out;have B4:=hqZ (Blk.next B0.out hf (by show ¬ _;omega));clear B0;obtain⟨xk18,xl36⟩:=Blk.k1 B4.out;have B0:=hqZ (Blk.next B1.out hf (by show ¬ _;omega));clear B1;obtain⟨xk20,xl37⟩:=Blk.k2 B0.out;have X1:=hqZ (Rep.carry X2.out (Fr.trans' Fr.r hf (fun k _ hs=>by omega)));clear X2;have X2:=hqZ (Acc.carry X3.out (Fr.trans' Fr.r hf (fun k _ hs=>by omega)));clear X3;have X3:=hqZ (KM.carry X0.out (Fr.trans' Fr.r hf (fun k _ hs=>by omega)));clear X0;have P0:=hqZ hp;clear hp;clear hf;clear xk0 xk1 xk2 xk11 xk19 xk22))
      go_wp2
      go_roundg n
      case measure=>omega
      case rel=>exact⟨_,_,mv',mb',E4.out,by exact P0.out,by exact T0.out,by exact Acc.mono (h:=X2.out) (hZ:=fun g _ hg=>by omega),by rw[List.map_append];exact KM.mono (h:=X3.out) (hZ:=fun g _ hg=>by omega),by omega,by simp;omega,PW.out,by exact B2.out,by exact B6.out,by exact B4.out⟩
     cases q2:((hd ts1).text.toList == [125])
     case true =>
      have E4:=hqZ (show(ai (cj E) n (l ++ [y]) ts1).bind (fun l ts1=>.ok (.rec_ (l.map (·.1)) (l.map (·.2))) ts1)=bE E ts from by rw[E3.out,if_neg (by simp[Tok.is,q1]),if_pos (by simp[Tok.is,q2])])
      go_wp2
      go_roundg n
      case measure=>omega
      case rel=>exact⟨_,_,mv',mb',E4.out,by exact P0.out,by exact T1.out,by exact Acc.mono (h:=X3.out) (hZ:=fun g _ hg=>by omega),by rw[List.map_append];exact KM.mono (h:=X0.out) (hZ:=fun g _ hg=>by omega),by omega,by simp;omega,PW.out,by exact B6.out,by exact B3.out,by exact B0.out⟩
     have E4:=hqZ (show bE E ts = .bad from by rw[E3.out,if_neg (by simp[Tok.is,q1]),if_neg (by simp[Tok.is,q2])])
     go_wp2
     go_region_with (first
      |(go_at_call 45;refine(ay _ pb tb ts1 ?_).mono ?_;(all_goals try exact PSt.over (w0:=w) P0.out Fr.r.drew ltp ltt);rintro e w8 ⟨⟨o3,l3,c3,rfl⟩,hf⟩;(have xs13:=Fr.size hf;simp only[aa,ae,ad,af]at xs13;have T0:=hqZ (Fr.transN T1.out.drew hf);clear T1;have P1:=hqZ (PSt.new (PSt.over (w0:=w) P0.out Fr.r.drew ltp ltt) hf);clear P0;have B2:=hqZ (Blk.next B6.out.drew hf id);clear B6;obtain⟨xk3,xl32⟩:=Blk.k1 B2.out;have B6:=hqZ (Blk.next B3.out.drew hf id);clear B3;obtain⟨xk4,xl33⟩:=Blk.k1 B6.out;have B3:=hqZ (Blk.next B5.out.drew hf id);clear B5;obtain⟨xk5,xl34⟩:=Blk.k6 B3.out;have B5:=hqZ (Blk.next B4.out.drew hf id);clear B4;obtain⟨xk17,xl35⟩:=Blk.k1 B5.out;have B4:=hqZ (Blk.next B0.out.drew hf id);clear B0;obtain⟨xk18,xl36⟩:=Blk.k1 B4.out;have B0:=hqZ (Blk.next B1.out.drew hf id);clear B1;obtain⟨xk20,xl37⟩:=Blk.k2 B0.out;have X1:=hqZ (Rep.carry X2.out (Fr.transN Fr.r.drew hf));clear X2;have X2:=hqZ (Acc.carry X3.out (Fr.transN Fr.r.drew hf));clear X3;have X3:=hqZ (KM.carry X0.out (Fr.transN Fr.r.drew hf));clear X0;clear hf;clear xk0 xk1 xk2 xk11 xk19 xk22))
      |(go_at_call 84;refine(ax _ pb tb ts1 _ _ ?_).mono ?_;(all_goals try exact PSt.over (w0:=w) P1.out (Fr.r.alloc _) ltp ltt);rintro e w9 ⟨⟨t,u,rfl⟩,hf⟩;(have xs15:=Fr.size hf;simp only[aa,ae,ad,af]at xs15;have T1:=hqZ (Fr.transN (T0.out.alloc _) hf);clear T0;have P0:=hqZ (PSt.new (PSt.over (w0:=w) P1.out (Fr.r.alloc _) ltp ltt) hf);clear P1;have B1:=hqZ (Blk.next (B2.out.alloc _) hf id);clear B2;obtain⟨xk0,xl38⟩:=Blk.k1 B1.out;have B2:=hqZ (Blk.next (B6.out.alloc _) hf id);clear B6;obtain⟨xk1,xl39⟩:=Blk.k1 B2.out;have B6:=hqZ (Blk.next (B3.out.alloc _) hf id);clear B3;obtain⟨xk2,xl40⟩:=Blk.k6 B6.out;have B3:=hqZ (Blk.next (B5.out.alloc _) hf id);clear B5;obtain⟨xk11,xl41⟩:=Blk.k1 B3.out;have B5:=hqZ (Blk.next (B4.out.alloc _) hf id);clear B4;obtain⟨xk19,xl42⟩:=Blk.k1 B5.out;have B4:=hqZ (Blk.next (B0.out.alloc _) hf id);clear B0;obtain⟨xk22,xl43⟩:=Blk.k2 B4.out;have B0:=hqZ (Blk.next (Blk.at_ _ _ _ (n:=w8.heap.size) rfl) hf id);obtain⟨xk24,xl44⟩:=Blk.k1 B0.out;have X0:=hqZ (Rep.carry X1.out (Fr.transN (Fr.r.alloc _) hf));clear X1;have X1:=hqZ (Acc.carry X2.out (Fr.transN (Fr.r.alloc _) hf));clear X2;have X2:=hqZ (KM.carry X3.out (Fr.transN (Fr.r.alloc _) hf));clear X3;clear hf;clear xk3 xk4 xk5 xk17 xk18 xk20)))
     all_goals
      go_wp2
      refine bodyPost_ret (v:=(.tuple #[.agg #[.nilIface],.iface t u])) (by simp only[results,Tryz.results234];go_simp) rfl ?_
      rw[E4.out]
      exact⟨t,u,rfl,by exact(T1.out.set (.inr (Nat.le_refl _)))⟩
end Go.Proofs.YtbdhlpeckennjaaGreatDoor
