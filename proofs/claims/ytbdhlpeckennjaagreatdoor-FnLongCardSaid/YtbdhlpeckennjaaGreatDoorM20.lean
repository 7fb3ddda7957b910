/- FnLong (the proof that the law returns true for every input), part 20 of 52; the last part says what is proved, and its condition. -/
import Derived.Test.YtbdhlpeckennjaaGreatDoorM06
set_option linter.unusedVariables false
set_option linter.unusedSimpArgs false
set_option maxHeartbeats 80000000
set_option maxRecDepth 1000000
namespace Go.Proofs.YtbdhlpeckennjaaGreatDoor
open Go Go.RowKit
theorem jV(E:List Tok->PR Ex)(hA:Does 184 (addP E))(hH:ij 185 hasP)(hL:ij 186 eW)(hI:ij 187 (isP E)):Does 178 (aO E):=by
 intro w pb tb ts h hne
 have hft:=aq
 have ltp:=h.lt
 have ltt:=h.lt2
 have P0:=hqZ h
 have T0:=hqZ (Fr.refl (· = pb) w)
 have HN:=hqZ hne
 have HA:=hqZ hA
 have HH:=hqZ hH
 have HL:=hqZ hL
 have HI:=hqZ hI
 clear h hne hA hH hL hI
 go_enter Tryz.func178,Tryz.ntmps178
 cases hr:addP E ts with
 | out=>exact absurd (by rw[aO,hr];rfl) HN.out
 | bad =>
  (go_wp2_with fail;refine(HA.out.bad (tb:=tb) ?_ hr).mono ?_;(all_goals try exact PSt.over (w0:=w) P0.out (Fr.r.alloc _) ltp ltt);rintro e w1 ⟨t,u,rfl,hf⟩;(have xs0:=Fr.size hf;simp only[aa,ae,ad,af]at xs0;have T1:=hqZ (Fr.trans (T0.out.alloc _) hf);clear T0;clear P0;have B0:=hqZ (Blk.next (Blk.at_ _ _ _ (n:=w.heap.size) rfl) hf (by show ¬ _;omega));obtain⟨xk0,xl0⟩:=Blk.k1 B0.out;clear hf))
  go_wp2
  refine bodyPost_ret (v:=(.tuple #[.agg #[.nilIface],.iface t u])) (by simp only[results,Tryz.results178];go_simp) rfl ?_
  rw[show aO E ts = .bad from by rw[aO,hr];rfl]
  exact⟨t,u,rfl,by exact((T1.out.set (.inr (Nat.le_refl _))).alloc _)⟩
 | ok x ts1 =>
  have E0:=hqZ (show aO E ts=bQ E x ts1 from by rw[aO,hr];rfl)
  (go_wp2_with fail;refine(HA.out.ok (tb:=tb) ?_ hr).mono ?_;(all_goals try exact PSt.over (w0:=w) P0.out (Fr.r.alloc _) ltp ltt);rintro e w1 ⟨t1,u1,rfl,hx,hp,hf⟩;(have xs0:=Fr.size hf;simp only[aa,ae,ad,af]at xs0;have T1:=hqZ (Fr.trans (T0.out.alloc _) hf);clear T0;clear P0;have B0:=hqZ (Blk.next (Blk.at_ _ _ _ (n:=w.heap.size) rfl) hf (by show ¬ _;omega));obtain⟨xk0,xl0⟩:=Blk.k1 B0.out;have X0:=hqZ (Rep.mono (Z':=fun g=>w.heap.size+1<=g/\g < w1.heap.size) (hZ:=fun g h1 h2=>by simp only[aa,ae,ad,af]at h2;omega) (h:=hx));clear hx;have P0:=hqZ hp;clear hp;clear hf))
  (go_wp2_with fail;refine(ay _ pb tb ts1 ?_).mono ?_;(all_goals try exact PSt.over (w0:=w) P0.out (Fr.r.alloc _) ltp ltt);rintro e w2 ⟨⟨o1,l1,c1,rfl⟩,hf⟩;(have xs2:=Fr.size hf;simp only[aa,ae,ad,af]at xs2;have T0:=hqZ (Fr.transN (T1.out.alloc _) hf);clear T1;have P1:=hqZ (PSt.new (PSt.over (w0:=w) P0.out (Fr.r.alloc _) ltp ltt) hf);clear P0;have B1:=hqZ (Blk.next (B0.out.alloc _) hf id);clear B0;obtain⟨xk1,xl1⟩:=Blk.k1 B1.out;have B0:=hqZ (Blk.next (Blk.at_ _ _ _ (n:=w1.heap.size) rfl) hf id);obtain⟨xk2,xl2⟩:=Blk.k1 B0.out;have X1:=hqZ (Rep.carry X0.out (Fr.transN (Fr.r.alloc _) hf));clear X0;clear hf;clear xk0))
  cases q0:((hd ts1).text.toList == [104,97,115])
  case true =>
   have E1:=hqZ (show aO E ts=hasP x (adv ts1)from by rw[E0.out];simp only[bQ,Tok.is,q0,if_true,Bool.false_eq_true,if_false])
   (go_wp2_with fail;refine(ag _ pb tb ts1 ?_).mono ?_;(all_goals try exact PSt.over (w0:=w) P1.out (Fr.r.alloc _) ltp ltt);rintro e w3 ⟨⟨o2,l2,c2,rfl⟩,hp,hf⟩;(have xs4:=Fr.size hf;simp only[aa,ae,ad,af]at xs4;have T1:=hqZ (Fr.trans (T0.out.alloc _) hf);clear T0;clear P1;have B2:=hqZ (Blk.next (B1.out.alloc _) hf (by show ¬ _;omega));clear B1;obtain⟨xk0,xl3⟩:=Blk.k1 B2.out;have B1:=hqZ (Blk.next (B0.out.alloc _) hf (by show ¬ _;omega));clear B0;obtain⟨xk3,xl4⟩:=Blk.k1 B1.out;have B0:=hqZ (Blk.next (Blk.at_ _ _ _ (n:=w2.heap.size) rfl) hf (by show ¬ _;omega));obtain⟨xk4,xl5⟩:=Blk.k6 B0.out;have X0:=hqZ (Rep.carry X1.out (Fr.trans' (Fr.r.alloc _) hf (fun k _ hs=>by omega)));clear X1;have P0:=hqZ hp;clear hp;clear hf;clear xk1 xk2))
   cases hs:hasP x (adv ts1)with
   | out=>exact absurd (by rw[E1.out,hs]) HN.out
   | bad =>
    (go_wp2_with fail;refine(HH.out.call (tb:=tb) (w.heap.size+1) w1.heap.size pb ?_ (by omega) (by(try simp only[aa,ae,af]);omega) (by exact Rep.mono (h:=X0.out) (hZ:=fun g _ hg=>by omega)) (by rw[hs];intro e;cases e) hs).mono ?_;(all_goals try exact P0.out);rintro e w4 ⟨t,u,rfl,hf⟩;(have xs6:=Fr.size hf;have T0:=hqZ (Fr.trans T1.out hf);clear T1;clear P0;have B3:=hqZ (Blk.next B2.out hf (by show ¬ _;omega));clear B2;obtain⟨xk1,xl6⟩:=Blk.k1 B3.out;have B2:=hqZ (Blk.next B1.out hf (by show ¬ _;omega));clear B1;obtain⟨xk2,xl7⟩:=Blk.k1 B2.out;have B1:=hqZ (Blk.next B0.out hf (by show ¬ _;omega));clear B0;obtain⟨xk10,xl8⟩:=Blk.k6 B1.out;have X1:=hqZ (Rep.carry X0.out (Fr.trans' Fr.r hf (fun k _ hs=>by omega)));clear X0;clear hf;clear xk0 xk3 xk4))
    go_wp2
    refine bodyPost_ret (v:=(.tuple #[.agg #[.nilIface],.iface t u])) (by simp only[results,Tryz.results178];go_simp) rfl ?_
    rw[E1.out,hs]
    exact⟨t,u,rfl,by exact(T0.out.set (.inr (Nat.le_refl _)))⟩
   | ok y ts2 =>
    (go_wp2_with fail;refine(HH.out.call (tb:=tb) (w.heap.size+1) w1.heap.size pb ?_ (by omega) (by(try simp only[aa,ae,af]);omega) (by exact Rep.mono (h:=X0.out) (hZ:=fun g _ hg=>by omega)) (by rw[hs];intro e;cases e) hs).mono ?_;(all_goals try exact P0.out);rintro e w4 ⟨t,u,rfl,hy,hp,hf⟩;(have xs6:=Fr.size hf;have T0:=hqZ (Fr.trans T1.out hf);clear T1;clear P0;have B3:=hqZ (Blk.next B2.out hf (by show ¬ _;omega));clear B2;obtain⟨xk1,xl6⟩:=Blk.k1 B3.out;have B2:=hqZ (Blk.next B1.out hf (by show ¬ _;omega));clear B1;obtain⟨xk2,xl7⟩:=Blk.k1 B2.out;have B1:=hqZ (Blk.next B0.out hf (by show ¬ _;omega));clear B0;obtain⟨xk10,xl8⟩:=Blk.k6 B1.out;have X1:=hqZ (Rep.carry X0.out (Fr.trans' Fr.r hf (fun k _ hs=>by omega)));clear X0;have X0:=hqZ (Rep.mono (Z':=fun g=>(w.heap.size+1<=g/\g < w1.heap.size/\g ≠ pb\/w3.heap.size<=g)/\g < w4.heap.size) (hZ:=fun g h1 h2=>⟨h2,h1⟩) (h:=hy));clear hy;have P0:=hqZ hp;clear hp;clear hf;clear xk0 xk3 xk4))
    go_wp2
    refine bodyPost_ret (v:=(.tuple #[.agg #[.iface t u],.nilIface])) (by simp only[results,Tryz.results178];go_simp) rfl ?_
    rw[E1.out,hs]
    exact⟨t,u,rfl,by exact Rep.mono (h:=(Rep.carry X0.out (Fr.r.set (.inl (by omega))))) (hZ:=fun g _ hg=>by omega),by exact PSt.over (w0:=w) P0.out (Fr.r.set (.inl (by omega))) ltp ltt,by exact(T0.out.set (.inr (Nat.le_refl _)))⟩
  cases q1:((hd ts1).text.toList == [108,105,107,101])
  case true =>
   have E1:=hqZ (show aO E ts=eW x (adv ts1)from by rw[E0.out];simp only[bQ,Tok.is,q0,q1,if_true,Bool.false_eq_true,if_false])
   (go_wp2_with fail;refine(ag _ pb tb ts1 ?_).mono ?_;(all_goals try exact PSt.over (w0:=w) P1.out (Fr.r.alloc _) ltp ltt);rintro e w3 ⟨⟨o2,l2,c2,rfl⟩,hp,hf⟩;(have xs4:=Fr.size hf;simp only[aa,ae,ad,af]at xs4;have T1:=hqZ (Fr.trans (T0.out.alloc _) hf);clear T0;clear P1;have B2:=hqZ (Blk.next (B1.out.alloc _) hf (by show ¬ _;omega));clear B1;obtain⟨xk0,xl3⟩:=Blk.k1 B2.out;have B1:=hqZ (Blk.next (B0.out.alloc _) hf (by show ¬ _;omega));clear B0;obtain⟨xk3,xl4⟩:=Blk.k1 B1.out;have B0:=hqZ (Blk.next (Blk.at_ _ _ _ (n:=w2.heap.size) rfl) hf (by show ¬ _;omega));obtain⟨xk4,xl5⟩:=Blk.k6 B0.out;have X0:=hqZ (Rep.carry X1.out (Fr.trans' (Fr.r.alloc _) hf (fun k _ hs=>by omega)));clear X1;have P0:=hqZ hp;clear hp;clear hf;clear xk1 xk2))
   cases hs:eW x (adv ts1)with
   | out=>exact absurd (by rw[E1.out,hs]) HN.out
   | bad =>
    (go_wp2_with fail;refine(HL.out.call (tb:=tb) (w.heap.size+1) w1.heap.size pb ?_ (by omega) (by(try simp only[aa,ae,af]);omega) (by exact Rep.mono (h:=X0.out) (hZ:=fun g _ hg=>by omega)) (by rw[hs];intro e;cases e) hs).mono ?_;(all_goals try exact P0.out);rintro e w4 ⟨t,u,rfl,hf⟩;(have xs6:=Fr.size hf;have T0:=hqZ (Fr.trans T1.out hf);clear T1;clear P0;have B3:=hqZ (Blk.next B2.out hf (by show ¬ _;omega));clear B2;obtain⟨xk1,xl6⟩:=Blk.k1 B3.out;have B2:=hqZ (Blk.next B1.out hf (by show ¬ _;omega));clear B1;obtain⟨xk2,xl7⟩:=Blk.k1 B2.out;have B1:=hqZ (Blk.next B0.out hf (by show ¬ _;omega));clear B0;obtain⟨xk10,xl8⟩:=Blk.k6 B1.out;have X1:=hqZ (Rep.carry X0.out (Fr.trans' Fr.r hf (fun k _ hs=>by omega)));clear X0;clear hf;clear xk0 xk3 xk4))
    go_wp2
    refine bodyPost_ret (v:=(.tuple #[.agg #[.nilIface],.iface t u])) (by simp only[results,Tryz.results178];go_simp) rfl ?_
    rw[E1.out,hs]
    exact⟨t,u,rfl,by exact(T0.out.set (.inr (Nat.le_refl _)))⟩
   | ok y ts2 =>
    (go_wp2_with fail;refine(HL.out.call (tb:=tb) (w.heap.size+1) w1.heap.size pb ?_ (by omega) (by(try simp only[aa,ae,af]);omega) (by exact Rep.mono (h:=X0.out) (hZ:=fun g _ hg=>by omega)) (by rw[hs];intro e;cases e) hs).mono ?_;(all_goals try exact P0.out);rintro e w4 ⟨t,u,rfl,hy,hp,hf⟩;(have xs6:=Fr.size hf;have T0:=hqZ (Fr.trans T1.out hf);clear T1;clear P0;have B3:=hqZ (Blk.next B2.out hf (by show ¬ _;omega));clear B2;obtain⟨xk1,xl6⟩:=Blk.k1 B3.out;have B2:=hqZ (Blk.next B1.out hf (by show ¬ _;omega));clear B1;obtain⟨xk2,xl7⟩:=Blk.k1 B2.out;have B1:=hqZ (Blk.next B0.out hf (by show ¬ _;omega));clear B0;obtain⟨xk10,xl8⟩:=Blk.k6 B1.out;have X1:=hqZ (Rep.carry X0.out (Fr.trans' Fr.r hf (fun k _ hs=>by omega)));clear X0;have X0:=hqZ (Rep.mono (Z':=fun g=>(w.heap.size+1<=g/\g < w1.heap.size/\g ≠ pb\/w3.heap.size<=g)/\g < w4.heap.size) (hZ:=fun g h1 h2=>⟨h2,h1⟩) (h:=hy));clear hy;have P0:=hqZ hp;clear hp;clear hf;clear xk0 xk3 xk4))
    go_wp2
    refine bodyPost_ret (v:=(.tuple #[.agg #[.iface t u],.nilIface])) (by simp only[results,Tryz.results178];go_simp) rfl ?_
    rw[E1.out,hs]
    exact⟨t,u,rfl,by exact Rep.mono (h:=(Rep.carry X0.out (Fr.r.set (.inl (by omega))))) (hZ:=fun g _ hg=>by omega),by exact PSt.over (w0:=w) P0.out (Fr.r.set (.inl (by omega))) ltp ltt,by exact(T0.out.set (.inr (Nat.le_refl _)))⟩
  cases q2:((hd ts1).text.toList == [105,115])
  case true =>
   have E1:=hqZ (show aO E ts=isP E x (adv ts1)from by rw[E0.out];simp only[bQ,Tok.is,q0,q1,q2,if_true,Bool.false_eq_true,if_false])
   (go_wp2_with fail;refine(ag _ pb tb ts1 ?_).mono ?_;(all_goals try exact PSt.over (w0:=w) P1.out (Fr.r.alloc _) ltp ltt);rintro e w3 ⟨⟨o2,l2,c2,rfl⟩,hp,hf⟩;(have xs4:=Fr.size hf;simp only[aa,ae,ad,af]at xs4;have T1:=hqZ (Fr.trans (T0.out.alloc _) hf);clear T0;clear P1;have B2:=hqZ (Blk.next (B1.out.alloc _) hf (by show ¬ _;omega));clear B1;obtain⟨xk0,xl3⟩:=Blk.k1 B2.out;have B1:=hqZ (Blk.next (B0.out.alloc _) hf (by show ¬ _;omega));clear B0;obtain⟨xk3,xl4⟩:=Blk.k1 B1.out;have B0:=hqZ (Blk.next (Blk.at_ _ _ _ (n:=w2.heap.size) rfl) hf (by show ¬ _;omega));obtain⟨xk4,xl5⟩:=Blk.k6 B0.out;have X0:=hqZ (Rep.carry X1.out (Fr.trans' (Fr.r.alloc _) hf (fun k _ hs=>by omega)));clear X1;have P0:=hqZ hp;clear hp;clear hf;clear xk1 xk2))
   cases hs:isP E x (adv ts1)with
   | out=>exact absurd (by rw[E1.out,hs]) HN.out
   | bad =>
    (go_wp2_with fail;refine(HI.out.call (tb:=tb) (w.heap.size+1) w1.heap.size pb ?_ (by omega) (by(try simp only[aa,ae,af]);omega) (by exact Rep.mono (h:=X0.out) (hZ:=fun g _ hg=>by omega)) (by rw[hs];intro e;cases e) hs).mono ?_;(all_goals try exact P0.out);rintro e w4 ⟨t,u,rfl,hf⟩;(have xs6:=Fr.size hf;have T0:=hqZ (Fr.trans T1.out hf);clear T1;clear P0;have B3:=hqZ (Blk.next B2.out hf (by show ¬ _;omega));clear B2;obtain⟨xk1,xl6⟩:=Blk.k1 B3.out;have B2:=hqZ (Blk.next B1.out hf (by show ¬ _;omega));clear B1;obtain⟨xk2,xl7⟩:=Blk.k1 B2.out;have B1:=hqZ (Blk.next B0.out hf (by show ¬ _;omega));clear B0;obtain⟨xk10,xl8⟩:=Blk.k6 B1.out;have X1:=hqZ (Rep.carry X0.out (Fr.trans' Fr.r hf (fun k _ hs=>by omega)));clear X0;clear hf;clear xk0 xk3 xk4))
    go_wp2
    refine bodyPost_ret (v:=(.tuple #[.agg #[.nilIface],.iface t u])) (by simp only[results,Tryz.results178];go_simp) rfl ?_
    rw[E1.out,hs]
    exact⟨t,u,rfl,by exact(T0.out.set (.inr (Nat.le_refl _)))⟩
   | ok y ts2 =>
    (go_wp2_with fail;refine(HI.out.call (tb:=tb) (w.heap.size+1) w1.heap.size pb ?_ (by omega) (by(try simp only[aa,ae,af]);omega) (by exact Rep.mono (h:=X0.out) (hZ:=fun g _ hg=>by omega)) (by rw[hs];intro e;cases e) hs).mono ?_;(all_goals try exact P0.out);rintro e w4 ⟨t,u,rfl,hy,hp,hf⟩;(have xs6:=Fr.size hf;have T0:=hqZ (Fr.trans T1.out hf);clear T1;clear P0;have B3:=hqZ (Blk.next B2.out hf (by show ¬ _;omega));clear B2;obtain⟨xk1,xl6⟩:=Blk.k1 B3.out;have B2:=hqZ (Blk.next B1.out hf (by show ¬ _;omega));clear B1;obtain⟨xk2,xl7⟩:=Blk.k1 B2.out;have B1:=hqZ (Blk.next B0.out hf (by show ¬ _;omega));clear B0;obtain⟨xk10,xl8⟩:=Blk.k6 B1.out;have X1:=hqZ (Rep.carry X0.out (Fr.trans' Fr.r hf (fun k _ hs=>by omega)));clear X0;have X0:=hqZ (Rep.mono (Z':=fun g=>(w.heap.size+1<=g/\g < w1.heap.size/\g ≠ pb\/w3.heap.size<=g)/\g < w4.heap.size) (hZ:=fun g h1 h2=>⟨h2,h1⟩) (h:=hy));clear hy;have P0:=hqZ hp;clear hp;clear hf;clear xk0 xk3 xk4))
    go_wp2
    refine bodyPost_ret (v:=(.tuple #[.agg #[.iface t u],.nilIface])) (by simp only[results,Tryz.results178];go_simp) rfl ?_
    rw[E1.out,hs]
    exact⟨t,u,rfl,by exact Rep.mono (h:=(Rep.carry X0.out (Fr.r.set (.inl (by omega))))) (hZ:=fun g _ hg=>by omega),by exact PSt.over (w0:=w) P0.out (Fr.r.set (.inl (by omega))) ltp ltt,by exact(T0.out.set (.inr (Nat.le_refl _)))⟩
  cases r0:((hd ts1).text.toList == [60])
  case true =>
   have E1:=hqZ (show aO E ts=(addP E (adv ts1)).bind fun y ts2=>.ok (.opn 6 [x,y]) ts2 from by rw[E0.out];simp only[bQ,dy,Tok.is,q0,q1,q2,r0,if_true,Bool.false_eq_true,if_false,Option.isSome,Option.getD])
   (go_wp2_with fail;refine(ag _ pb tb ts1 ?_).mono ?_;(all_goals try exact PSt.over (w0:=w) P1.out (Fr.r.alloc _) ltp ltt);rintro e w3 ⟨⟨o2,l2,c2,rfl⟩,hp,hf⟩;(have xs4:=Fr.size hf;simp only[aa,ae,ad,af]at xs4;have T1:=hqZ (Fr.trans (T0.out.alloc _) hf);clear T0;clear P1;have B2:=hqZ (Blk.next (B1.out.alloc _) hf (by show ¬ _;omega));clear B1;obtain⟨xk0,xl3⟩:=Blk.k1 B2.out;have B1:=hqZ (Blk.next (B0.out.alloc _) hf (by show ¬ _;omega));clear B0;obtain⟨xk3,xl4⟩:=Blk.k1 B1.out;have B0:=hqZ (Blk.next (Blk.at_ _ _ _ (n:=w2.heap.size) rfl) hf (by show ¬ _;omega));obtain⟨xk4,xl5⟩:=Blk.k6 B0.out;have X0:=hqZ (Rep.carry X1.out (Fr.trans' (Fr.r.alloc _) hf (fun k _ hs=>by omega)));clear X1;have P0:=hqZ hp;clear hp;clear hf;clear xk1 xk2))
   cases hs:addP E (adv ts1)with
   | out=>exact absurd (by rw[E1.out,hs];rfl) HN.out
   | bad =>
    (go_wp2_with fail;refine(HA.out.bad (tb:=tb) ?_ hs).mono ?_;(all_goals try exact P0.out);rintro e w4 ⟨t,u,rfl,hf⟩;(have xs6:=Fr.size hf;have T0:=hqZ (Fr.trans T1.out hf);clear T1;clear P0;have B3:=hqZ (Blk.next B2.out hf (by show ¬ _;omega));clear B2;obtain⟨xk1,xl6⟩:=Blk.k1 B3.out;have B2:=hqZ (Blk.next B1.out hf (by show ¬ _;omega));clear B1;obtain⟨xk2,xl7⟩:=Blk.k1 B2.out;have B1:=hqZ (Blk.next B0.out hf (by show ¬ _;omega));clear B0;obtain⟨xk10,xl8⟩:=Blk.k6 B1.out;have X1:=hqZ (Rep.carry X0.out (Fr.trans' Fr.r hf (fun k _ hs=>by omega)));clear X0;clear hf;clear xk0 xk3 xk4))
    go_wp2
    refine bodyPost_ret (v:=(.tuple #[.agg #[.nilIface],.iface t u])) (by simp only[results,Tryz.results178];go_simp) rfl ?_
    rw[E1.out,hs]
    exact⟨t,u,rfl,by exact((T0.out.set (.inr (Nat.le_refl _))).alloc _)⟩
   | ok y ts2 =>
    (go_wp2_with fail;refine(HA.out.ok (tb:=tb) ?_ hs).mono ?_;(all_goals try exact P0.out);rintro e w4 ⟨t2,u2,rfl,hy,hp,hf⟩;(have xs6:=Fr.size hf;have T0:=hqZ (Fr.trans T1.out hf);clear T1;clear P0;have B3:=hqZ (Blk.next B2.out hf (by show ¬ _;omega));clear B2;obtain⟨xk1,xl6⟩:=Blk.k1 B3.out;have B2:=hqZ (Blk.next B1.out hf (by show ¬ _;omega));clear B1;obtain⟨xk2,xl7⟩:=Blk.k1 B2.out;have B1:=hqZ (Blk.next B0.out hf (by show ¬ _;omega));clear B0;obtain⟨xk10,xl8⟩:=Blk.k6 B1.out;have X1:=hqZ (Rep.carry X0.out (Fr.trans' Fr.r hf (fun k _ hs=>by omega)));clear X0;have X0:=hqZ (Rep.mono (Z':=fun g=>w3.heap.size<=g/\g < w4.heap.size) (hZ:=fun g h1 h2=>⟨h2,h1⟩) (h:=hy));clear hy;have P0:=hqZ hp;clear hp;clear hf;clear xk0 xk3 xk4))
    (go_wp2_with fail;refine(iC _ _ _ _ _).mono ?_;rintro e w5 ⟨rfl,hf⟩;(have xs8:=Fr.size hf;simp only[aa,ae,ad,af]at xs8;have T1:=hqZ (Fr.transN (T0.out.alloc _) hf);clear T0;have P1:=hqZ (PSt.new (PSt.over (w0:=w) P0.out (Fr.r.alloc _) ltp ltt) hf);clear P0;have B0:=hqZ (Blk.next (B3.out.alloc _) hf id);clear B3;obtain⟨xk0,xl9⟩:=Blk.k1 B0.out;have B3:=hqZ (Blk.next (B2.out.alloc _) hf id);clear B2;obtain⟨xk3,xl10⟩:=Blk.k1 B3.out;have B2:=hqZ (Blk.next (B1.out.alloc _) hf id);clear B1;obtain⟨xk4,xl11⟩:=Blk.k6 B2.out;have B1:=hqZ (Blk.next (Blk.at_ _ _ _ (n:=w4.heap.size) rfl) hf id);obtain⟨xk16,xl12⟩:=Blk.k1 B1.out;have X2:=hqZ (Rep.carry X1.out (Fr.transN (Fr.r.alloc _) hf));clear X1;have X1:=hqZ (Rep.carry X0.out (Fr.transN (Fr.r.alloc _) hf));clear X0;clear hf;clear xk1 xk2 xk10))
    go_wp2
    refine bodyPost_ret (v:=(.tuple #[.agg #[.iface 261 (.agg #[.iface t1 u1,.iface t2 u2])],.nilIface])) (by simp only[results,Tryz.results178];go_simp) rfl ?_
    rw[E1.out,hs]
    exact⟨_,_,rfl,.bin 6 _ _ _ _ _ rfl (by exact Rep.mono (h:=(Rep.carry X2.out (Fr.r.set (.inl (by omega))))) (hZ:=fun g _ hg=>by omega)) (by exact Rep.mono (h:=(Rep.carry X1.out (Fr.r.set (.inl (by omega))))) (hZ:=fun g _ hg=>by omega)),by exact PSt.over (w0:=w) P1.out (Fr.r.set (.inl (by omega))) ltp ltt,by exact(T1.out.set (.inr (Nat.le_refl _)))⟩
  cases r1:((hd ts1).text.toList == [60,61])
  case true =>
   have E1:=hqZ (show aO E ts=(addP E (adv ts1)).bind fun y ts2=>.ok (.opn 7 [x,y]) ts2 from by rw[E0.out];simp only[bQ,dy,Tok.is,q0,q1,q2,r0,r1,if_true,Bool.false_eq_true,if_false,Option.isSome,Option.getD])
   (go_wp2_with fail;refine(ag _ pb tb ts1 ?_).mono ?_;(all_goals try exact PSt.over (w0:=w) P1.out (Fr.r.alloc _) ltp ltt);rintro e w3 ⟨⟨o2,l2,c2,rfl⟩,hp,hf⟩;(have xs4:=Fr.size hf;simp only[aa,ae,ad,af]at xs4;have T1:=hqZ (Fr.trans (T0.out.alloc _) hf);clear T0;clear P1;have B2:=hqZ (Blk.next (B1.out.alloc _) hf (by show ¬ _;omega));clear B1;obtain⟨xk0,xl3⟩:=Blk.k1 B2.out;have B1:=hqZ (Blk.next (B0.out.alloc _) hf (by show ¬ _;omega));clear B0;obtain⟨xk3,xl4⟩:=Blk.k1 B1.out;have B0:=hqZ (Blk.next (Blk.at_ _ _ _ (n:=w2.heap.size) rfl) hf (by show ¬ _;omega));obtain⟨xk4,xl5⟩:=Blk.k6 B0.out;have X0:=hqZ (Rep.carry X1.out (Fr.trans' (Fr.r.alloc _) hf (fun k _ hs=>by omega)));clear X1;have P0:=hqZ hp;clear hp;clear hf;clear xk1 xk2))
   cases hs:addP E (adv ts1)with
   | out=>exact absurd (by rw[E1.out,hs];rfl) HN.out
   | bad =>
    (go_wp2_with fail;refine(HA.out.bad (tb:=tb) ?_ hs).mono ?_;(all_goals try exact P0.out);rintro e w4 ⟨t,u,rfl,hf⟩;(have xs6:=Fr.size hf;have T0:=hqZ (Fr.trans T1.out hf);clear T1;clear P0;have B3:=hqZ (Blk.next B2.out hf (by show ¬ _;omega));clear B2;obtain⟨xk1,xl6⟩:=Blk.k1 B3.out;have B2:=hqZ (Blk.next B1.out hf (by show ¬ _;omega));clear B1;obtain⟨xk2,xl7⟩:=Blk.k1 B2.out;have B1:=hqZ (Blk.next B0.out hf (by show ¬ _;omega));clear B0;obtain⟨xk10,xl8⟩:=Blk.k6 B1.out;have X1:=hqZ (Rep.carry X0.out (Fr.trans' Fr.r hf (fun k _ hs=>by omega)));clear X0;clear hf;clear xk0 xk3 xk4))
    go_wp2
    refine bodyPost_ret (v:=(.tuple #[.agg #[.nilIface],.iface t u])) (by simp only[results,Tryz.results178];go_simp) rfl ?_
    rw[E1.out,hs]
    exact⟨t,u,rfl,by exact((T0.out.set (.inr (Nat.le_refl _))).alloc _)⟩
   | ok y ts2 =>
    (go_wp2_with fail;refine(HA.out.ok (tb:=tb) ?_ hs).mono ?_;(all_goals try exact P0.out);rintro e w4 ⟨t2,u2,rfl,hy,hp,hf⟩;(have xs6:=Fr.size hf;have T0:=hqZ (Fr.trans T1.out hf);clear T1;clear P0;have B3:=hqZ (Blk.next B2.out hf (by show ¬ _;omega));clear B2;obtain⟨xk1,xl6⟩:=Blk.k1 B3.out;have B2:=hqZ (Blk.next B1.out hf (by show ¬ _;omega));clear B1;obtain⟨xk2,xl7⟩:=Blk.k1 B2.out;have B1:=hqZ (Blk.next B0.out hf (by show ¬ _;omega));clear B0;obtain⟨xk10,xl8⟩:=Blk.k6 B1.out;have X1:=hqZ (Rep.carry X0.out (Fr.trans' Fr.r hf (fun k _ hs=>by omega)));clear X0;have X0:=hqZ (Rep.mono (Z':=fun g=>w3.heap.size<=g/\g < w4.heap.size) (hZ:=fun g h1 h2=>⟨h2,h1⟩) (h:=hy));clear hy;have P0:=hqZ hp;clear hp;clear hf;clear xk0 xk3 xk4))
    (go_wp2_with fail;refine(eI _ _ _ _ _).mono ?_;rintro e w5 ⟨rfl,hf⟩;(have xs8:=Fr.size hf;simp only[aa,ae,ad,af]at xs8;have T1:=hqZ (Fr.transN (T0.out.alloc _) hf);clear T0;have P1:=hqZ (PSt.new (PSt.over (w0:=w) P0.out (Fr.r.alloc _) ltp ltt) hf);clear P0;have B0:=hqZ (Blk.next (B3.out.alloc _) hf id);clear B3;obtain⟨xk0,xl9⟩:=Blk.k1 B0.out;have B3:=hqZ (Blk.next (B2.out.alloc _) hf id);clear B2;obtain⟨xk3,xl10⟩:=Blk.k1 B3.out;have B2:=hqZ (Blk.next (B1.out.alloc _) hf id);clear B1;obtain⟨xk4,xl11⟩:=Blk.k6 B2.out;have B1:=hqZ (Blk.next (Blk.at_ _ _ _ (n:=w4.heap.size) rfl) hf id);obtain⟨xk16,xl12⟩:=Blk.k1 B1.out;have X2:=hqZ (Rep.carry X1.out (Fr.transN (Fr.r.alloc _) hf));clear X1;have X1:=hqZ (Rep.carry X0.out (Fr.transN (Fr.r.alloc _) hf));clear X0;clear hf;clear xk1 xk2 xk10))
    go_wp2
    refine bodyPost_ret (v:=(.tuple #[.agg #[.iface 262 (.agg #[.iface t1 u1,.iface t2 u2])],.nilIface])) (by simp only[results,Tryz.results178];go_simp) rfl ?_
    rw[E1.out,hs]
    exact⟨_,_,rfl,.bin 7 _ _ _ _ _ rfl (by exact Rep.mono (h:=(Rep.carry X2.out (Fr.r.set (.inl (by omega))))) (hZ:=fun g _ hg=>by omega)) (by exact Rep.mono (h:=(Rep.carry X1.out (Fr.r.set (.inl (by omega))))) (hZ:=fun g _ hg=>by omega)),by exact PSt.over (w0:=w) P1.out (Fr.r.set (.inl (by omega))) ltp ltt,by exact(T1.out.set (.inr (Nat.le_refl _)))⟩
  cases r2:((hd ts1).text.toList == [62])
  case true =>
   have E1:=hqZ (show aO E ts=(addP E (adv ts1)).bind fun y ts2=>.ok (.opn 8 [x,y]) ts2 from by rw[E0.out];simp only[bQ,dy,Tok.is,q0,q1,q2,r0,r1,r2,if_true,Bool.false_eq_true,if_false,Option.isSome,Option.getD])
   (go_wp2_with fail;refine(ag _ pb tb ts1 ?_).mono ?_;(all_goals try exact PSt.over (w0:=w) P1.out (Fr.r.alloc _) ltp ltt);rintro e w3 ⟨⟨o2,l2,c2,rfl⟩,hp,hf⟩;(have xs4:=Fr.size hf;simp only[aa,ae,ad,af]at xs4;have T1:=hqZ (Fr.trans (T0.out.alloc _) hf);clear T0;clear P1;have B2:=hqZ (Blk.next (B1.out.alloc _) hf (by show ¬ _;omega));clear B1;obtain⟨xk0,xl3⟩:=Blk.k1 B2.out;have B1:=hqZ (Blk.next (B0.out.alloc _) hf (by show ¬ _;omega));clear B0;obtain⟨xk3,xl4⟩:=Blk.k1 B1.out;have B0:=hqZ (Blk.next (Blk.at_ _ _ _ (n:=w2.heap.size) rfl) hf (by show ¬ _;omega));obtain⟨xk4,xl5⟩:=Blk.k6 B0.out;have X0:=hqZ (Rep.carry X1.out (Fr.trans' (Fr.r.alloc _) hf (fun k _ hs=>by omega)));clear X1;have P0:=hqZ hp;clear hp;clear hf;clear xk1 xk2))
   cases hs:addP E (adv ts1)with
   | out=>exact absurd (by rw[E1.out,hs];rfl) HN.out
   | bad =>
    (go_wp2_with fail;refine(HA.out.bad (tb:=tb) ?_ hs).mono ?_;(all_goals try exact P0.out);rintro e w4 ⟨t,u,rfl,hf⟩;(have xs6:=Fr.size hf;have T0:=hqZ (Fr.trans T1.out hf);clear T1;clear P0;have B3:=hqZ (Blk.next B2.out hf (by show ¬ _;omega));clear B2;obtain⟨xk1,xl6⟩:=Blk.k1 B3.out;have B2:=hqZ (Blk.next B1.out hf (by show ¬ _;omega));clear B1;obtain⟨xk2,xl7⟩:=Blk.k1 B2.out;have B1:=hqZ (Blk.next B0.out hf (by show ¬ _;omega));clear B0;obtain⟨xk10,xl8⟩:=Blk.k6 B1.out;have X1:=hqZ (Rep.carry X0.out (Fr.trans' Fr.r hf (fun k _ hs=>by omega)));clear X0;clear hf;clear xk0 xk3 xk4))
    go_wp2
    refine bodyPost_ret (v:=(.tuple #[.agg #[.nilIface],.iface t u])) (by simp only[results,Tryz.results178];go_simp) rfl ?_
    rw[E1.out,hs]
    exact⟨t,u,rfl,by exact((T0.out.set (.inr (Nat.le_refl _))).alloc _)⟩
   | ok y ts2 =>
    (go_wp2_with fail;refine(HA.out.ok (tb:=tb) ?_ hs).mono ?_;(all_goals try exact P0.out);rintro e w4 ⟨t2,u2,rfl,hy,hp,hf⟩;(have xs6:=Fr.size hf;have T0:=hqZ (Fr.trans T1.out hf);clear T1;clear P0;have B3:=hqZ (Blk.next B2.out hf (by show ¬ _;omega));clear B2;obtain⟨xk1,xl6⟩:=Blk.k1 B3.out;have B2:=hqZ (Blk.next B1.out hf (by show ¬ _;omega));clear B1;obtain⟨xk2,xl7⟩:=Blk.k1 B2.out;have B1:=hqZ (Blk.next B0.out hf (by show ¬ _;omega));clear B0;obtain⟨xk10,xl8⟩:=Blk.k6 B1.out;have X1:=hqZ (Rep.carry X0.out (Fr.trans' Fr.r hf (fun k _ hs=>by omega)));clear X0;have X0:=hqZ (Rep.mono (Z':=fun g=>w3.heap.size<=g/\g < w4.heap.size) (hZ:=fun g h1 h2=>⟨h2,h1⟩) (h:=hy));clear hy;have P0:=hqZ hp;clear hp;clear hf;clear xk0 xk3 xk4))
    (go_wp2_with fail;refine(ga _ _ _ _ _).mono ?_;rintro e w5 ⟨rfl,hf⟩;(have xs8:=Fr.size hf;simp only[aa,ae,ad,af]at xs8;have T1:=hqZ (Fr.transN (T0.out.alloc _) hf);clear T0;have P1:=hqZ (PSt.new (PSt.over (w0:=w) P0.out (Fr.r.alloc _) ltp ltt) hf);clear P0;have B0:=hqZ (Blk.next (B3.out.alloc _) hf id);clear B3;obtain⟨xk0,xl9⟩:=Blk.k1 B0.out;have B3:=hqZ (Blk.next (B2.out.alloc _) hf id);clear B2;obtain⟨xk3,xl10⟩:=Blk.k1 B3.out;have B2:=hqZ (Blk.next (B1.out.alloc _) hf id);clear B1;obtain⟨xk4,xl11⟩:=Blk.k6 B2.out;have B1:=hqZ (Blk.next (Blk.at_ _ _ _ (n:=w4.heap.size) rfl) hf id);obtain⟨xk16,xl12⟩:=Blk.k1 B1.out;have X2:=hqZ (Rep.carry X1.out (Fr.transN (Fr.r.alloc _) hf));clear X1;have X1:=hqZ (Rep.carry X0.out (Fr.transN (Fr.r.alloc _) hf));clear X0;clear hf;clear xk1 xk2 xk10))
    go_wp2
    refine bodyPost_ret (v:=(.tuple #[.agg #[.iface 263 (.agg #[.iface t1 u1,.iface t2 u2])],.nilIface])) (by simp only[results,Tryz.results178];go_simp) rfl ?_
    rw[E1.out,hs]
    exact⟨_,_,rfl,.bin 8 _ _ _ _ _ rfl (by exact Rep.mono (h:=(Rep.carry X2.out (Fr.r.set (.inl (by omega))))) (hZ:=fun g _ hg=>by omega)) (by exact Rep.mono (h:=(Rep.carry X1.out (Fr.r.set (.inl (by omega))))) (hZ:=fun g _ hg=>by omega)),by exact PSt.over (w0:=w) P1.out (Fr.r.set (.inl (by omega))) ltp ltt,by exact(T1.out.set (.inr (Nat.le_refl _)))⟩
  cases r3:((hd ts1).text.toList == [62,61])
  case true =>
   have E1:=hqZ (show aO E ts=(addP E (adv ts1)).bind fun y ts2=>.ok (.opn 9 [x,y]) ts2 from by rw[E0.out];simp only[bQ,dy,Tok.is,q0,q1,q2,r0,r1,r2,r3,if_true,Bool.false_eq_true,if_false,Option.isSome,Option.getD])
   (go_wp2_with fail;refine(ag _ pb tb ts1 ?_).mono ?_;(all_goals try exact PSt.over (w0:=w) P1.out (Fr.r.alloc _) ltp ltt);rintro e w3 ⟨⟨o2,l2,c2,rfl⟩,hp,hf⟩;(have xs4:=Fr.size hf;simp only[aa,ae,ad,af]at xs4;have T1:=hqZ (Fr.trans (T0.out.alloc _) hf);clear T0;clear P1;have B2:=hqZ (Blk.next (B1.out.alloc _) hf (by show ¬ _;omega));clear B1;obtain⟨xk0,xl3⟩:=Blk.k1 B2.out;have B1:=hqZ (Blk.next (B0.out.alloc _) hf (by show ¬ _;omega));clear B0;obtain⟨xk3,xl4⟩:=Blk.k1 B1.out;have B0:=hqZ (Blk.next (Blk.at_ _ _ _ (n:=w2.heap.size) rfl) hf (by show ¬ _;omega));obtain⟨xk4,xl5⟩:=Blk.k6 B0.out;have X0:=hqZ (Rep.carry X1.out (Fr.trans' (Fr.r.alloc _) hf (fun k _ hs=>by omega)));clear X1;have P0:=hqZ hp;clear hp;clear hf;clear xk1 xk2))
   cases hs:addP E (adv ts1)with
   | out=>exact absurd (by rw[E1.out,hs];rfl) HN.out
   | bad =>
    (go_wp2_with fail;refine(HA.out.bad (tb:=tb) ?_ hs).mono ?_;(all_goals try exact P0.out);rintro e w4 ⟨t,u,rfl,hf⟩;(have xs6:=Fr.size hf;have T0:=hqZ (Fr.trans T1.out hf);clear T1;clear P0;have B3:=hqZ (Blk.next B2.out hf (by show ¬ _;omega));clear B2;obtain⟨xk1,xl6⟩:=Blk.k1 B3.out;have B2:=hqZ (Blk.next B1.out hf (by show ¬ _;omega));clear B1;obtain⟨xk2,xl7⟩:=Blk.k1 B2.out;have B1:=hqZ (Blk.next B0.out hf (by show ¬ _;omega));clear B0;obtain⟨xk10,xl8⟩:=Blk.k6 B1.out;have X1:=hqZ (Rep.carry X0.out (Fr.trans' Fr.r hf (fun k _ hs=>by omega)));clear X0;clear hf;clear xk0 xk3 xk4))
    go_wp2
    refine bodyPost_ret (v:=(.tuple #[.agg #[.nilIface],.iface t u])) (by simp only[results,Tryz.results178];go_simp) rfl ?_
    rw[E1.out,hs]
    exact⟨t,u,rfl,by exact((T0.out.set (.inr (Nat.le_refl _))).alloc _)⟩
   | ok y ts2 =>
    (go_wp2_with fail;refine(HA.out.ok (tb:=tb) ?_ hs).mono ?_;(all_goals try exact P0.out);rintro e w4 ⟨t2,u2,rfl,hy,hp,hf⟩;(have xs6:=Fr.size hf;have T0:=hqZ (Fr.trans T1.out hf);clear T1;clear P0;have B3:=hqZ (Blk.next B2.out hf (by show ¬ _;omega));clear B2;obtain⟨xk1,xl6⟩:=Blk.k1 B3.out;have B2:=hqZ (Blk.next B1.out hf (by show ¬ _;omega));clear B1;obtain⟨xk2,xl7⟩:=Blk.k1 B2.out;have B1:=hqZ (Blk.next B0.out hf (by show ¬ _;omega));clear B0;obtain⟨xk10,xl8⟩:=Blk.k6 B1.out;have X1:=hqZ (Rep.carry X0.out (Fr.trans' Fr.r hf (fun k _ hs=>by omega)));clear X0;have X0:=hqZ (Rep.mono (Z':=fun g=>w3.heap.size<=g/\g < w4.heap.size) (hZ:=fun g h1 h2=>⟨h2,h1⟩) (h:=hy));clear hy;have P0:=hqZ hp;clear hp;clear hf;clear xk0 xk3 xk4))
    (go_wp2_with fail;refine(dL _ _ _ _ _).mono ?_;rintro e w5 ⟨rfl,hf⟩;(have xs8:=Fr.size hf;simp only[aa,ae,ad,af]at xs8;have T1:=hqZ (Fr.transN (T0.out.alloc _) hf);clear T0;have P1:=hqZ (PSt.new (PSt.over (w0:=w) P0.out (Fr.r.alloc _) ltp ltt) hf);clear P0;have B0:=hqZ (Blk.next (B3.out.alloc _) hf id);clear B3;obtain⟨xk0,xl9⟩:=Blk.k1 B0.out;have B3:=hqZ (Blk.next (B2.out.alloc _) hf id);clear B2;obtain⟨xk3,xl10⟩:=Blk.k1 B3.out;have B2:=hqZ (Blk.next (B1.out.alloc _) hf id);clear B1;obtain⟨xk4,xl11⟩:=Blk.k6 B2.out;have B1:=hqZ (Blk.next (Blk.at_ _ _ _ (n:=w4.heap.size) rfl) hf id);obtain⟨xk16,xl12⟩:=Blk.k1 B1.out;have X2:=hqZ (Rep.carry X1.out (Fr.transN (Fr.r.alloc _) hf));clear X1;have X1:=hqZ (Rep.carry X0.out (Fr.transN (Fr.r.alloc _) hf));clear X0;clear hf;clear xk1 xk2 xk10))
    go_wp2
    refine bodyPost_ret (v:=(.tuple #[.agg #[.iface 264 (.agg #[.iface t1 u1,.iface t2 u2])],.nilIface])) (by simp only[results,Tryz.results178];go_simp) rfl ?_
    rw[E1.out,hs]
    exact⟨_,_,rfl,.bin 9 _ _ _ _ _ rfl (by exact Rep.mono (h:=(Rep.carry X2.out (Fr.r.set (.inl (by omega))))) (hZ:=fun g _ hg=>by omega)) (by exact Rep.mono (h:=(Rep.carry X1.out (Fr.r.set (.inl (by omega))))) (hZ:=fun g _ hg=>by omega)),by exact PSt.over (w0:=w) P1.out (Fr.r.set (.inl (by omega))) ltp ltt,by exact(T1.out.set (.inr (Nat.le_refl _)))⟩
  cases r4:((hd ts1).text.toList == [33,61])
  case true =>
   have E1:=hqZ (show aO E ts=(addP E (adv ts1)).bind fun y ts2=>.ok (.opn 10 [x,y]) ts2 from by rw[E0.out];simp only[bQ,dy,Tok.is,q0,q1,q2,r0,r1,r2,r3,r4,if_true,Bool.false_eq_true,if_false,Option.isSome,Option.getD])
   (go_wp2_with fail;refine(ag _ pb tb ts1 ?_).mono ?_;(all_goals try exact PSt.over (w0:=w) P1.out (Fr.r.alloc _) ltp ltt);rintro e w3 ⟨⟨o2,l2,c2,rfl⟩,hp,hf⟩;(have xs4:=Fr.size hf;simp only[aa,ae,ad,af]at xs4;have T1:=hqZ (Fr.trans (T0.out.alloc _) hf);clear T0;clear P1;have B2:=hqZ (Blk.next (B1.out.alloc _) hf (by show ¬ _;omega));clear B1;obtain⟨xk0,xl3⟩:=Blk.k1 B2.out;have B1:=hqZ (Blk.next (B0.out.alloc _) hf (by show ¬ _;omega));clear B0;obtain⟨xk3,xl4⟩:=Blk.k1 B1.out;have B0:=hqZ (Blk.next (Blk.at_ _ _ _ (n:=w2.heap.size) rfl) hf (by show ¬ _;omega));obtain⟨xk4,xl5⟩:=Blk.k6 B0.out;have X0:=hqZ (Rep.carry X1.out (Fr.trans' (Fr.r.alloc _) hf (fun k _ hs=>by omega)));clear X1;have P0:=hqZ hp;clear hp;clear hf;clear xk1 xk2))
   cases hs:addP E (adv ts1)with
   | out=>exact absurd (by rw[E1.out,hs];rfl) HN.out
   | bad =>
    (go_wp2_with fail;refine(HA.out.bad (tb:=tb) ?_ hs).mono ?_;(all_goals try exact P0.out);rintro e w4 ⟨t,u,rfl,hf⟩;(have xs6:=Fr.size hf;have T0:=hqZ (Fr.trans T1.out hf);clear T1;clear P0;have B3:=hqZ (Blk.next B2.out hf (by show ¬ _;omega));clear B2;obtain⟨xk1,xl6⟩:=Blk.k1 B3.out;have B2:=hqZ (Blk.next B1.out hf (by show ¬ _;omega));clear B1;obtain⟨xk2,xl7⟩:=Blk.k1 B2.out;have B1:=hqZ (Blk.next B0.out hf (by show ¬ _;omega));clear B0;obtain⟨xk10,xl8⟩:=Blk.k6 B1.out;have X1:=hqZ (Rep.carry X0.out (Fr.trans' Fr.r hf (fun k _ hs=>by omega)));clear X0;clear hf;clear xk0 xk3 xk4))
    go_wp2
    refine bodyPost_ret (v:=(.tuple #[.agg #[.nilIface],.iface t u])) (by simp only[results,Tryz.results178];go_simp) rfl ?_
    rw[E1.out,hs]
    exact⟨t,u,rfl,by exact((T0.out.set (.inr (Nat.le_refl _))).alloc _)⟩
   | ok y ts2 =>
    (go_wp2_with fail;refine(HA.out.ok (tb:=tb) ?_ hs).mono ?_;(all_goals try exact P0.out);rintro e w4 ⟨t2,u2,rfl,hy,hp,hf⟩;(have xs6:=Fr.size hf;have T0:=hqZ (Fr.trans T1.out hf);clear T1;clear P0;have B3:=hqZ (Blk.next B2.out hf (by show ¬ _;omega));clear B2;obtain⟨xk1,xl6⟩:=Blk.k1 B3.out;have B2:=hqZ (Blk.next B1.out hf (by show ¬ _;omega));clear B1;obtain⟨xk2,xl7⟩:=Blk.k1 B2.out;have B1:=hqZ (Blk.next B0.out hf (by show ¬ _;omega));clear B0;obtain⟨xk10,xl8⟩:=Blk.k6 B1.out;have X1:=hqZ (Rep.carry X0.out (Fr.trans' Fr.r hf (fun k _ hs=>by omega)));clear X0;have X0:=hqZ (Rep.mono (Z':=fun g=>w3.heap.size<=g/\g < w4.heap.size) (hZ:=fun g h1 h2=>⟨h2,h1⟩) (h:=hy));clear hy;have P0:=hqZ hp;clear hp;clear hf;clear xk0 xk3 xk4))
    (go_wp2_with fail;refine(iA _ _ _ _ _).mono ?_;rintro e w5 ⟨rfl,hf⟩;(have xs8:=Fr.size hf;simp only[aa,ae,ad,af]at xs8;have T1:=hqZ (Fr.transN (T0.out.alloc _) hf);clear T0;have P1:=hqZ (PSt.new (PSt.over (w0:=w) P0.out (Fr.r.alloc _) ltp ltt) hf);clear P0;have B0:=hqZ (Blk.next (B3.out.alloc _) hf id);clear B3;obtain⟨xk0,xl9⟩:=Blk.k1 B0.out;have B3:=hqZ (Blk.next (B2.out.alloc _) hf id);clear B2;obtain⟨xk3,xl10⟩:=Blk.k1 B3.out;have B2:=hqZ (Blk.next (B1.out.alloc _) hf id);clear B1;obtain⟨xk4,xl11⟩:=Blk.k6 B2.out;have B1:=hqZ (Blk.next (Blk.at_ _ _ _ (n:=w4.heap.size) rfl) hf id);obtain⟨xk16,xl12⟩:=Blk.k1 B1.out;have X2:=hqZ (Rep.carry X1.out (Fr.transN (Fr.r.alloc _) hf));clear X1;have X1:=hqZ (Rep.carry X0.out (Fr.transN (Fr.r.alloc _) hf));clear X0;clear hf;clear xk1 xk2 xk10))
    go_wp2
    refine bodyPost_ret (v:=(.tuple #[.agg #[.iface 265 (.agg #[.iface t1 u1,.iface t2 u2])],.nilIface])) (by simp only[results,Tryz.results178];go_simp) rfl ?_
    rw[E1.out,hs]
    exact⟨_,_,rfl,.bin 10 _ _ _ _ _ rfl (by exact Rep.mono (h:=(Rep.carry X2.out (Fr.r.set (.inl (by omega))))) (hZ:=fun g _ hg=>by omega)) (by exact Rep.mono (h:=(Rep.carry X1.out (Fr.r.set (.inl (by omega))))) (hZ:=fun g _ hg=>by omega)),by exact PSt.over (w0:=w) P1.out (Fr.r.set (.inl (by omega))) ltp ltt,by exact(T1.out.set (.inr (Nat.le_refl _)))⟩
  cases r5:((hd ts1).text.toList == [61,61])
  case true =>
   have E1:=hqZ (show aO E ts=(addP E (adv ts1)).bind fun y ts2=>.ok (.opn 11 [x,y]) ts2 from by rw[E0.out];simp only[bQ,dy,Tok.is,q0,q1,q2,r0,r1,r2,r3,r4,r5,if_true,Bool.false_eq_true,if_false,Option.isSome,Option.getD])
   (go_wp2_with fail;refine(ag _ pb tb ts1 ?_).mono ?_;(all_goals try exact PSt.over (w0:=w) P1.out (Fr.r.alloc _) ltp ltt);rintro e w3 ⟨⟨o2,l2,c2,rfl⟩,hp,hf⟩;(have xs4:=Fr.size hf;simp only[aa,ae,ad,af]at xs4;have T1:=hqZ (Fr.trans (T0.out.alloc _) hf);clear T0;clear P1;have B2:=hqZ (Blk.next (B1.out.alloc _) hf (by show ¬ _;omega));clear B1;obtain⟨xk0,xl3⟩:=Blk.k1 B2.out;have B1:=hqZ (Blk.next (B0.out.alloc _) hf (by show ¬ _;omega));clear B0;obtain⟨xk3,xl4⟩:=Blk.k1 B1.out;have B0:=hqZ (Blk.next (Blk.at_ _ _ _ (n:=w2.heap.size) rfl) hf (by show ¬ _;omega));obtain⟨xk4,xl5⟩:=Blk.k6 B0.out;have X0:=hqZ (Rep.carry X1.out (Fr.trans' (Fr.r.alloc _) hf (fun k _ hs=>by omega)));clear X1;have P0:=hqZ hp;clear hp;clear hf;clear xk1 xk2))
   cases hs:addP E (adv ts1)with
   | out=>exact absurd (by rw[E1.out,hs];rfl) HN.out
   | bad =>
    (go_wp2_with fail;refine(HA.out.bad (tb:=tb) ?_ hs).mono ?_;(all_goals try exact P0.out);rintro e w4 ⟨t,u,rfl,hf⟩;(have xs6:=Fr.size hf;have T0:=hqZ (Fr.trans T1.out hf);clear T1;clear P0;have B3:=hqZ (Blk.next B2.out hf (by show ¬ _;omega));clear B2;obtain⟨xk1,xl6⟩:=Blk.k1 B3.out;have B2:=hqZ (Blk.next B1.out hf (by show ¬ _;omega));clear B1;obtain⟨xk2,xl7⟩:=Blk.k1 B2.out;have B1:=hqZ (Blk.next B0.out hf (by show ¬ _;omega));clear B0;obtain⟨xk10,xl8⟩:=Blk.k6 B1.out;have X1:=hqZ (Rep.carry X0.out (Fr.trans' Fr.r hf (fun k _ hs=>by omega)));clear X0;clear hf;clear xk0 xk3 xk4))
    go_wp2
    refine bodyPost_ret (v:=(.tuple #[.agg #[.nilIface],.iface t u])) (by simp only[results,Tryz.results178];go_simp) rfl ?_
    rw[E1.out,hs]
    exact⟨t,u,rfl,by exact((T0.out.set (.inr (Nat.le_refl _))).alloc _)⟩
   | ok y ts2 =>
    (go_wp2_with fail;refine(HA.out.ok (tb:=tb) ?_ hs).mono ?_;(all_goals try exact P0.out);rintro e w4 ⟨t2,u2,rfl,hy,hp,hf⟩;(have xs6:=Fr.size hf;have T0:=hqZ (Fr.trans T1.out hf);clear T1;clear P0;have B3:=hqZ (Blk.next B2.out hf (by show ¬ _;omega));clear B2;obtain⟨xk1,xl6⟩:=Blk.k1 B3.out;have B2:=hqZ (Blk.next B1.out hf (by show ¬ _;omega));clear B1;obtain⟨xk2,xl7⟩:=Blk.k1 B2.out;have B1:=hqZ (Blk.next B0.out hf (by show ¬ _;omega));clear B0;obtain⟨xk10,xl8⟩:=Blk.k6 B1.out;have X1:=hqZ (Rep.carry X0.out (Fr.trans' Fr.r hf (fun k _ hs=>by omega)));clear X0;have X0:=hqZ (Rep.mono (Z':=fun g=>w3.heap.size<=g/\g < w4.heap.size) (hZ:=fun g h1 h2=>⟨h2,h1⟩) (h:=hy));clear hy;have P0:=hqZ hp;clear hp;clear hf;clear xk0 xk3 xk4))
    (go_wp2_with fail;refine(lO _ _ _ _ _).mono ?_;rintro e w5 ⟨rfl,hf⟩;(have xs8:=Fr.size hf;simp only[aa,ae,ad,af]at xs8;have T1:=hqZ (Fr.transN (T0.out.alloc _) hf);clear T0;have P1:=hqZ (PSt.new (PSt.over (w0:=w) P0.out (Fr.r.alloc _) ltp ltt) hf);clear P0;have B0:=hqZ (Blk.next (B3.out.alloc _) hf id);clear B3;obtain⟨xk0,xl9⟩:=Blk.k1 B0.out;have B3:=hqZ (Blk.next (B2.out.alloc _) hf id);clear B2;obtain⟨xk3,xl10⟩:=Blk.k1 B3.out;have B2:=hqZ (Blk.next (B1.out.alloc _) hf id);clear B1;obtain⟨xk4,xl11⟩:=Blk.k6 B2.out;have B1:=hqZ (Blk.next (Blk.at_ _ _ _ (n:=w4.heap.size) rfl) hf id);obtain⟨xk16,xl12⟩:=Blk.k1 B1.out;have X2:=hqZ (Rep.carry X1.out (Fr.transN (Fr.r.alloc _) hf));clear X1;have X1:=hqZ (Rep.carry X0.out (Fr.transN (Fr.r.alloc _) hf));clear X0;clear hf;clear xk1 xk2 xk10))
    go_wp2
    refine bodyPost_ret (v:=(.tuple #[.agg #[.iface 266 (.agg #[.iface t1 u1,.iface t2 u2])],.nilIface])) (by simp only[results,Tryz.results178];go_simp) rfl ?_
    rw[E1.out,hs]
    exact⟨_,_,rfl,.bin 11 _ _ _ _ _ rfl (by exact Rep.mono (h:=(Rep.carry X2.out (Fr.r.set (.inl (by omega))))) (hZ:=fun g _ hg=>by omega)) (by exact Rep.mono (h:=(Rep.carry X1.out (Fr.r.set (.inl (by omega))))) (hZ:=fun g _ hg=>by omega)),by exact PSt.over (w0:=w) P1.out (Fr.r.set (.inl (by omega))) ltp ltt,by exact(T1.out.set (.inr (Nat.le_refl _)))⟩
  cases r6:((hd ts1).text.toList == [105,110])
  case true =>
   have E1:=hqZ (show aO E ts=(addP E (adv ts1)).bind fun y ts2=>.ok (.opn 12 [x,y]) ts2 from by rw[E0.out];simp only[bQ,dy,Tok.is,q0,q1,q2,r0,r1,r2,r3,r4,r5,r6,if_true,Bool.false_eq_true,if_false,Option.isSome,Option.getD])
   (go_wp2_with fail;refine(ag _ pb tb ts1 ?_).mono ?_;(all_goals try exact PSt.over (w0:=w) P1.out (Fr.r.alloc _) ltp ltt);rintro e w3 ⟨⟨o2,l2,c2,rfl⟩,hp,hf⟩;(have xs4:=Fr.size hf;simp only[aa,ae,ad,af]at xs4;have T1:=hqZ (Fr.trans (T0.out.alloc _) hf);clear T0;clear P1;have B2:=hqZ (Blk.next (B1.out.alloc _) hf (by show ¬ _;omega));clear B1;obtain⟨xk0,xl3⟩:=Blk.k1 B2.out;have B1:=hqZ (Blk.next (B0.out.alloc _) hf (by show ¬ _;omega));clear B0;obtain⟨xk3,xl4⟩:=Blk.k1 B1.out;have B0:=hqZ (Blk.next (Blk.at_ _ _ _ (n:=w2.heap.size) rfl) hf (by show ¬ _;omega));obtain⟨xk4,xl5⟩:=Blk.k6 B0.out;have X0:=hqZ (Rep.carry X1.out (Fr.trans' (Fr.r.alloc _) hf (fun k _ hs=>by omega)));clear X1;have P0:=hqZ hp;clear hp;clear hf;clear xk1 xk2))
   cases hs:addP E (adv ts1)with
   | out=>exact absurd (by rw[E1.out,hs];rfl) HN.out
   | bad =>
    (go_wp2_with fail;refine(HA.out.bad (tb:=tb) ?_ hs).mono ?_;(all_goals try exact P0.out);rintro e w4 ⟨t,u,rfl,hf⟩;(have xs6:=Fr.size hf;have T0:=hqZ (Fr.trans T1.out hf);clear T1;clear P0;have B3:=hqZ (Blk.next B2.out hf (by show ¬ _;omega));clear B2;obtain⟨xk1,xl6⟩:=Blk.k1 B3.out;have B2:=hqZ (Blk.next B1.out hf (by show ¬ _;omega));clear B1;obtain⟨xk2,xl7⟩:=Blk.k1 B2.out;have B1:=hqZ (Blk.next B0.out hf (by show ¬ _;omega));clear B0;obtain⟨xk10,xl8⟩:=Blk.k6 B1.out;have X1:=hqZ (Rep.carry X0.out (Fr.trans' Fr.r hf (fun k _ hs=>by omega)));clear X0;clear hf;clear xk0 xk3 xk4))
    go_wp2
    refine bodyPost_ret (v:=(.tuple #[.agg #[.nilIface],.iface t u])) (by simp only[results,Tryz.results178];go_simp) rfl ?_
    rw[E1.out,hs]
    exact⟨t,u,rfl,by exact((T0.out.set (.inr (Nat.le_refl _))).alloc _)⟩
   | ok y ts2 =>
    (go_wp2_with fail;refine(HA.out.ok (tb:=tb) ?_ hs).mono ?_;(all_goals try exact P0.out);rintro e w4 ⟨t2,u2,rfl,hy,hp,hf⟩;(have xs6:=Fr.size hf;have T0:=hqZ (Fr.trans T1.out hf);clear T1;clear P0;have B3:=hqZ (Blk.next B2.out hf (by show ¬ _;omega));clear B2;obtain⟨xk1,xl6⟩:=Blk.k1 B3.out;have B2:=hqZ (Blk.next B1.out hf (by show ¬ _;omega));clear B1;obtain⟨xk2,xl7⟩:=Blk.k1 B2.out;have B1:=hqZ (Blk.next B0.out hf (by show ¬ _;omega));clear B0;obtain⟨xk10,xl8⟩:=Blk.k6 B1.out;have X1:=hqZ (Rep.carry X0.out (Fr.trans' Fr.r hf (fun k _ hs=>by omega)));clear X0;have X0:=hqZ (Rep.mono (Z':=fun g=>w3.heap.size<=g/\g < w4.heap.size) (hZ:=fun g h1 h2=>⟨h2,h1⟩) (h:=hy));clear hy;have P0:=hqZ hp;clear hp;clear hf;clear xk0 xk3 xk4))
    (go_wp2_with fail;refine(qS _ _ _ _ _).mono ?_;rintro e w5 ⟨rfl,hf⟩;(have xs8:=Fr.size hf;simp only[aa,ae,ad,af]at xs8;have T1:=hqZ (Fr.transN (T0.out.alloc _) hf);clear T0;have P1:=hqZ (PSt.new (PSt.over (w0:=w) P0.out (Fr.r.alloc _) ltp ltt) hf);clear P0;have B0:=hqZ (Blk.next (B3.out.alloc _) hf id);clear B3;obtain⟨xk0,xl9⟩:=Blk.k1 B0.out;have B3:=hqZ (Blk.next (B2.out.alloc _) hf id);clear B2;obtain⟨xk3,xl10⟩:=Blk.k1 B3.out;have B2:=hqZ (Blk.next (B1.out.alloc _) hf id);clear B1;obtain⟨xk4,xl11⟩:=Blk.k6 B2.out;have B1:=hqZ (Blk.next (Blk.at_ _ _ _ (n:=w4.heap.size) rfl) hf id);obtain⟨xk16,xl12⟩:=Blk.k1 B1.out;have X2:=hqZ (Rep.carry X1.out (Fr.transN (Fr.r.alloc _) hf));clear X1;have X1:=hqZ (Rep.carry X0.out (Fr.transN (Fr.r.alloc _) hf));clear X0;clear hf;clear xk1 xk2 xk10))
    go_wp2
    refine bodyPost_ret (v:=(.tuple #[.agg #[.iface 267 (.agg #[.iface t1 u1,.iface t2 u2])],.nilIface])) (by simp only[results,Tryz.results178];go_simp) rfl ?_
    rw[E1.out,hs]
    exact⟨_,_,rfl,.bin 12 _ _ _ _ _ rfl (by exact Rep.mono (h:=(Rep.carry X2.out (Fr.r.set (.inl (by omega))))) (hZ:=fun g _ hg=>by omega)) (by exact Rep.mono (h:=(Rep.carry X1.out (Fr.r.set (.inl (by omega))))) (hZ:=fun g _ hg=>by omega)),by exact PSt.over (w0:=w) P1.out (Fr.r.set (.inl (by omega))) ltp ltt,by exact(T1.out.set (.inr (Nat.le_refl _)))⟩
  have E1:=hqZ (show aO E ts = .ok x ts1 from by rw[E0.out];simp[bQ,dy,Tok.is,q0,q1,q2,r0,r1,r2,r3,r4,r5,r6])
  go_wp2
  refine bodyPost_ret (v:=(.tuple #[.agg #[.iface t1 u1],.nilIface])) (by simp only[results,Tryz.results178];go_simp) rfl ?_
  rw[E1.out]
  exact⟨t1,u1,rfl,by exact Rep.mono (h:=(Rep.carry X1.out ((Fr.r.set (.inl (by omega))).alloc _))) (hZ:=fun g _ hg=>by omega),by exact PSt.over (w0:=w) P1.out ((Fr.r.set (.inl (by omega))).alloc _) ltp ltt,by exact((T0.out.set (.inr (Nat.le_refl _))).alloc _)⟩
end Go.Proofs.YtbdhlpeckennjaaGreatDoor
