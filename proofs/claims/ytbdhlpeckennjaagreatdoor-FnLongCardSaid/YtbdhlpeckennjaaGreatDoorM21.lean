/- FnLong (the proof that the law returns true for every input), part 21 of 52; the last part says what is proved, and its condition. -/
import Derived.Deep.LoopGhost
import Derived.Test.YtbdhlpeckennjaaGreatDoorM03
import Derived.Test.YtbdhlpeckennjaaGreatDoorM06
set_option linter.unusedVariables false
set_option linter.unusedSimpArgs false
set_option maxHeartbeats 80000000
set_option maxRecDepth 1000000
namespace Go.Proofs.YtbdhlpeckennjaaGreatDoor
open Go Go.RowKit
theorem fn_some(n:FuncId)(w:World):Sem.run Tryz.prog (binOp BinOp.eql 339 (.func (.func n) #[] #[]) .nilFunc) w = .ok (.bool false) w:=by kernel_rfl
theorem fn_none(w:World):Sem.run Tryz.prog (binOp BinOp.eql 339 .nilFunc .nilFunc) w = .ok (.bool true) w:=by kernel_rfl
theorem rX(A:List Tok->PR Ex)(hA:Does 195 A):Does 184 (aS cG A):=by
 intro w pb tb ts h hne
 have hft:=aq
 have hfn:=fn_some
 have hfm:=fn_none
 have ltp:=h.lt
 have ltt:=h.lt2
 have P0:=hqZ h
 have T0:=hqZ (Fr.refl (· = pb) w)
 have HN:=hqZ hne
 have HA:=hqZ hA
 clear h hne hA
 go_enter Tryz.func184,Tryz.ntmps184
 cases hr:A ts with
 | out=>exact absurd (by rw[aS,hr];rfl) HN.out
 | bad =>
  (go_wp2_with fail;refine(HA.out.bad (tb:=tb) ?_ hr).mono ?_;(all_goals try exact PSt.over (w0:=w) P0.out (Fr.r.alloc _) ltp ltt);rintro e w1 ⟨t,u,rfl,hf⟩;(have xs0:=Fr.size hf;simp only[aa,ae,ad,af]at xs0;have T1:=hqZ (Fr.trans (T0.out.alloc _) hf);clear T0;clear P0;have B0:=hqZ (Blk.next (Blk.at_ _ _ _ (n:=w.heap.size) rfl) hf (by show ¬ _;omega));obtain⟨xk0,xl0⟩:=Blk.k1 B0.out;clear hf))
  go_wp2
  refine bodyPost_ret (v:=(.tuple #[.agg #[.nilIface],.iface t u])) (by simp only[results,Tryz.results184];go_simp) rfl ?_
  rw[show aS cG A ts = .bad from by rw[aS,hr];rfl]
  exact⟨t,u,rfl,by exact((T1.out.set (.inr (Nat.le_refl _))).alloc _)⟩
 | ok x ts1 =>
  have E0:=hqZ (show aS cG A ts=aj (aE cG A) x ts1 from by rw[aS,hr];rfl)
  (go_wp2_with fail;refine(HA.out.ok (tb:=tb) ?_ hr).mono ?_;(all_goals try exact PSt.over (w0:=w) P0.out (Fr.r.alloc _) ltp ltt);rintro e w1 ⟨t1,u1,rfl,hx,hp,hf⟩;(have xs0:=Fr.size hf;simp only[aa,ae,ad,af]at xs0;have T1:=hqZ (Fr.trans (T0.out.alloc _) hf);clear T0;clear P0;have B0:=hqZ (Blk.next (Blk.at_ _ _ _ (n:=w.heap.size) rfl) hf (by show ¬ _;omega));obtain⟨xk0,xl0⟩:=Blk.k1 B0.out;have X0:=hqZ (Rep.mono (Z':=fun g=>w.heap.size+1<=g/\g < w1.heap.size) (hZ:=fun g h1 h2=>by simp only[aa,ae,ad,af]at h2;omega) (h:=hx));clear hx;have P0:=hqZ hp;clear hp;clear hf))
  clear hr
  go_wp2_with fail
  go_loopg [] (ts1.length+1) (fun k wr=>∃ (x':Ex) (t':TypeId) (u':Value) (ts':List Tok),
   ai (aE cG A) k x' ts'=aS cG A ts/\PSt wr pb tb ts'/\Fr (· = pb) w wr/\Rep wr (fun g=>w.heap.size < g/\g ≠ w1.heap.size) x' (.iface t' u') /\
   Blk wr w.heap.size #[.nilIface] 246/\Blk wr w1.heap.size #[.iface t' u'] 246)
  case atStart =>
   exact⟨x,t1,u1,ts1,by rw[E0.out];rfl,by exact PSt.over (w0:=w) P0.out (Fr.r.alloc _) ltp ltt,by exact(T1.out.alloc _),by exact Rep.mono (h:=(Rep.carry X0.out (Fr.r.alloc _))) (hZ:=fun g _ hg=>by omega),by exact(B0.out.alloc _),by exact(Blk.at_ _ _ _ (n:=w1.heap.size) rfl)⟩
  case round =>
   obtain⟨x',t',u',ts',e1,hp,hf,hx1,hb1,hb2⟩:=hrel
   (clear T1;clear P0;clear B0;clear X0;clear xk0;have H0:=hqZ hf;have xs2:=Fr.size H0.out;clear hf;have H1:=hqZ hp;clear hp;have H2:=hqZ hb1;obtain⟨xk0,xl1⟩:=Blk.k1 H2.out;clear hb1;have H3:=hqZ hb2;obtain⟨xk1,xl2⟩:=Blk.k1 H3.out;clear hb2;have H4:=hqZ (Rep.mono (Z':=fun g=>(w.heap.size < g/\g ≠ w1.heap.size)/\g < wr.heap.size) (hZ:=fun g h1 h2=>⟨h2,h1⟩) (h:=hx1));clear hx1)
   have E1:=hqZ e1
   clear e1
   obtain⟨n,rfl⟩:∃ n,gk=n+1:=by
    cases gk with
    | zero=>exact absurd E1.out.symm HN.out
    | succ n=>exact⟨n,rfl⟩
   (go_wp2_with fail;refine(ay _ pb tb ts' ?_).mono ?_;(all_goals try exact H1.out);rintro e v1 ⟨⟨o1,l1,c1,rfl⟩,hf⟩;(have xs3:=Fr.size hf;have T0:=hqZ (Fr.transN H0.out hf);clear H0;have P0:=hqZ (PSt.new (H1.out) hf);clear H1;have B0:=hqZ (Blk.next H2.out hf id);clear H2;obtain⟨xk2,xl3⟩:=Blk.k1 B0.out;have B1:=hqZ (Blk.next H3.out hf id);clear H3;obtain⟨xk3,xl4⟩:=Blk.k1 B1.out;have X0:=hqZ (Rep.carry H4.out (Fr.transN Fr.r hf));clear H4;clear hf;clear xk0 xk1))
   cases q1:((hd ts').text.toList == [43])
   case true =>
    have E2:=hqZ (show aS cG A ts=(A (adv ts')).bind fun y ts1=>ai (aE cG A) n (.opn 19 [x',y]) ts1 from by
     rw[<- E1.out];simp only[ai,aE,cG,Tok.is,q1,if_true,Option.isSome,Option.getD];cases A (adv ts') <;> rfl)
    (go_wp2_with fail;refine(ag _ pb tb ts' ?_).mono ?_;(all_goals try exact PSt.over (w0:=w) P0.out (Fr.r.alloc _) ltp ltt);rintro e v2 ⟨⟨o2,l2,c2,rfl⟩,hp,hf⟩;(have xs5:=Fr.size hf;simp only[aa,ae,ad,af]at xs5;have T1:=hqZ (Fr.trans (T0.out.alloc _) hf);clear T0;clear P0;have B2:=hqZ (Blk.next (B0.out.alloc _) hf (by show ¬ _;omega));clear B0;obtain⟨xk0,xl5⟩:=Blk.k1 B2.out;have B0:=hqZ (Blk.next (B1.out.alloc _) hf (by show ¬ _;omega));clear B1;obtain⟨xk1,xl6⟩:=Blk.k1 B0.out;have B1:=hqZ (Blk.next (Blk.at_ _ _ _ (n:=v1.heap.size) rfl) hf (by show ¬ _;omega));obtain⟨xk4,xl7⟩:=Blk.k6 B1.out;have X1:=hqZ (Rep.carry X0.out (Fr.trans' (Fr.r.alloc _) hf (fun k _ hs=>by omega)));clear X0;have P0:=hqZ hp;clear hp;clear hf;clear xk2 xk3))
    cases hs:A (adv ts')with
    | out=>exact absurd (by rw[E2.out,hs];rfl) HN.out
    | bad =>
     (go_wp2_with fail;refine(HA.out.bad (tb:=tb) ?_ hs).mono ?_;(all_goals try exact P0.out);rintro e v3 ⟨t,u,rfl,hf⟩;(have xs7:=Fr.size hf;have T0:=hqZ (Fr.trans T1.out hf);clear T1;clear P0;have B3:=hqZ (Blk.next B2.out hf (by show ¬ _;omega));clear B2;obtain⟨xk2,xl8⟩:=Blk.k1 B3.out;have B2:=hqZ (Blk.next B0.out hf (by show ¬ _;omega));clear B0;obtain⟨xk3,xl9⟩:=Blk.k1 B2.out;have B0:=hqZ (Blk.next B1.out hf (by show ¬ _;omega));clear B1;obtain⟨xk10,xl10⟩:=Blk.k6 B0.out;have X0:=hqZ (Rep.carry X1.out (Fr.trans' Fr.r hf (fun k _ hs=>by omega)));clear X1;clear hf;clear xk0 xk1 xk4))
     go_wp2
     refine bodyPost_ret (v:=(.tuple #[.agg #[.nilIface],.iface t u])) (by simp only[results,Tryz.results184];go_simp) rfl ?_
     rw[E2.out,hs]
     exact⟨t,u,rfl,by exact((T0.out.set (.inr (Nat.le_refl _))).alloc _)⟩
    | ok y ts2 =>
     have E3:=hqZ (show ai (aE cG A) n (.opn 19 [x',y]) ts2=aS cG A ts from by rw[E2.out,hs];rfl)
     (go_wp2_with fail;refine(HA.out.ok (tb:=tb) ?_ hs).mono ?_;(all_goals try exact P0.out);rintro e v3 ⟨t2,u2,rfl,hy,hp,hf⟩;(have xs7:=Fr.size hf;have T0:=hqZ (Fr.trans T1.out hf);clear T1;clear P0;have B3:=hqZ (Blk.next B2.out hf (by show ¬ _;omega));clear B2;obtain⟨xk2,xl8⟩:=Blk.k1 B3.out;have B2:=hqZ (Blk.next B0.out hf (by show ¬ _;omega));clear B0;obtain⟨xk3,xl9⟩:=Blk.k1 B2.out;have B0:=hqZ (Blk.next B1.out hf (by show ¬ _;omega));clear B1;obtain⟨xk10,xl10⟩:=Blk.k6 B0.out;have X0:=hqZ (Rep.carry X1.out (Fr.trans' Fr.r hf (fun k _ hs=>by omega)));clear X1;have X1:=hqZ (Rep.mono (Z':=fun g=>v2.heap.size<=g/\g < v3.heap.size) (hZ:=fun g h1 h2=>⟨h2,h1⟩) (h:=hy));clear hy;have P0:=hqZ hp;clear hp;clear hf;clear xk0 xk1 xk4))
     (go_wp2_with fail;refine(pg _ _ _ _ _).mono ?_;rintro e v4 ⟨rfl,hf⟩;(have xs9:=Fr.size hf;simp only[aa,ae,ad,af]at xs9;have T1:=hqZ (Fr.transN (T0.out.alloc _) hf);clear T0;have P1:=hqZ (PSt.new (PSt.over (w0:=w) P0.out (Fr.r.alloc _) ltp ltt) hf);clear P0;have B1:=hqZ (Blk.next (B3.out.alloc _) hf id);clear B3;obtain⟨xk0,xl11⟩:=Blk.k1 B1.out;have B3:=hqZ (Blk.next (B2.out.alloc _) hf id);clear B2;obtain⟨xk1,xl12⟩:=Blk.k1 B3.out;have B2:=hqZ (Blk.next (B0.out.alloc _) hf id);clear B0;obtain⟨xk4,xl13⟩:=Blk.k6 B2.out;have B0:=hqZ (Blk.next (Blk.at_ _ _ _ (n:=v3.heap.size) rfl) hf id);obtain⟨xk16,xl14⟩:=Blk.k1 B0.out;have X2:=hqZ (Rep.carry X0.out (Fr.transN (Fr.r.alloc _) hf));clear X0;have X0:=hqZ (Rep.carry X1.out (Fr.transN (Fr.r.alloc _) hf));clear X1;clear hf;clear xk2 xk3 xk10))
     go_wp2
     go_roundg n
     case measure=>omega
     case rel =>
      exact⟨_,_,_,_,E3.out,by exact PSt.over (w0:=w) P1.out (Fr.r.set (.inl (by omega))) ltp ltt,by exact(T1.out.set (.inr (by omega))),.bin 19 _ _ _ _ _ rfl (by exact Rep.mono (h:=(Rep.carry X2.out (Fr.r.set (.inl (by omega))))) (hZ:=fun g _ hg=>by omega)) (by exact Rep.mono (h:=(Rep.carry X0.out (Fr.r.set (.inl (by omega))))) (hZ:=fun g _ hg=>by omega)),by exact(Blk.far B1.out (by omega)),by exact B3.out.s10⟩
   cases q2:((hd ts').text.toList == [45])
   case true =>
    have E2:=hqZ (show aS cG A ts=(A (adv ts')).bind fun y ts1=>ai (aE cG A) n (.opn 18 [x',y]) ts1 from by
     rw[<- E1.out];simp only[ai,aE,cG,Tok.is,q1,q2,if_true,Bool.false_eq_true,if_false,Option.isSome,Option.getD];cases A (adv ts') <;> rfl)
    (go_wp2_with fail;refine(ag _ pb tb ts' ?_).mono ?_;(all_goals try exact PSt.over (w0:=w) P0.out (Fr.r.alloc _) ltp ltt);rintro e v2 ⟨⟨o2,l2,c2,rfl⟩,hp,hf⟩;(have xs5:=Fr.size hf;simp only[aa,ae,ad,af]at xs5;have T1:=hqZ (Fr.trans (T0.out.alloc _) hf);clear T0;clear P0;have B2:=hqZ (Blk.next (B0.out.alloc _) hf (by show ¬ _;omega));clear B0;obtain⟨xk0,xl5⟩:=Blk.k1 B2.out;have B0:=hqZ (Blk.next (B1.out.alloc _) hf (by show ¬ _;omega));clear B1;obtain⟨xk1,xl6⟩:=Blk.k1 B0.out;have B1:=hqZ (Blk.next (Blk.at_ _ _ _ (n:=v1.heap.size) rfl) hf (by show ¬ _;omega));obtain⟨xk4,xl7⟩:=Blk.k6 B1.out;have X1:=hqZ (Rep.carry X0.out (Fr.trans' (Fr.r.alloc _) hf (fun k _ hs=>by omega)));clear X0;have P0:=hqZ hp;clear hp;clear hf;clear xk2 xk3))
    cases hs:A (adv ts')with
    | out=>exact absurd (by rw[E2.out,hs];rfl) HN.out
    | bad =>
     (go_wp2_with fail;refine(HA.out.bad (tb:=tb) ?_ hs).mono ?_;(all_goals try exact P0.out);rintro e v3 ⟨t,u,rfl,hf⟩;(have xs7:=Fr.size hf;have T0:=hqZ (Fr.trans T1.out hf);clear T1;clear P0;have B3:=hqZ (Blk.next B2.out hf (by show ¬ _;omega));clear B2;obtain⟨xk2,xl8⟩:=Blk.k1 B3.out;have B2:=hqZ (Blk.next B0.out hf (by show ¬ _;omega));clear B0;obtain⟨xk3,xl9⟩:=Blk.k1 B2.out;have B0:=hqZ (Blk.next B1.out hf (by show ¬ _;omega));clear B1;obtain⟨xk10,xl10⟩:=Blk.k6 B0.out;have X0:=hqZ (Rep.carry X1.out (Fr.trans' Fr.r hf (fun k _ hs=>by omega)));clear X1;clear hf;clear xk0 xk1 xk4))
     go_wp2
     refine bodyPost_ret (v:=(.tuple #[.agg #[.nilIface],.iface t u])) (by simp only[results,Tryz.results184];go_simp) rfl ?_
     rw[E2.out,hs]
     exact⟨t,u,rfl,by exact((T0.out.set (.inr (Nat.le_refl _))).alloc _)⟩
    | ok y ts2 =>
     have E3:=hqZ (show ai (aE cG A) n (.opn 18 [x',y]) ts2=aS cG A ts from by rw[E2.out,hs];rfl)
     (go_wp2_with fail;refine(HA.out.ok (tb:=tb) ?_ hs).mono ?_;(all_goals try exact P0.out);rintro e v3 ⟨t2,u2,rfl,hy,hp,hf⟩;(have xs7:=Fr.size hf;have T0:=hqZ (Fr.trans T1.out hf);clear T1;clear P0;have B3:=hqZ (Blk.next B2.out hf (by show ¬ _;omega));clear B2;obtain⟨xk2,xl8⟩:=Blk.k1 B3.out;have B2:=hqZ (Blk.next B0.out hf (by show ¬ _;omega));clear B0;obtain⟨xk3,xl9⟩:=Blk.k1 B2.out;have B0:=hqZ (Blk.next B1.out hf (by show ¬ _;omega));clear B1;obtain⟨xk10,xl10⟩:=Blk.k6 B0.out;have X0:=hqZ (Rep.carry X1.out (Fr.trans' Fr.r hf (fun k _ hs=>by omega)));clear X1;have X1:=hqZ (Rep.mono (Z':=fun g=>v2.heap.size<=g/\g < v3.heap.size) (hZ:=fun g h1 h2=>⟨h2,h1⟩) (h:=hy));clear hy;have P0:=hqZ hp;clear hp;clear hf;clear xk0 xk1 xk4))
     (go_wp2_with fail;refine(iy _ _ _ _ _).mono ?_;rintro e v4 ⟨rfl,hf⟩;(have xs9:=Fr.size hf;simp only[aa,ae,ad,af]at xs9;have T1:=hqZ (Fr.transN (T0.out.alloc _) hf);clear T0;have P1:=hqZ (PSt.new (PSt.over (w0:=w) P0.out (Fr.r.alloc _) ltp ltt) hf);clear P0;have B1:=hqZ (Blk.next (B3.out.alloc _) hf id);clear B3;obtain⟨xk0,xl11⟩:=Blk.k1 B1.out;have B3:=hqZ (Blk.next (B2.out.alloc _) hf id);clear B2;obtain⟨xk1,xl12⟩:=Blk.k1 B3.out;have B2:=hqZ (Blk.next (B0.out.alloc _) hf id);clear B0;obtain⟨xk4,xl13⟩:=Blk.k6 B2.out;have B0:=hqZ (Blk.next (Blk.at_ _ _ _ (n:=v3.heap.size) rfl) hf id);obtain⟨xk16,xl14⟩:=Blk.k1 B0.out;have X2:=hqZ (Rep.carry X0.out (Fr.transN (Fr.r.alloc _) hf));clear X0;have X0:=hqZ (Rep.carry X1.out (Fr.transN (Fr.r.alloc _) hf));clear X1;clear hf;clear xk2 xk3 xk10))
     go_wp2
     go_roundg n
     case measure=>omega
     case rel =>
      exact⟨_,_,_,_,E3.out,by exact PSt.over (w0:=w) P1.out (Fr.r.set (.inl (by omega))) ltp ltt,by exact(T1.out.set (.inr (by omega))),.bin 18 _ _ _ _ _ rfl (by exact Rep.mono (h:=(Rep.carry X2.out (Fr.r.set (.inl (by omega))))) (hZ:=fun g _ hg=>by omega)) (by exact Rep.mono (h:=(Rep.carry X0.out (Fr.r.set (.inl (by omega))))) (hZ:=fun g _ hg=>by omega)),by exact(Blk.far B1.out (by omega)),by exact B3.out.s10⟩
   have ER:=hqZ (show aS cG A ts = .ok x' ts' from by rw[<- E1.out];simp[ai,aE,cG,Tok.is,q1,q2,PR.bind])
   go_wp2
   refine bodyPost_ret (v:=(.tuple #[.agg #[.iface t' u'],.nilIface])) (by simp only[results,Tryz.results184];go_simp) rfl ?_
   rw[ER.out]
   exact⟨t',u',rfl,by exact Rep.mono (h:=(Rep.carry X0.out ((Fr.r.set (.inl (by omega))).alloc _))) (hZ:=fun g _ hg=>by omega),by exact PSt.over (w0:=w) P0.out ((Fr.r.set (.inl (by omega))).alloc _) ltp ltt,by exact((T0.out.set (.inr (Nat.le_refl _))).alloc _)⟩
theorem or_does(A:List Tok->PR Ex)(hA:Does 168 A):Does 153 (aS orOp A):=by
 intro w pb tb ts h hne
 have hft:=aq
 have H:=hqZ h
 have HA:=hqZ hA
 have lt0:=h.lt
 have ltt:=h.lt2
 have ne1:w.heap.size ≠ pb:=by omega
 have HN:=hqZ hne
 clear h hA hne
 cases hr:A ts with
 | out=>exact absurd (by simp[aS,hr,PR.bind]) HN.out
 | bad =>
  have e:aS orOp A ts = .bad:=by simp[aS,hr,PR.bind]
  rw[e]
  have HR:=hqZ hr
  clear e hr
  go_enter Tryz.func153,Tryz.ntmps153
  go_wp2_with fail
  refine(HA.out.bad (H.out.new ?_) HR.out).mono ?_
  .repeat' (with_reducible(first|exact Fr.refl _ _|apply Fr.drew|apply Fr.alloc))
  rintro e w1 ⟨t,u,rfl,hf⟩
  have B0:=hqZ ((Box.new w _ _).next hf ne1)
  have T:=hqZ ((Fr.r.alloc _).trans hf)
  have c0:=B0.out.cell
  have f0:=B0.out.free
  have l0:=B0.out.lt
  clear hf
  go_wp2
  refine bodyPost_ret (v:=.tuple #[.agg #[.nilIface],.iface t u]) (by simp only[results,Tryz.results153];go_simp) rfl ⟨t,u,rfl,?_⟩
  repeat' (with_reducible(first|exact T.out|apply Fr.drew|apply Fr.alloc|apply Fr.set))
  all_goals exact .inr (Nat.le_refl _)
 | ok x ts1 =>
  go_enter Tryz.func153,Tryz.ntmps153
  go_wp2_with fail
  refine(HA.out.ok (H.out.new ?_) hr).mono ?_
  .repeat' (with_reducible(first|exact Fr.refl _ _|apply Fr.drew|apply Fr.alloc))
  rintro e w1 ⟨t,u,rfl,hx,hp,hf⟩
  have X0:=hqZ (hx.mono (Z':=fun g=>w.heap.size < g/\g ≠ w1.heap.size) (fun g h1 h2=>by simp at h2;omega))
  have P0:=hqZ hp
  have B0:=hqZ ((Box.new w _ _).next hf ne1)
  have T:=hqZ ((Fr.r.alloc _).trans hf)
  have HR:=hqZ hr
  have l0:=B0.out.lt
  have ne2:w1.heap.size ≠ pb:=by have:=P0.out.lt;omega
  clear hf hx hp hr
  go_wp2_with fail
  go_loopg [] (ts1.length+1) (fun k wr=>∃ (x':Ex) (ts':List Tok) (t':TypeId) (u':Value),ai (aE orOp A) k x' ts'=aS orOp A ts/\Rep wr (fun g=>w.heap.size < g/\g ≠ w1.heap.size) x' (.iface t' u')/\PSt wr pb tb ts'/\Fr (· = pb) w wr /\
   Box wr w1.heap.size 246 (.iface t' u')/\Box wr w.heap.size 246 .nilIface)
  case atStart =>
   refine⟨x,ts1,t,u,?_,?_,?_,?_,Box.new _ _ _,B0.out.alloc _⟩
   .rw[show aS orOp A ts=aj (aE orOp A) x ts1 from by simp[aS,HR.out,PR.bind]];rfl
   .exact X0.out.frame ((Fr.refl (fun _=>False) _).alloc _) (fun _ _ _ h=>h)
   .exact P0.out.new (Fr.r.alloc _)
   .exact T.out.alloc _
  case round =>
   obtain⟨x',ts',t',u',e1,hx,hp,hf,hb1,hb2⟩:=hrel
   have X1:=hqZ hx
   have P1:=hqZ hp
   have F1:=hqZ hf
   have E1:=hqZ e1
   have B1:=hqZ hb1
   have B2:=hqZ hb2
   clear hx hp hf e1 hb1 hb2
   obtain⟨n,rfl⟩:∃ n,gk=n+1:=by
    cases gk with
    | zero=>exact absurd E1.out.symm HN.out
    | succ n=>exact⟨n,rfl⟩
   cases hq:((hd ts').text.toList == [124,124])
   .have er:aS orOp A ts = .ok x' ts':=by
     rw[<- E1.out]
     have hn:(orOp (hd ts')).isSome=false:=by simp[orOp,Tok.is,hq]
     simp[ai,aE,hn,PR.bind]
    have ER:=hqZ er
    clear er
    go_wp2_with fail
    refine(ay _ pb tb ts' P1.out).mono ?_
    rintro e wa ⟨⟨o,l,c,rfl⟩,hfa⟩
    have FA:=hqZ (Fr.ofNew (S:=(· = pb)) hfa)
    have FN:=hqZ hfa
    have B1a:=hqZ (B1.out.next FA.out ne2)
    have B2a:=hqZ (B2.out.next FA.out ne1)
    have c1:=B1a.out.cell
    have c2:=B2a.out.cell
    have f2:=B2a.out.free
    have l1:=B1a.out.lt
    have l2:=B2a.out.lt
    clear hfa
    go_wp2
    refine bodyPost_ret (v:=.tuple #[.agg #[.iface t' u'],.nilIface]) (by simp only[results,Tryz.results153];go_simp) rfl ?_
    rw[ER.out]
    have F2:Fr (· = pb) w (wa.setCell ⟨w.heap.size,0,none⟩ (.iface t' u')):=(F1.out.trans FA.out).set (.inr (Nat.le_refl _))
    have F3:Fr (· = w.heap.size) wr (wa.setCell ⟨w.heap.size,0,none⟩ (.iface t' u')):=FN.out.ofNew.set (.inl rfl)
    refine⟨t',u',rfl,(X1.out.frame F3 ?_).mono ?_,P1.out.frame F3 ?_ ?_,F2⟩
    .intro g hg _ hn;omega
    .intro g _ hg;omega
    .omega
    .omega
   .have er:ai (aE orOp A) (n+1) x' ts'=(A (adv ts')).bind fun y ts1=>ai (aE orOp A) n (.opn 4 [x',y]) ts1:=by
     have hn:orOp (hd ts')=some 4:=by simp[orOp,Tok.is,hq]
     simp only[ai,aE,hn]
     cases A (adv ts') <;> rfl
    have ER:=hqZ (er.symm.trans E1.out)
    clear er
    go_wp2_with fail
    refine(ay _ pb tb ts' P1.out).mono ?_
    rintro e wa ⟨⟨o,l,c,rfl⟩,hfa⟩
    have FA:=hqZ (Fr.ofNew (S:=(· = pb)) hfa)
    have PA:=hqZ (P1.out.new hfa)
    clear hfa
    go_wp2_with fail
    refine(ag _ pb tb ts' PA.out).mono ?_
    rintro e wb ⟨⟨o2,l2,c2,rfl⟩,hpb2,hfb⟩
    have FB:=hqZ (FA.out.trans hfb)
    have PB:=hqZ hpb2
    have lb1:=(B1.out.next FB.out ne2).lt
    have lb2:=(B2.out.next FB.out ne1).lt
    clear hfb hpb2
    cases hra:A (adv ts')with
    | out=>exact absurd (by rw[<- ER.out,hra];rfl) HN.out
    | bad =>
     have er:aS orOp A ts = .bad:=by rw[<- ER.out,hra];rfl
     have RA:=hqZ hra
     have ER2:=hqZ er
     clear hra er
     go_wp2_with fail
     refine(HA.out.bad PB.out RA.out).mono ?_
     rintro e wc ⟨t2,u2,rfl,hf2⟩
     have FC:=hqZ (FB.out.trans hf2)
     have B2c:=hqZ (B2.out.next FC.out ne1)
     have c2:=B2c.out.cell
     have f2:=B2c.out.free
     have l2:=B2c.out.lt
     clear hf2
     go_wp2
     refine bodyPost_ret (v:=.tuple #[.agg #[.nilIface],.iface t2 u2]) (by simp only[results,Tryz.results153];go_simp) rfl ?_
     rw[ER2.out]
     refine⟨t2,u2,rfl,?_⟩
     have FT:=F1.out.trans FC.out
     repeat' (with_reducible(first|exact FT|apply Fr.drew|apply Fr.alloc|apply Fr.set))
     all_goals exact .inr (Nat.le_refl _)
    | ok y ts2 =>
     have ER2:=hqZ (show ai (aE orOp A) n (.opn 4 [x',y]) ts2=aS orOp A ts from by rw[<- ER.out,hra];rfl)
     have RA:=hqZ hra
     clear hra
     go_wp2_with fail
     refine(HA.out.ok PB.out RA.out).mono ?_
     rintro e wc ⟨t2,u2,rfl,hx2,hp2,hf2⟩
     have XC:=hqZ hx2
     have PC:=hqZ hp2
     have FC:=hqZ (FB.out.trans hf2)
     have B1c:=hqZ (B1.out.next FC.out ne2)
     have B2c:=hqZ (B2.out.next FC.out ne1)
     have c1:=B1c.out.cell
     have f1:=B1c.out.free
     have l1:=B1c.out.lt
     clear hf2 hx2 hp2
     go_wp2_with fail
     refine(qQ _ _ _ _ _).mono ?_
     rintro e wd ⟨rfl,hfd⟩
     have FN:=hqZ hfd
     have FD:=hqZ (FC.out.trans (Fr.trans (by repeat' (with_reducible(first|exact Fr.refl _ _|apply Fr.drew|apply Fr.alloc))) hfd.ofNew))
     have B1d:=hqZ (B1.out.next FD.out ne2)
     have B2d:=hqZ (B2.out.next FD.out ne1)
     have d1:=B1d.out.cell
     have g1:=B1d.out.free
     have l3:=B1d.out.lt
     clear hfd c1 f1
     go_wp2
     have FW:Fr (· = w1.heap.size) wd (wd.setCell ⟨w1.heap.size,0,none⟩ (.iface 258 (.agg #[.iface t' u',.iface t2 u2]))):=Fr.r.set (.inl rfl)
     have XD:Rep wd (fun g=>w.heap.size < g/\g ≠ w1.heap.size) x' (.iface t' u'):=X1.out.frame FD.out (fun g hg _ e=>by omega)
     have YD:Rep wd (fun g=>w.heap.size < g/\g ≠ w1.heap.size) y (.iface t2 u2) :=
      (XC.out.mono (Z':=fun g=>w.heap.size < g/\g ≠ w1.heap.size) (fun g _ hg=>by omega)).frame ((Fr.trans (by repeat' (with_reducible(first|exact Fr.refl _ _|apply Fr.drew|apply Fr.alloc))) FN.out:New wc wd)) (fun _ _ _ h=>h)
     have PD:PSt wd pb tb ts2:=PC.out.new (Fr.trans (by repeat' (with_reducible(first|exact Fr.refl _ _|apply Fr.drew|apply Fr.alloc))) FN.out)
     go_roundg n
     case measure=>omega
     case rel =>
      refine⟨_,ts2,_,_,ER2.out,?_,PD.frame FW ?_ ?_,?_,B1d.out.set _,B2d.out.far ?_⟩
      .exact(Rep.bin 4 _ _ _ _ _ rfl XD YD).frame FW (fun g hg _ e=>hg.2 e)
      .omega
      .omega
      .exact(F1.out.trans FD.out).set (.inr (by omega))
      .omega
theorem rW(A:List Tok->PR Ex)(hA:Does 178 A):Does 168 (aS cQ A):=by
 intro w pb tb ts h hne
 have hft:=aq
 have H:=hqZ h
 have HA:=hqZ hA
 have lt0:=h.lt
 have ltt:=h.lt2
 have ne1:w.heap.size ≠ pb:=by omega
 have HN:=hqZ hne
 clear h hA hne
 cases hr:A ts with
 | out=>exact absurd (by simp[aS,hr,PR.bind]) HN.out
 | bad =>
  have e:aS cQ A ts = .bad:=by simp[aS,hr,PR.bind]
  rw[e]
  have HR:=hqZ hr
  clear e hr
  go_enter Tryz.func168,Tryz.ntmps168
  go_wp2_with fail
  refine(HA.out.bad (H.out.new ?_) HR.out).mono ?_
  .repeat' (with_reducible(first|exact Fr.refl _ _|apply Fr.drew|apply Fr.alloc))
  rintro e w1 ⟨t,u,rfl,hf⟩
  have B0:=hqZ ((Box.new w _ _).next hf ne1)
  have T:=hqZ ((Fr.r.alloc _).trans hf)
  have c0:=B0.out.cell
  have f0:=B0.out.free
  have l0:=B0.out.lt
  clear hf
  go_wp2
  refine bodyPost_ret (v:=.tuple #[.agg #[.nilIface],.iface t u]) (by simp only[results,Tryz.results168];go_simp) rfl ⟨t,u,rfl,?_⟩
  repeat' (with_reducible(first|exact T.out|apply Fr.drew|apply Fr.alloc|apply Fr.set))
  all_goals exact .inr (Nat.le_refl _)
 | ok x ts1 =>
  go_enter Tryz.func168,Tryz.ntmps168
  go_wp2_with fail
  refine(HA.out.ok (H.out.new ?_) hr).mono ?_
  .repeat' (with_reducible(first|exact Fr.refl _ _|apply Fr.drew|apply Fr.alloc))
  rintro e w1 ⟨t,u,rfl,hx,hp,hf⟩
  have X0:=hqZ (hx.mono (Z':=fun g=>w.heap.size < g/\g ≠ w1.heap.size) (fun g h1 h2=>by simp at h2;omega))
  have P0:=hqZ hp
  have B0:=hqZ ((Box.new w _ _).next hf ne1)
  have T:=hqZ ((Fr.r.alloc _).trans hf)
  have HR:=hqZ hr
  have l0:=B0.out.lt
  have ne2:w1.heap.size ≠ pb:=by have:=P0.out.lt;omega
  clear hf hx hp hr
  go_wp2_with fail
  go_loopg [] (ts1.length+1) (fun k wr=>∃ (x':Ex) (ts':List Tok) (t':TypeId) (u':Value),ai (aE cQ A) k x' ts'=aS cQ A ts/\Rep wr (fun g=>w.heap.size < g/\g ≠ w1.heap.size) x' (.iface t' u')/\PSt wr pb tb ts'/\Fr (· = pb) w wr /\
   Box wr w1.heap.size 246 (.iface t' u')/\Box wr w.heap.size 246 .nilIface)
  case atStart =>
   refine⟨x,ts1,t,u,?_,?_,?_,?_,Box.new _ _ _,B0.out.alloc _⟩
   .rw[show aS cQ A ts=aj (aE cQ A) x ts1 from by simp[aS,HR.out,PR.bind]];rfl
   .exact X0.out.frame ((Fr.refl (fun _=>False) _).alloc _) (fun _ _ _ h=>h)
   .exact P0.out.new (Fr.r.alloc _)
   .exact T.out.alloc _
  case round =>
   obtain⟨x',ts',t',u',e1,hx,hp,hf,hb1,hb2⟩:=hrel
   have X1:=hqZ hx
   have P1:=hqZ hp
   have F1:=hqZ hf
   have E1:=hqZ e1
   have B1:=hqZ hb1
   have B2:=hqZ hb2
   clear hx hp hf e1 hb1 hb2
   obtain⟨n,rfl⟩:∃ n,gk=n+1:=by
    cases gk with
    | zero=>exact absurd E1.out.symm HN.out
    | succ n=>exact⟨n,rfl⟩
   cases hq:((hd ts').text.toList == [38,38])
   .have er:aS cQ A ts = .ok x' ts':=by
     rw[<- E1.out]
     have hn:(cQ (hd ts')).isSome=false:=by simp[cQ,Tok.is,hq]
     simp[ai,aE,hn,PR.bind]
    have ER:=hqZ er
    clear er
    go_wp2_with fail
    refine(ay _ pb tb ts' P1.out).mono ?_
    rintro e wa ⟨⟨o,l,c,rfl⟩,hfa⟩
    have FA:=hqZ (Fr.ofNew (S:=(· = pb)) hfa)
    have FN:=hqZ hfa
    have B1a:=hqZ (B1.out.next FA.out ne2)
    have B2a:=hqZ (B2.out.next FA.out ne1)
    have c1:=B1a.out.cell
    have c2:=B2a.out.cell
    have f2:=B2a.out.free
    have l1:=B1a.out.lt
    have l2:=B2a.out.lt
    clear hfa
    go_wp2
    refine bodyPost_ret (v:=.tuple #[.agg #[.iface t' u'],.nilIface]) (by simp only[results,Tryz.results168];go_simp) rfl ?_
    rw[ER.out]
    have F2:Fr (· = pb) w (wa.setCell ⟨w.heap.size,0,none⟩ (.iface t' u')):=(F1.out.trans FA.out).set (.inr (Nat.le_refl _))
    have F3:Fr (· = w.heap.size) wr (wa.setCell ⟨w.heap.size,0,none⟩ (.iface t' u')):=FN.out.ofNew.set (.inl rfl)
    refine⟨t',u',rfl,(X1.out.frame F3 ?_).mono ?_,P1.out.frame F3 ?_ ?_,F2⟩
    .intro g hg _ hn;omega
    .intro g _ hg;omega
    .omega
    .omega
   .have er:ai (aE cQ A) (n+1) x' ts'=(A (adv ts')).bind fun y ts1=>ai (aE cQ A) n (.opn 5 [x',y]) ts1:=by
     have hn:cQ (hd ts')=some 5:=by simp[cQ,Tok.is,hq]
     simp only[ai,aE,hn]
     cases A (adv ts') <;> rfl
    have ER:=hqZ (er.symm.trans E1.out)
    clear er
    go_wp2_with fail
    refine(ay _ pb tb ts' P1.out).mono ?_
    rintro e wa ⟨⟨o,l,c,rfl⟩,hfa⟩
    have FA:=hqZ (Fr.ofNew (S:=(· = pb)) hfa)
    have PA:=hqZ (P1.out.new hfa)
    clear hfa
    go_wp2_with fail
    refine(ag _ pb tb ts' PA.out).mono ?_
    rintro e wb ⟨⟨o2,l2,c2,rfl⟩,hpb2,hfb⟩
    have FB:=hqZ (FA.out.trans hfb)
    have PB:=hqZ hpb2
    have lb1:=(B1.out.next FB.out ne2).lt
    have lb2:=(B2.out.next FB.out ne1).lt
    clear hfb hpb2
    cases hra:A (adv ts')with
    | out=>exact absurd (by rw[<- ER.out,hra];rfl) HN.out
    | bad =>
     have er:aS cQ A ts = .bad:=by rw[<- ER.out,hra];rfl
     have RA:=hqZ hra
     have ER2:=hqZ er
     clear hra er
     go_wp2_with fail
     refine(HA.out.bad PB.out RA.out).mono ?_
     rintro e wc ⟨t2,u2,rfl,hf2⟩
     have FC:=hqZ (FB.out.trans hf2)
     have B2c:=hqZ (B2.out.next FC.out ne1)
     have c2:=B2c.out.cell
     have f2:=B2c.out.free
     have l2:=B2c.out.lt
     clear hf2
     go_wp2
     refine bodyPost_ret (v:=.tuple #[.agg #[.nilIface],.iface t2 u2]) (by simp only[results,Tryz.results168];go_simp) rfl ?_
     rw[ER2.out]
     refine⟨t2,u2,rfl,?_⟩
     have FT:=F1.out.trans FC.out
     repeat' (with_reducible(first|exact FT|apply Fr.drew|apply Fr.alloc|apply Fr.set))
     all_goals exact .inr (Nat.le_refl _)
    | ok y ts2 =>
     have ER2:=hqZ (show ai (aE cQ A) n (.opn 5 [x',y]) ts2=aS cQ A ts from by rw[<- ER.out,hra];rfl)
     have RA:=hqZ hra
     clear hra
     go_wp2_with fail
     refine(HA.out.ok PB.out RA.out).mono ?_
     rintro e wc ⟨t2,u2,rfl,hx2,hp2,hf2⟩
     have XC:=hqZ hx2
     have PC:=hqZ hp2
     have FC:=hqZ (FB.out.trans hf2)
     have B1c:=hqZ (B1.out.next FC.out ne2)
     have B2c:=hqZ (B2.out.next FC.out ne1)
     have c1:=B1c.out.cell
     have f1:=B1c.out.free
     have l1:=B1c.out.lt
     clear hf2 hx2 hp2
     go_wp2_with fail
     refine(jM _ _ _ _ _).mono ?_
     rintro e wd ⟨rfl,hfd⟩
     have FN:=hqZ hfd
     have FD:=hqZ (FC.out.trans (Fr.trans (by repeat' (with_reducible(first|exact Fr.refl _ _|apply Fr.drew|apply Fr.alloc))) hfd.ofNew))
     have B1d:=hqZ (B1.out.next FD.out ne2)
     have B2d:=hqZ (B2.out.next FD.out ne1)
     have d1:=B1d.out.cell
     have g1:=B1d.out.free
     have l3:=B1d.out.lt
     clear hfd c1 f1
     go_wp2
     have FW:Fr (· = w1.heap.size) wd (wd.setCell ⟨w1.heap.size,0,none⟩ (.iface 260 (.agg #[.iface t' u',.iface t2 u2]))):=Fr.r.set (.inl rfl)
     have XD:Rep wd (fun g=>w.heap.size < g/\g ≠ w1.heap.size) x' (.iface t' u'):=X1.out.frame FD.out (fun g hg _ e=>by omega)
     have YD:Rep wd (fun g=>w.heap.size < g/\g ≠ w1.heap.size) y (.iface t2 u2) :=
      (XC.out.mono (Z':=fun g=>w.heap.size < g/\g ≠ w1.heap.size) (fun g _ hg=>by omega)).frame ((Fr.trans (by repeat' (with_reducible(first|exact Fr.refl _ _|apply Fr.drew|apply Fr.alloc))) FN.out:New wc wd)) (fun _ _ _ h=>h)
     have PD:PSt wd pb tb ts2:=PC.out.new (Fr.trans (by repeat' (with_reducible(first|exact Fr.refl _ _|apply Fr.drew|apply Fr.alloc))) FN.out)
     go_roundg n
     case measure=>omega
     case rel =>
      refine⟨_,ts2,_,_,ER2.out,?_,PD.frame FW ?_ ?_,?_,B1d.out.set _,B2d.out.far ?_⟩
      .exact(Rep.bin 5 _ _ _ _ _ rfl XD YD).frame FW (fun g hg _ e=>hg.2 e)
      .omega
      .omega
      .exact(F1.out.trans FD.out).set (.inr (by omega))
      .omega
theorem pV(A:List Tok->PR Ex)(hA:Does 204 A):Does 195 (aS cN A):=by
 intro w pb tb ts h hne
 have hft:=aq
 have H:=hqZ h
 have HA:=hqZ hA
 have lt0:=h.lt
 have ltt:=h.lt2
 have ne1:w.heap.size ≠ pb:=by omega
 have HN:=hqZ hne
 clear h hA hne
 cases hr:A ts with
 | out=>exact absurd (by simp[aS,hr,PR.bind]) HN.out
 | bad =>
  have e:aS cN A ts = .bad:=by simp[aS,hr,PR.bind]
  rw[e]
  have HR:=hqZ hr
  clear e hr
  go_enter Tryz.func195,Tryz.ntmps195
  go_wp2_with fail
  refine(HA.out.bad (H.out.new ?_) HR.out).mono ?_
  .repeat' (with_reducible(first|exact Fr.refl _ _|apply Fr.drew|apply Fr.alloc))
  rintro e w1 ⟨t,u,rfl,hf⟩
  have B0:=hqZ ((Box.new w _ _).next hf ne1)
  have T:=hqZ ((Fr.r.alloc _).trans hf)
  have c0:=B0.out.cell
  have f0:=B0.out.free
  have l0:=B0.out.lt
  clear hf
  go_wp2
  refine bodyPost_ret (v:=.tuple #[.agg #[.nilIface],.iface t u]) (by simp only[results,Tryz.results195];go_simp) rfl ⟨t,u,rfl,?_⟩
  repeat' (with_reducible(first|exact T.out|apply Fr.drew|apply Fr.alloc|apply Fr.set))
  all_goals exact .inr (Nat.le_refl _)
 | ok x ts1 =>
  go_enter Tryz.func195,Tryz.ntmps195
  go_wp2_with fail
  refine(HA.out.ok (H.out.new ?_) hr).mono ?_
  .repeat' (with_reducible(first|exact Fr.refl _ _|apply Fr.drew|apply Fr.alloc))
  rintro e w1 ⟨t,u,rfl,hx,hp,hf⟩
  have X0:=hqZ (hx.mono (Z':=fun g=>w.heap.size < g/\g ≠ w1.heap.size) (fun g h1 h2=>by simp at h2;omega))
  have P0:=hqZ hp
  have B0:=hqZ ((Box.new w _ _).next hf ne1)
  have T:=hqZ ((Fr.r.alloc _).trans hf)
  have HR:=hqZ hr
  have l0:=B0.out.lt
  have ne2:w1.heap.size ≠ pb:=by have:=P0.out.lt;omega
  clear hf hx hp hr
  go_wp2_with fail
  go_loopg [] (ts1.length+1) (fun k wr=>∃ (x':Ex) (ts':List Tok) (t':TypeId) (u':Value),ai (aE cN A) k x' ts'=aS cN A ts/\Rep wr (fun g=>w.heap.size < g/\g ≠ w1.heap.size) x' (.iface t' u')/\PSt wr pb tb ts'/\Fr (· = pb) w wr /\
   Box wr w1.heap.size 246 (.iface t' u')/\Box wr w.heap.size 246 .nilIface)
  case atStart =>
   refine⟨x,ts1,t,u,?_,?_,?_,?_,Box.new _ _ _,B0.out.alloc _⟩
   .rw[show aS cN A ts=aj (aE cN A) x ts1 from by simp[aS,HR.out,PR.bind]];rfl
   .exact X0.out.frame ((Fr.refl (fun _=>False) _).alloc _) (fun _ _ _ h=>h)
   .exact P0.out.new (Fr.r.alloc _)
   .exact T.out.alloc _
  case round =>
   obtain⟨x',ts',t',u',e1,hx,hp,hf,hb1,hb2⟩:=hrel
   have X1:=hqZ hx
   have P1:=hqZ hp
   have F1:=hqZ hf
   have E1:=hqZ e1
   have B1:=hqZ hb1
   have B2:=hqZ hb2
   clear hx hp hf e1 hb1 hb2
   obtain⟨n,rfl⟩:∃ n,gk=n+1:=by
    cases gk with
    | zero=>exact absurd E1.out.symm HN.out
    | succ n=>exact⟨n,rfl⟩
   cases hq:((hd ts').text.toList == [42])
   .have er:aS cN A ts = .ok x' ts':=by
     rw[<- E1.out]
     have hn:(cN (hd ts')).isSome=false:=by simp[cN,Tok.is,hq]
     simp[ai,aE,hn,PR.bind]
    have ER:=hqZ er
    clear er
    go_wp2_with fail
    refine(ay _ pb tb ts' P1.out).mono ?_
    rintro e wa ⟨⟨o,l,c,rfl⟩,hfa⟩
    have FA:=hqZ (Fr.ofNew (S:=(· = pb)) hfa)
    have FN:=hqZ hfa
    have B1a:=hqZ (B1.out.next FA.out ne2)
    have B2a:=hqZ (B2.out.next FA.out ne1)
    have c1:=B1a.out.cell
    have c2:=B2a.out.cell
    have f2:=B2a.out.free
    have l1:=B1a.out.lt
    have l2:=B2a.out.lt
    clear hfa
    go_wp2
    refine bodyPost_ret (v:=.tuple #[.agg #[.iface t' u'],.nilIface]) (by simp only[results,Tryz.results195];go_simp) rfl ?_
    rw[ER.out]
    have F2:Fr (· = pb) w (wa.setCell ⟨w.heap.size,0,none⟩ (.iface t' u')):=(F1.out.trans FA.out).set (.inr (Nat.le_refl _))
    have F3:Fr (· = w.heap.size) wr (wa.setCell ⟨w.heap.size,0,none⟩ (.iface t' u')):=FN.out.ofNew.set (.inl rfl)
    refine⟨t',u',rfl,(X1.out.frame F3 ?_).mono ?_,P1.out.frame F3 ?_ ?_,F2⟩
    .intro g hg _ hn;omega
    .intro g _ hg;omega
    .omega
    .omega
   .have er:ai (aE cN A) (n+1) x' ts'=(A (adv ts')).bind fun y ts1=>ai (aE cN A) n (.opn 20 [x',y]) ts1:=by
     have hn:cN (hd ts')=some 20:=by simp[cN,Tok.is,hq]
     simp only[ai,aE,hn]
     cases A (adv ts') <;> rfl
    have ER:=hqZ (er.symm.trans E1.out)
    clear er
    go_wp2_with fail
    refine(ay _ pb tb ts' P1.out).mono ?_
    rintro e wa ⟨⟨o,l,c,rfl⟩,hfa⟩
    have FA:=hqZ (Fr.ofNew (S:=(· = pb)) hfa)
    have PA:=hqZ (P1.out.new hfa)
    clear hfa
    go_wp2_with fail
    refine(ag _ pb tb ts' PA.out).mono ?_
    rintro e wb ⟨⟨o2,l2,c2,rfl⟩,hpb2,hfb⟩
    have FB:=hqZ (FA.out.trans hfb)
    have PB:=hqZ hpb2
    have lb1:=(B1.out.next FB.out ne2).lt
    have lb2:=(B2.out.next FB.out ne1).lt
    clear hfb hpb2
    cases hra:A (adv ts')with
    | out=>exact absurd (by rw[<- ER.out,hra];rfl) HN.out
    | bad =>
     have er:aS cN A ts = .bad:=by rw[<- ER.out,hra];rfl
     have RA:=hqZ hra
     have ER2:=hqZ er
     clear hra er
     go_wp2_with fail
     refine(HA.out.bad PB.out RA.out).mono ?_
     rintro e wc ⟨t2,u2,rfl,hf2⟩
     have FC:=hqZ (FB.out.trans hf2)
     have B2c:=hqZ (B2.out.next FC.out ne1)
     have c2:=B2c.out.cell
     have f2:=B2c.out.free
     have l2:=B2c.out.lt
     clear hf2
     go_wp2
     refine bodyPost_ret (v:=.tuple #[.agg #[.nilIface],.iface t2 u2]) (by simp only[results,Tryz.results195];go_simp) rfl ?_
     rw[ER2.out]
     refine⟨t2,u2,rfl,?_⟩
     have FT:=F1.out.trans FC.out
     repeat' (with_reducible(first|exact FT|apply Fr.drew|apply Fr.alloc|apply Fr.set))
     all_goals exact .inr (Nat.le_refl _)
    | ok y ts2 =>
     have ER2:=hqZ (show ai (aE cN A) n (.opn 20 [x',y]) ts2=aS cN A ts from by rw[<- ER.out,hra];rfl)
     have RA:=hqZ hra
     clear hra
     go_wp2_with fail
     refine(HA.out.ok PB.out RA.out).mono ?_
     rintro e wc ⟨t2,u2,rfl,hx2,hp2,hf2⟩
     have XC:=hqZ hx2
     have PC:=hqZ hp2
     have FC:=hqZ (FB.out.trans hf2)
     have B1c:=hqZ (B1.out.next FC.out ne2)
     have B2c:=hqZ (B2.out.next FC.out ne1)
     have c1:=B1c.out.cell
     have f1:=B1c.out.free
     have l1:=B1c.out.lt
     clear hf2 hx2 hp2
     go_wp2_with fail
     refine(iB _ _ _ _ _).mono ?_
     rintro e wd ⟨rfl,hfd⟩
     have FN:=hqZ hfd
     have FD:=hqZ (FC.out.trans (Fr.trans (by repeat' (with_reducible(first|exact Fr.refl _ _|apply Fr.drew|apply Fr.alloc))) hfd.ofNew))
     have B1d:=hqZ (B1.out.next FD.out ne2)
     have B2d:=hqZ (B2.out.next FD.out ne1)
     have d1:=B1d.out.cell
     have g1:=B1d.out.free
     have l3:=B1d.out.lt
     clear hfd c1 f1
     go_wp2
     have FW:Fr (· = w1.heap.size) wd (wd.setCell ⟨w1.heap.size,0,none⟩ (.iface 275 (.agg #[.iface t' u',.iface t2 u2]))):=Fr.r.set (.inl rfl)
     have XD:Rep wd (fun g=>w.heap.size < g/\g ≠ w1.heap.size) x' (.iface t' u'):=X1.out.frame FD.out (fun g hg _ e=>by omega)
     have YD:Rep wd (fun g=>w.heap.size < g/\g ≠ w1.heap.size) y (.iface t2 u2) :=
      (XC.out.mono (Z':=fun g=>w.heap.size < g/\g ≠ w1.heap.size) (fun g _ hg=>by omega)).frame ((Fr.trans (by repeat' (with_reducible(first|exact Fr.refl _ _|apply Fr.drew|apply Fr.alloc))) FN.out:New wc wd)) (fun _ _ _ h=>h)
     have PD:PSt wd pb tb ts2:=PC.out.new (Fr.trans (by repeat' (with_reducible(first|exact Fr.refl _ _|apply Fr.drew|apply Fr.alloc))) FN.out)
     go_roundg n
     case measure=>omega
     case rel =>
      refine⟨_,ts2,_,_,ER2.out,?_,PD.frame FW ?_ ?_,?_,B1d.out.set _,B2d.out.far ?_⟩
      .exact(Rep.bin 20 _ _ _ _ _ rfl XD YD).frame FW (fun g hg _ e=>hg.2 e)
      .omega
      .omega
      .exact(F1.out.trans FD.out).set (.inr (by omega))
      .omega
end Go.Proofs.YtbdhlpeckennjaaGreatDoor
