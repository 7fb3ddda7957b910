/- FnLong (the proof that the law returns true for every input), part 6 of 52; the last part says what is proved, and its condition. -/
import Derived.Test.YtbdhlpeckennjaaGreatDoorM05
set_option linter.unusedVariables false
set_option linter.unusedSimpArgs false
set_option maxHeartbeats 80000000
set_option maxRecDepth 1000000
namespace Go.Proofs.YtbdhlpeckennjaaGreatDoor
open Go Go.RowKit
def si (pb tb qb:Nat)(mk:Value->Array Value)(w:World)(r:PR (List (Bool × Ex)))(e:Ending)(w':World):Prop :=
 match r with
 | .ok l ts=>∃ (A:Option Addr) (n cap:Nat),e = .returned .nilIface/\Blk w' qb (mk (.slice A n cap)) 120/\Acc ei w' (w.heap.size <= ·) (.slice A n cap) l 130 2/\l.length<=100000/\PSt w' pb tb ts/\Fr (fun k=>k=pb\/k=qb) w w'
 | .bad=>∃ (t:TypeId) (u:Value),e = .returned (.iface t u)/\Fr (fun k=>k=pb\/k=qb) w w'
 | .out=>True
theorem jE(E:List Tok->PR Ex)(hE:Does 135 E)(w:World)(pb tb qb:Nat)(ts:List Tok)(c0 c1 c2 c3 c4 c6 c7 c8 c9:Value)(h:PSt w pb tb ts)(hb:Blk w qb #[c0,c1,c2,c3,c4,.slice none 0 0,c6,c7,c8,c9] 120)(hpq:pb < qb)(htq:tb ≠ qb)(hne:aj (aB E) [] ts ≠ .out) :
  Calls Tryz.prog 69 #[.pointer (some ⟨pb,0,none⟩),.pointer (some ⟨qb,0,none⟩)] w (si pb tb qb (fun v=>#[c0,c1,c2,c3,c4,v,c6,c7,c8,c9]) w (aj (aB E) [] ts)):=by
 have hft:=aq
 have ltp:=h.lt
 have ltt:=h.lt2
 have ltq:=hb.lt
 have ll:=h.len
 have P0:=hqZ h
 have B0:=hqZ hb
 have T0:=hqZ (Fr.refl (fun k=>k=pb\/k=qb) w)
 have HN:=hqZ hne
 have HE:=hqZ hE
 clear h hne hE hb
 go_enter Tryz.func69,Tryz.ntmps69
 go_wp2_with fail
 go_loopg [] (ts.length+1) (fun k wr=>∃ (l:List (Bool × Ex)) (ts':List Tok) (A:Option Addr) (m cap:Nat),ai (aB E) k l ts'=aj (aB E) [] ts/\PSt wr pb tb ts'/\Fr (fun k=>k=pb\/k=qb) w wr /\
  Acc ei wr (w.heap.size <= ·) (.slice A m cap) l 130 2/\l.length+k<=100001/\Blk wr qb #[c0,c1,c2,c3,c4,.slice A m cap,c6,c7,c8,c9] 120)
 case atStart=>exact⟨[],ts,none,0,0,rfl,by exact P0.out,by exact T0.out,Acc.nil _ _ _ _,by simp;omega,by exact B0.out⟩
 case round =>
  obtain⟨l,ts',A,m,cap,e1,hp,hf,hacc,hlen,hb⟩:=hrel
  have HV:=hqZ hacc.lt
  (clear T0;clear P0;clear B0;have H0:=hqZ hf;have xs0:=Fr.size H0.out;clear hf;have H1:=hqZ hp;clear hp;have H2:=hqZ hb;obtain⟨xk0,xl0⟩:=Blk.k10 H2.out;clear hb;have H3:=hqZ (Acc.mono (Z':=fun g=>w.heap.size<=g/\g < wr.heap.size) (hZ:=fun g h1 h2=>⟨h2,h1⟩) (h:=hacc));clear hacc)
  have E0:=hqZ e1
  clear e1
  obtain⟨n,rfl⟩:∃ n,gk=n+1:=by
   cases gk with
   | zero=>exact absurd E0.out.symm HN.out
   | succ n=>exact⟨n,rfl⟩
  (go_wp2_with fail;refine(ay _ pb tb ts' ?_).mono ?_;(all_goals try exact H1.out);rintro e v1 ⟨⟨o1,l1,c10,rfl⟩,hf⟩;(have xs1:=Fr.size hf;have T0:=hqZ (Fr.transN H0.out hf);clear H0;have P0:=hqZ (PSt.new (H1.out) hf);clear H1;have B0:=hqZ (Blk.next H2.out hf id);clear H2;obtain⟨xk10,xl1⟩:=Blk.k10 B0.out;have X0:=hqZ (Acc.carry H3.out (Fr.transN Fr.r hf));clear H3;clear hf;clear xk0))
  cases q1:((hd ts').text.toList == [119,104,101,110])
  case true =>
   have E1:=hqZ (show(bV E (adv ts')).bind (fun x ts1=>ai (aB E) n (l ++ [(false,x)]) ts1)=aj (aB E) [] ts from by rw[<- E0.out];simp only[ai,aB,Tok.is,q1,if_true,if_false,Bool.false_eq_true];cases bV E (adv ts') <;> rfl)
   (go_wp2_with fail;refine(ag _ pb tb ts' ?_).mono ?_;(all_goals try exact P0.out);rintro e v2 ⟨⟨o2,l2,c20,rfl⟩,hp,hf⟩;(have xs3:=Fr.size hf;have T1:=hqZ (Fr.trans' T0.out hf (fun k hk hs=>by omega));clear T0;clear P0;have B1:=hqZ (Blk.next B0.out hf (by show ¬ _;omega));clear B0;obtain⟨xk0,xl2⟩:=Blk.k10 B1.out;have X1:=hqZ (Acc.carry X0.out (Fr.trans' Fr.r hf (fun k _ hs=>by omega)));clear X0;have P0:=hqZ hp;clear hp;clear hf;clear xk10))
   cases hs:bV E (adv ts')with
   | out=>exact absurd (by rw[<- E1.out,hs];rfl) HN.out
   | bad =>
    (go_wp2_with fail;refine(gotP (GotC pb tb) (cU E HE.out _ pb tb _ ?_ (by rw[hs];intro e;cases e)) hs).mono ?_;(all_goals try exact P0.out);rintro e v3 ⟨v,t,u,hv,rfl,hf⟩;(have xs5:=Fr.size hf;have T0:=hqZ (Fr.trans' T1.out hf (fun k hk hs=>by omega));clear T1;clear P0;have B0:=hqZ (Blk.next B1.out hf (by show ¬ _;omega));clear B1;obtain⟨xk10,xl3⟩:=Blk.k10 B0.out;have X0:=hqZ (Acc.carry X1.out (Fr.trans' Fr.r hf (fun k _ hs=>by omega)));clear X1;clear hf;clear xk0))
    rcases hv with rfl|⟨t3,u3,rfl⟩
    all_goals
     go_wp2
     go_ret
     rw[show aj (aB E) [] ts = .bad from by rw[<- E1.out,hs];rfl]
     exact⟨t,u,rfl,by exact(T0.out.alloc _)⟩
   | ok x ts1 =>
    have E2:=hqZ (show ai (aB E) n (l ++ [(false,x)]) ts1=aj (aB E) [] ts from by rw[<- E1.out,hs];rfl)
    (go_wp2_with fail;refine(gotP (GotC pb tb) (cU E HE.out _ pb tb _ ?_ (by rw[hs];intro e;cases e)) hs).mono ?_;(all_goals try exact P0.out);rintro e v3 ⟨t,u,rfl,hx,hp,hf⟩;(have xs5:=Fr.size hf;have T0:=hqZ (Fr.trans' T1.out hf (fun k hk hs=>by omega));clear T1;clear P0;have B0:=hqZ (Blk.next B1.out hf (by show ¬ _;omega));clear B1;obtain⟨xk10,xl3⟩:=Blk.k10 B0.out;have X0:=hqZ (Rep.mono (Z':=fun g=>v2.heap.size<=g/\g < v3.heap.size) (hZ:=fun g h1 h2=>⟨h2,h1⟩) (h:=hx));clear hx;have X2:=hqZ (Acc.carry X1.out (Fr.trans' Fr.r hf (fun k _ hs=>by omega)));clear X1;have P0:=hqZ hp;clear hp;clear hf;clear xk0))
    clear hs
    (go_wp2_with fail;refine(qU _ qb (w.heap.size <= ·) (fun k=>v2.heap.size<=k/\k < v3.heap.size) c0 c1 c2 c3 c4 c6 c7 c8 c9 A m cap l x t u (by exact(B0.out.alloc _)) (by exact Acc.mono (h:=(Acc.carry X2.out (Fr.r.alloc _))) (hZ:=fun g _ hg=>by omega)) (by exact(Rep.carry X0.out (Fr.r.alloc _))) (fun k hk=>⟨by(try dsimp only at hk ⊢);omega,fun e=>by have:=(HV.out k e).1;(try dsimp only at hk);omega⟩) (by omega) (fun g hg=>by(try simp only[aa,ae,ad,af]at hg);(try dsimp only);omega) (by(try dsimp only);omega)).mono ?_;rintro e v4 ⟨rfl,A',m',cap',hb,hacc,hf⟩;(have xs7:=Fr.size hf;simp only[aa,ae,ad,af]at xs7;have T1:=hqZ (Fr.trans' (T0.out.alloc _) hf (fun k hk hs=>by omega));clear T0;have P1:=hqZ (PSt.frame (PSt.over (w0:=w) P0.out (Fr.r.alloc _) ltp ltt) hf (by show ¬ _;omega) (by show ¬ _;omega));clear P0;clear B0;have B0:=hqZ hb;obtain⟨xk0,xl4⟩:=Blk.k10 B0.out;clear hb;clear X0;clear X2;have X0:=hqZ (Acc.mono (Z':=fun g=>w.heap.size<=g/\g < v4.heap.size) (hZ:=fun g h1 h2=>⟨h2,h1⟩) (h:=hacc));clear hacc;clear hf;clear xk10))
    go_wp2
    go_roundg n
    case measure=>omega
    case rel=>exact⟨_,_,A',m',cap',E2.out,by exact P1.out,by exact T1.out,by exact Acc.mono (h:=X0.out) (hZ:=fun g _ hg=>by omega),by simp;omega,by exact B0.out⟩
  cases q2:((hd ts').text.toList == [117,110,108,101,115,115])
  case true =>
   have E1:=hqZ (show(bV E (adv ts')).bind (fun x ts1=>ai (aB E) n (l ++ [(true,x)]) ts1)=aj (aB E) [] ts from by rw[<- E0.out];simp only[ai,aB,Tok.is,q1,q2,if_true,if_false,Bool.false_eq_true];cases bV E (adv ts') <;> rfl)
   (go_wp2_with fail;refine(ag _ pb tb ts' ?_).mono ?_;(all_goals try exact P0.out);rintro e v2 ⟨⟨o2,l2,c20,rfl⟩,hp,hf⟩;(have xs3:=Fr.size hf;have T1:=hqZ (Fr.trans' T0.out hf (fun k hk hs=>by omega));clear T0;clear P0;have B1:=hqZ (Blk.next B0.out hf (by show ¬ _;omega));clear B0;obtain⟨xk0,xl2⟩:=Blk.k10 B1.out;have X1:=hqZ (Acc.carry X0.out (Fr.trans' Fr.r hf (fun k _ hs=>by omega)));clear X0;have P0:=hqZ hp;clear hp;clear hf;clear xk10))
   cases hs:bV E (adv ts')with
   | out=>exact absurd (by rw[<- E1.out,hs];rfl) HN.out
   | bad =>
    (go_wp2_with fail;refine(gotP (GotC pb tb) (cU E HE.out _ pb tb _ ?_ (by rw[hs];intro e;cases e)) hs).mono ?_;(all_goals try exact P0.out);rintro e v3 ⟨v,t,u,hv,rfl,hf⟩;(have xs5:=Fr.size hf;have T0:=hqZ (Fr.trans' T1.out hf (fun k hk hs=>by omega));clear T1;clear P0;have B0:=hqZ (Blk.next B1.out hf (by show ¬ _;omega));clear B1;obtain⟨xk10,xl3⟩:=Blk.k10 B0.out;have X0:=hqZ (Acc.carry X1.out (Fr.trans' Fr.r hf (fun k _ hs=>by omega)));clear X1;clear hf;clear xk0))
    rcases hv with rfl|⟨t3,u3,rfl⟩
    all_goals
     go_wp2
     go_ret
     rw[show aj (aB E) [] ts = .bad from by rw[<- E1.out,hs];rfl]
     exact⟨t,u,rfl,by exact(T0.out.alloc _)⟩
   | ok x ts1 =>
    have E2:=hqZ (show ai (aB E) n (l ++ [(true,x)]) ts1=aj (aB E) [] ts from by rw[<- E1.out,hs];rfl)
    (go_wp2_with fail;refine(gotP (GotC pb tb) (cU E HE.out _ pb tb _ ?_ (by rw[hs];intro e;cases e)) hs).mono ?_;(all_goals try exact P0.out);rintro e v3 ⟨t,u,rfl,hx,hp,hf⟩;(have xs5:=Fr.size hf;have T0:=hqZ (Fr.trans' T1.out hf (fun k hk hs=>by omega));clear T1;clear P0;have B0:=hqZ (Blk.next B1.out hf (by show ¬ _;omega));clear B1;obtain⟨xk10,xl3⟩:=Blk.k10 B0.out;have X0:=hqZ (Rep.mono (Z':=fun g=>v2.heap.size<=g/\g < v3.heap.size) (hZ:=fun g h1 h2=>⟨h2,h1⟩) (h:=hx));clear hx;have X2:=hqZ (Acc.carry X1.out (Fr.trans' Fr.r hf (fun k _ hs=>by omega)));clear X1;have P0:=hqZ hp;clear hp;clear hf;clear xk0))
    clear hs
    (go_wp2_with fail;refine(nJ _ qb (w.heap.size <= ·) (fun k=>v2.heap.size<=k/\k < v3.heap.size) c0 c1 c2 c3 c4 c6 c7 c8 c9 A m cap l x t u (by exact(B0.out.alloc _)) (by exact Acc.mono (h:=(Acc.carry X2.out (Fr.r.alloc _))) (hZ:=fun g _ hg=>by omega)) (by exact(Rep.carry X0.out (Fr.r.alloc _))) (fun k hk=>⟨by(try dsimp only at hk ⊢);omega,fun e=>by have:=(HV.out k e).1;(try dsimp only at hk);omega⟩) (by omega) (fun g hg=>by(try simp only[aa,ae,ad,af]at hg);(try dsimp only);omega) (by(try dsimp only);omega)).mono ?_;rintro e v4 ⟨rfl,A',m',cap',hb,hacc,hf⟩;(have xs7:=Fr.size hf;simp only[aa,ae,ad,af]at xs7;have T1:=hqZ (Fr.trans' (T0.out.alloc _) hf (fun k hk hs=>by omega));clear T0;have P1:=hqZ (PSt.frame (PSt.over (w0:=w) P0.out (Fr.r.alloc _) ltp ltt) hf (by show ¬ _;omega) (by show ¬ _;omega));clear P0;clear B0;have B0:=hqZ hb;obtain⟨xk0,xl4⟩:=Blk.k10 B0.out;clear hb;clear X0;clear X2;have X0:=hqZ (Acc.mono (Z':=fun g=>w.heap.size<=g/\g < v4.heap.size) (hZ:=fun g h1 h2=>⟨h2,h1⟩) (h:=hacc));clear hacc;clear hf;clear xk10))
    go_wp2
    go_roundg n
    case measure=>omega
    case rel=>exact⟨_,_,A',m',cap',E2.out,by exact P1.out,by exact T1.out,by exact Acc.mono (h:=X0.out) (hZ:=fun g _ hg=>by omega),by simp;omega,by exact B0.out⟩
  have ER:=hqZ (show aj (aB E) [] ts = .ok l ts' from by rw[<- E0.out];simp[ai,aB,Tok.is,q1,q2,PR.bind])
  go_wp2
  go_ret
  rw[ER.out]
  exact⟨A,m,cap,rfl,by exact B0.out,by exact Acc.mono (h:=X0.out) (hZ:=fun g _ hg=>by omega),by omega,by exact P0.out,by exact T0.out⟩
def GotX (pb tb a b m:Nat)(w:World)(r:PR Ex)(e:Ending)(w':World):Prop :=
 match r with
 | .ok x ts=>∃ (t:TypeId) (u:Value),e = .returned (.tuple #[.agg #[.iface t u],.nilIface])/\Rep w' (fun g=>(a<=g/\g < b/\g ≠ m)\/w.heap.size<=g) x (.iface t u)/\PSt w' pb tb ts/\Fr (· = pb) w w'
 | .bad=>∃ (t:TypeId) (u:Value),e = .returned (.tuple #[.agg #[.nilIface],.iface t u])/\Fr (· = pb) w w'
 | .out=>True
def ij (f:FuncId)(P:Ex->List Tok->PR Ex):Prop :=
 ∀ (w:World) (pb tb:Nat) (ts:List Tok) (a b m:Nat) (x:Ex) (t:TypeId) (u:Value),PSt w pb tb ts->pb < a->b<=w.heap.size->Rep w (fun g=>a<=g/\g < b/\g ≠ m) x (.iface t u)->P x ts ≠ .out ->
  Calls Tryz.prog f #[.pointer (some ⟨pb,0,none⟩),.agg #[.iface t u]] w (GotX pb tb a b m w (P x ts))
theorem rC(hSV:cC):ij 185 hasP:=by
 intro w pb tb ts a b m x tx ux h hpa hb hx hne
 have hft:=aq
 have ltp:=h.lt
 have ltt:=h.lt2
 have P0:=hqZ h
 have T0:=hqZ (Fr.refl (· = pb) w)
 have HN:=hqZ hne
 have HS:=hqZ hSV
 have X0:=hqZ hx
 clear h hne hSV hx
 go_enter Tryz.func185,Tryz.ntmps185
 have hz1:=PSt.fine P0.out |>.hd
 (go_wp2_with fail;refine(ag _ pb tb ts ?_).mono ?_;(all_goals try exact PSt.over (w0:=w) P0.out ((Fr.r.alloc _).alloc _) ltp ltt);rintro e w1 ⟨⟨o,l,c,rfl⟩,hp,hf⟩;(have xs0:=Fr.size hf;simp only[aa,ae,ad,af]at xs0;have T1:=hqZ (Fr.trans ((T0.out.alloc _).alloc _) hf);clear T0;clear P0;have B0:=hqZ (Blk.next ((Blk.at_ _ _ _ (n:=w.heap.size) rfl).alloc _) hf (by show ¬ _;omega));obtain⟨xk0,xl0⟩:=Blk.k1 B0.out;have B1:=hqZ (Blk.next (Blk.at_ _ _ _ (n:=w.heap.size+1) (by simp only[aa,ae,ad,af])) hf (by show ¬ _;omega));obtain⟨xk1,xl1⟩:=Blk.k1 B1.out;have X1:=hqZ (Rep.carry X0.out (Fr.trans' ((Fr.r.alloc _).alloc _) hf (fun k _ hs=>by omega)));clear X0;have P0:=hqZ hp;clear hp;clear hf))
 cases hk:(((hd ts).kind:Int) == 1)
 .have hk':¬ (hd ts).kind=1:=by simp at hk;omega
  (go_wp2_with fail;refine(aD _ _ _ _ _ _ _).mono ?_;rintro e w2 ⟨rfl,hf⟩;(have xs2:=Fr.size hf;simp only[aa,ae,ad,af]at xs2;have T0:=hqZ (Fr.transN (T1.out.alloc _) hf);clear T1;have P1:=hqZ (PSt.new (PSt.over (w0:=w) P0.out (Fr.r.alloc _) ltp ltt) hf);clear P0;have B2:=hqZ (Blk.next (B0.out.alloc _) hf id);clear B0;obtain⟨xk2,xl2⟩:=Blk.k1 B2.out;have B0:=hqZ (Blk.next (B1.out.alloc _) hf id);clear B1;obtain⟨xk3,xl3⟩:=Blk.k1 B0.out;have B1:=hqZ (Blk.next (Blk.at_ _ _ _ (n:=w1.heap.size) rfl) hf id);obtain⟨xk4,xl4⟩:=Blk.k6 B1.out;have X0:=hqZ (Rep.carry X1.out (Fr.transN (Fr.r.alloc _) hf));clear X1;clear hf;clear xk0 xk1))
  cases hj:(((hd ts).kind:Int) == 4)
  .have hj':¬ (hd ts).kind=4:=by simp at hj;omega
   (go_wp2_with fail;refine(aG _ _ _ _ _ _ _).mono ?_;rintro e w3 ⟨rfl,hf⟩;(have xs4:=Fr.size hf;have T1:=hqZ (Fr.transN T0.out hf);clear T0;have P0:=hqZ (PSt.new (P1.out) hf);clear P1;have B3:=hqZ (Blk.next B2.out hf id);clear B2;obtain⟨xk0,xl5⟩:=Blk.k1 B3.out;have B2:=hqZ (Blk.next B0.out hf id);clear B0;obtain⟨xk1,xl6⟩:=Blk.k1 B2.out;have B0:=hqZ (Blk.next B1.out hf id);clear B1;obtain⟨xk10,xl7⟩:=Blk.k6 B0.out;have X1:=hqZ (Rep.carry X0.out (Fr.transN Fr.r hf));clear X0;clear hf;clear xk2 xk3 xk4))
   have ER:=hqZ (show hasP x ts = .bad from by simp[hasP,hk',hj'])
   (go_wp2_with fail;refine(ax _ pb tb (adv ts) _ _ ?_).mono ?_;(all_goals try exact P0.out);rintro e w9 ⟨⟨t,u,rfl⟩,hf⟩;(have xs6:=Fr.size hf;have T0:=hqZ (Fr.transN T1.out hf);clear T1;have P1:=hqZ (PSt.new (P0.out) hf);clear P0;have B1:=hqZ (Blk.next B3.out hf id);clear B3;obtain⟨xk2,xl8⟩:=Blk.k1 B1.out;have B3:=hqZ (Blk.next B2.out hf id);clear B2;obtain⟨xk3,xl9⟩:=Blk.k1 B3.out;have B2:=hqZ (Blk.next B0.out hf id);clear B0;obtain⟨xk4,xl10⟩:=Blk.k6 B2.out;have X0:=hqZ (Rep.carry X1.out (Fr.transN Fr.r hf));clear X1;clear hf;clear xk0 xk1 xk10))
   go_wp2
   refine bodyPost_ret (v:=(.tuple #[.agg #[.nilIface],.iface t u])) (by simp only[results,Tryz.results185];go_simp) rfl ?_
   rw[ER.out]
   exact⟨t,u,rfl,by exact(T0.out.set (.inr (by omega)))⟩
  .have hj':(hd ts).kind=4:=by simp at hj;omega
   have E1:=hqZ (show hasP x ts=(bw (aX (hd ts).text) fun s=>.ok (.named 13 s [x]) (adv ts))from by simp[hasP,hj'])
   (go_wp2_with fail;refine(aG _ _ _ _ _ _ _).mono ?_;rintro e w3 ⟨rfl,hf⟩;(have xs4:=Fr.size hf;have T1:=hqZ (Fr.transN T0.out hf);clear T0;have P0:=hqZ (PSt.new (P1.out) hf);clear P1;have B3:=hqZ (Blk.next B2.out hf id);clear B2;obtain⟨xk0,xl5⟩:=Blk.k1 B3.out;have B2:=hqZ (Blk.next B0.out hf id);clear B0;obtain⟨xk1,xl6⟩:=Blk.k1 B2.out;have B0:=hqZ (Blk.next B1.out hf id);clear B1;obtain⟨xk10,xl7⟩:=Blk.k6 B0.out;have X1:=hqZ (Rep.carry X0.out (Fr.transN Fr.r hf));clear X0;clear hf;clear xk2 xk3 xk4))
   cases hv:aX (hd ts).text with
   | none =>
    (go_wp2_with fail;refine(sv (HS.out _ _ _ _ _ _ _ hz1 (by exact(PSt.glob (P0.out)).1)) hv).mono ?_;rintro e w5 ⟨s,t,u,rfl,hf⟩;(have xs6:=Fr.size hf;have T0:=hqZ (Fr.transN T1.out hf);clear T1;have P1:=hqZ (PSt.new (P0.out) hf);clear P0;have B1:=hqZ (Blk.next B3.out hf id);clear B3;obtain⟨xk2,xl8⟩:=Blk.k1 B1.out;have B3:=hqZ (Blk.next B2.out hf id);clear B2;obtain⟨xk3,xl9⟩:=Blk.k1 B3.out;have B2:=hqZ (Blk.next B0.out hf id);clear B0;obtain⟨xk4,xl10⟩:=Blk.k6 B2.out;have X0:=hqZ (Rep.carry X1.out (Fr.transN Fr.r hf));clear X1;clear hf;clear xk0 xk1 xk10))
    go_wp2
    refine bodyPost_ret (v:=(.tuple #[.agg #[.nilIface],.iface t u])) (by simp only[results,Tryz.results185];go_simp) rfl ?_
    rw[E1.out,hv]
    exact⟨t,u,rfl,by exact(T0.out.set (.inr (by omega)))⟩
   | some s =>
    (go_wp2_with fail;refine(sv (HS.out _ _ _ _ _ _ _ hz1 (by exact(PSt.glob (P0.out)).1)) hv).mono ?_;rintro e w5 ⟨rfl,hf⟩;(have xs6:=Fr.size hf;have T0:=hqZ (Fr.transN T1.out hf);clear T1;have P1:=hqZ (PSt.new (P0.out) hf);clear P0;have B1:=hqZ (Blk.next B3.out hf id);clear B3;obtain⟨xk2,xl8⟩:=Blk.k1 B1.out;have B3:=hqZ (Blk.next B2.out hf id);clear B2;obtain⟨xk3,xl9⟩:=Blk.k1 B3.out;have B2:=hqZ (Blk.next B0.out hf id);clear B0;obtain⟨xk4,xl10⟩:=Blk.k6 B2.out;have X0:=hqZ (Rep.carry X1.out (Fr.transN Fr.r hf));clear X1;clear hf;clear xk0 xk1 xk10))
    (go_wp2_with fail;refine(fZ _ _ _ _).mono ?_;rintro e w6 ⟨rfl,hf⟩;(have xs8:=Fr.size hf;have T1:=hqZ (Fr.transN T0.out hf);clear T0;have P0:=hqZ (PSt.new (P1.out) hf);clear P1;have B0:=hqZ (Blk.next B1.out hf id);clear B1;obtain⟨xk0,xl11⟩:=Blk.k1 B0.out;have B1:=hqZ (Blk.next B3.out hf id);clear B3;obtain⟨xk1,xl12⟩:=Blk.k1 B1.out;have B3:=hqZ (Blk.next B2.out hf id);clear B2;obtain⟨xk10,xl13⟩:=Blk.k6 B3.out;have X1:=hqZ (Rep.carry X0.out (Fr.transN Fr.r hf));clear X0;clear hf;clear xk2 xk3 xk4))
    go_wp2
    refine bodyPost_ret (v:=(.tuple #[.agg #[.iface 179 (.agg #[.iface tx ux,.string s])],.nilIface])) (by simp only[results,Tryz.results185];go_simp) rfl ?_
    rw[E1.out,hv]
    exact⟨_,_,rfl,.nam 13 _ _ _ _ rfl (by exact Rep.mono (h:=(Rep.carry X1.out (Fr.r.set (.inl (by omega))))) (hZ:=fun g _ hg=>by omega)),by exact PSt.over (w0:=w) P0.out (Fr.r.set (.inl (by omega))) ltp ltt,by exact(T1.out.set (.inr (by omega)))⟩
 .have hk':(hd ts).kind=1:=by simp at hk;omega
  have E1:=hqZ (show hasP x ts=aj dg (.named 13 (hd ts).text [x],.named 23 (hd ts).text [x]) (adv ts)from by simp[hasP,hk'])
  (go_wp2_with fail;refine(aD _ _ _ _ _ _ _).mono ?_;rintro e w2 ⟨rfl,hf⟩;(have xs2:=Fr.size hf;simp only[aa,ae,ad,af]at xs2;have T0:=hqZ (Fr.transN (T1.out.alloc _) hf);clear T1;have P1:=hqZ (PSt.new (PSt.over (w0:=w) P0.out (Fr.r.alloc _) ltp ltt) hf);clear P0;have B2:=hqZ (Blk.next (B0.out.alloc _) hf id);clear B0;obtain⟨xk2,xl2⟩:=Blk.k1 B2.out;have B0:=hqZ (Blk.next (B1.out.alloc _) hf id);clear B1;obtain⟨xk3,xl3⟩:=Blk.k1 B0.out;have B1:=hqZ (Blk.next (Blk.at_ _ _ _ (n:=w1.heap.size) rfl) hf id);obtain⟨xk4,xl4⟩:=Blk.k6 B1.out;have X0:=hqZ (Rep.carry X1.out (Fr.transN (Fr.r.alloc _) hf));clear X1;clear hf;clear xk0 xk1))
  (go_wp2_with fail;refine(fZ _ _ _ _).mono ?_;rintro e w3 ⟨rfl,hf⟩;(have xs4:=Fr.size hf;have T1:=hqZ (Fr.transN T0.out hf);clear T0;have P0:=hqZ (PSt.new (P1.out) hf);clear P1;have B3:=hqZ (Blk.next B2.out hf id);clear B2;obtain⟨xk0,xl5⟩:=Blk.k1 B3.out;have B2:=hqZ (Blk.next B0.out hf id);clear B0;obtain⟨xk1,xl6⟩:=Blk.k1 B2.out;have B0:=hqZ (Blk.next B1.out hf id);clear B1;obtain⟨xk10,xl7⟩:=Blk.k6 B0.out;have X1:=hqZ (Rep.carry X0.out (Fr.transN Fr.r hf));clear X0;clear hf;clear xk2 xk3 xk4))
  (go_wp2_with fail;refine(di _ _ _ _).mono ?_;rintro e w4 ⟨rfl,hf⟩;(have xs6:=Fr.size hf;simp only[aa,ae,ad,af]at xs6;have T0:=hqZ (Fr.transN (T1.out.alloc _) hf);clear T1;have P1:=hqZ (PSt.new (PSt.over (w0:=w) P0.out (Fr.r.alloc _) ltp ltt) hf);clear P0;have B1:=hqZ (Blk.next (B3.out.alloc _) hf id);clear B3;obtain⟨xk2,xl8⟩:=Blk.k1 B1.out;have B3:=hqZ (Blk.next (B2.out.alloc _) hf id);clear B2;obtain⟨xk3,xl9⟩:=Blk.k1 B3.out;have B2:=hqZ (Blk.next (B0.out.alloc _) hf id);clear B0;obtain⟨xk4,xl10⟩:=Blk.k6 B2.out;have B0:=hqZ (Blk.next (Blk.at_ _ _ _ (n:=w3.heap.size) rfl) hf id);obtain⟨xk16,xl11⟩:=Blk.k1 B0.out;have X0:=hqZ (Rep.carry X1.out (Fr.transN (Fr.r.alloc _) hf));clear X1;clear hf;clear xk0 xk1 xk10))
  have HN1:=hqZ (show aj dg (.named 13 (hd ts).text [x],.named 23 (hd ts).text [x]) (adv ts) ≠ .out from by rw[<- E1.out];exact HN.out)
  go_wp2_with fail
  go_loopg [] ((adv ts).length+1) (fun k wr=>∃ (x' y':Ex) (t1:TypeId) (u1:Value) (t2:TypeId) (u2:Value) (ts':List Tok),
   ai dg k (x',y') ts'=hasP x ts/\PSt wr pb tb ts'/\Fr (· = pb) w wr/\Rep wr (fun g=>a<=g/\g < b/\g ≠ m) x' (.iface t1 u1)/\Rep wr (fun g=>a<=g/\g < b/\g ≠ m) y' (.iface t2 u2) /\
   Blk wr (w.heap.size+1) #[.nilIface] 246/\Blk wr w3.heap.size #[.iface t1 u1] 246/\Blk wr w4.heap.size #[.iface t2 u2] 246)
  case atStart =>
   exact⟨_,_,_,_,_,_,_,by rw[E1.out];rfl,by exact PSt.over (w0:=w) P1.out (Fr.r.alloc _) ltp ltt,by exact(T0.out.alloc _),.nam 13 _ _ _ _ rfl (by exact(Rep.carry X0.out (Fr.r.alloc _))),.nam 23 _ _ _ _ rfl (by exact(Rep.carry X0.out (Fr.r.alloc _))),by exact(B3.out.alloc _),by exact(B0.out.alloc _),by exact(Blk.at_ _ _ _ (n:=w4.heap.size) rfl)⟩
  case round =>
   obtain⟨x',y',t1,u1,t2,u2,ts',e1,hp,hf,hx1,hx2,hb1,hb2,hb3⟩:=hrel
   (clear T0;clear P1;clear B1;clear B3;clear B2;clear B0;clear X0;clear xk2 xk3 xk4 xk16;have H0:=hqZ hf;have xs8:=Fr.size H0.out;clear hf;have H1:=hqZ hp;clear hp;have H2:=hqZ hb1;obtain⟨xk0,xl12⟩:=Blk.k1 H2.out;clear hb1;have H3:=hqZ hb2;obtain⟨xk1,xl13⟩:=Blk.k1 H3.out;clear hb2;have H4:=hqZ hb3;obtain⟨xk2,xl14⟩:=Blk.k1 H4.out;clear hb3;have H5:=hqZ (Rep.mono (Z':=fun g=>(a<=g/\g < b/\g ≠ m)/\g < wr.heap.size) (hZ:=fun g h1 h2=>⟨h2,h1⟩) (h:=hx1));clear hx1;have H6:=hqZ (Rep.mono (Z':=fun g=>(a<=g/\g < b/\g ≠ m)/\g < wr.heap.size) (hZ:=fun g h1 h2=>⟨h2,h1⟩) (h:=hx2));clear hx2)
   have E0:=hqZ e1
   clear e1
   obtain⟨n,rfl⟩:∃ n,gk=n+1:=by
    cases gk with
    | zero=>exact absurd E0.out.symm HN.out
    | succ n=>exact⟨n,rfl⟩
   (go_wp2_with fail;refine(ay _ pb tb ts' ?_).mono ?_;(all_goals try exact H1.out);rintro e v1 ⟨⟨o1,l1,c1,rfl⟩,hf⟩;(have xs9:=Fr.size hf;have T0:=hqZ (Fr.transN H0.out hf);clear H0;have P0:=hqZ (PSt.new (H1.out) hf);clear H1;have B0:=hqZ (Blk.next H2.out hf id);clear H2;obtain⟨xk3,xl15⟩:=Blk.k1 B0.out;have B1:=hqZ (Blk.next H3.out hf id);clear H3;obtain⟨xk4,xl16⟩:=Blk.k1 B1.out;have B2:=hqZ (Blk.next H4.out hf id);clear H4;obtain⟨xk5,xl17⟩:=Blk.k1 B2.out;have X0:=hqZ (Rep.carry H5.out (Fr.transN Fr.r hf));clear H5;have X1:=hqZ (Rep.carry H6.out (Fr.transN Fr.r hf));clear H6;clear hf;clear xk0 xk1 xk2))
   cases hq:((hd ts').text.toList == [46])
   .have ER:=hqZ (show hasP x ts = .ok x' ts' from by rw[<- E0.out];simp[ai,dg,Tok.is,hq,PR.bind])
    go_wp2
    refine bodyPost_ret (v:=(.tuple #[.agg #[.iface t1 u1],.nilIface])) (by simp only[results,Tryz.results185];go_simp) rfl ?_
    rw[ER.out]
    exact⟨t1,u1,rfl,by exact Rep.mono (h:=(Rep.carry X0.out (Fr.r.set (.inl (by omega))))) (hZ:=fun g _ hg=>by omega),by exact PSt.over (w0:=w) P0.out (Fr.r.set (.inl (by omega))) ltp ltt,by exact(T0.out.set (.inr (by omega)))⟩
   ·(go_wp2_with fail;refine(ag _ pb tb ts' ?_).mono ?_;(all_goals try exact P0.out);rintro e v2 ⟨⟨o2,l2,c2,rfl⟩,hp,hf⟩;(have xs11:=Fr.size hf;have T1:=hqZ (Fr.trans T0.out hf);clear T0;clear P0;have B3:=hqZ (Blk.next B0.out hf (by show ¬ _;omega));clear B0;obtain⟨xk0,xl18⟩:=Blk.k1 B3.out;have B0:=hqZ (Blk.next B1.out hf (by show ¬ _;omega));clear B1;obtain⟨xk1,xl19⟩:=Blk.k1 B0.out;have B1:=hqZ (Blk.next B2.out hf (by show ¬ _;omega));clear B2;obtain⟨xk2,xl20⟩:=Blk.k1 B1.out;have X2:=hqZ (Rep.carry X0.out (Fr.trans' Fr.r hf (fun k _ hs=>by omega)));clear X0;have X0:=hqZ (Rep.carry X1.out (Fr.trans' Fr.r hf (fun k _ hs=>by omega)));clear X1;have P0:=hqZ hp;clear hp;clear hf;clear xk3 xk4 xk5))
    (go_wp2_with fail;refine(ag _ pb tb (adv ts') ?_).mono ?_;(all_goals try exact P0.out);rintro e v3 ⟨⟨o3,l3,c3,rfl⟩,hp,hf⟩;(have xs13:=Fr.size hf;have T0:=hqZ (Fr.trans T1.out hf);clear T1;clear P0;have B2:=hqZ (Blk.next B3.out hf (by show ¬ _;omega));clear B3;obtain⟨xk3,xl21⟩:=Blk.k1 B2.out;have B3:=hqZ (Blk.next B0.out hf (by show ¬ _;omega));clear B0;obtain⟨xk4,xl22⟩:=Blk.k1 B3.out;have B0:=hqZ (Blk.next B1.out hf (by show ¬ _;omega));clear B1;obtain⟨xk5,xl23⟩:=Blk.k1 B0.out;have X1:=hqZ (Rep.carry X2.out (Fr.trans' Fr.r hf (fun k _ hs=>by omega)));clear X2;have X2:=hqZ (Rep.carry X0.out (Fr.trans' Fr.r hf (fun k _ hs=>by omega)));clear X0;have P0:=hqZ hp;clear hp;clear hf;clear xk0 xk1 xk2))
    cases hi:(((hd (adv ts')).kind:Int) == 1)
    .have hi':¬ (hd (adv ts')).kind=1:=by simp at hi;omega
     have ER:=hqZ (show hasP x ts = .bad from by rw[<- E0.out];simp[ai,dg,Tok.is,hq,hi',PR.bind])
     (go_wp2_with fail;refine(aD _ _ _ _ _ _ _).mono ?_;rintro e v4 ⟨rfl,hf⟩;(have xs15:=Fr.size hf;simp only[aa,ae,ad,af]at xs15;have T1:=hqZ (Fr.transN (T0.out.alloc _) hf);clear T0;have P1:=hqZ (PSt.new (PSt.over (w0:=w) P0.out (Fr.r.alloc _) ltp ltt) hf);clear P0;have B1:=hqZ (Blk.next (B2.out.alloc _) hf id);clear B2;obtain⟨xk0,xl24⟩:=Blk.k1 B1.out;have B2:=hqZ (Blk.next (B3.out.alloc _) hf id);clear B3;obtain⟨xk1,xl25⟩:=Blk.k1 B2.out;have B3:=hqZ (Blk.next (B0.out.alloc _) hf id);clear B0;obtain⟨xk2,xl26⟩:=Blk.k1 B3.out;have B0:=hqZ (Blk.next (Blk.at_ _ _ _ (n:=v3.heap.size) rfl) hf id);obtain⟨xk6,xl27⟩:=Blk.k6 B0.out;have X0:=hqZ (Rep.carry X1.out (Fr.transN (Fr.r.alloc _) hf));clear X1;have X1:=hqZ (Rep.carry X2.out (Fr.transN (Fr.r.alloc _) hf));clear X2;clear hf;clear xk3 xk4 xk5))
     (go_wp2_with fail;refine(ax _ pb tb (adv (adv ts')) _ _ ?_).mono ?_;(all_goals try exact P1.out);rintro e v5 ⟨⟨t,u,rfl⟩,hf⟩;(have xs17:=Fr.size hf;have T0:=hqZ (Fr.transN T1.out hf);clear T1;have P0:=hqZ (PSt.new (P1.out) hf);clear P1;have B4:=hqZ (Blk.next B1.out hf id);clear B1;obtain⟨xk3,xl28⟩:=Blk.k1 B4.out;have B1:=hqZ (Blk.next B2.out hf id);clear B2;obtain⟨xk4,xl29⟩:=Blk.k1 B1.out;have B2:=hqZ (Blk.next B3.out hf id);clear B3;obtain⟨xk5,xl30⟩:=Blk.k1 B2.out;have B3:=hqZ (Blk.next B0.out hf id);clear B0;obtain⟨xk12,xl31⟩:=Blk.k6 B3.out;have X2:=hqZ (Rep.carry X0.out (Fr.transN Fr.r hf));clear X0;have X0:=hqZ (Rep.carry X1.out (Fr.transN Fr.r hf));clear X1;clear hf;clear xk0 xk1 xk2 xk6))
     go_wp2
     refine bodyPost_ret (v:=(.tuple #[.agg #[.nilIface],.iface t u])) (by simp only[results,Tryz.results185];go_simp) rfl ?_
     rw[ER.out]
     exact⟨t,u,rfl,by exact(T0.out.set (.inr (by omega)))⟩
    .have hi':(hd (adv ts')).kind=1:=by simp at hi;omega
     have ER:=hqZ (show ai dg n (.opn 5 [x',.named 13 (hd (adv ts')).text [y']],.named 23 (hd (adv ts')).text [y']) (adv (adv ts'))=hasP x ts from by rw[<- E0.out];simp only[ai,dg,Tok.is,hq,if_true];rw[if_pos hi'];rfl)
     (go_wp2_with fail;refine(aD _ _ _ _ _ _ _).mono ?_;rintro e v4 ⟨rfl,hf⟩;(have xs15:=Fr.size hf;simp only[aa,ae,ad,af]at xs15;have T1:=hqZ (Fr.transN (T0.out.alloc _) hf);clear T0;have P1:=hqZ (PSt.new (PSt.over (w0:=w) P0.out (Fr.r.alloc _) ltp ltt) hf);clear P0;have B1:=hqZ (Blk.next (B2.out.alloc _) hf id);clear B2;obtain⟨xk0,xl24⟩:=Blk.k1 B1.out;have B2:=hqZ (Blk.next (B3.out.alloc _) hf id);clear B3;obtain⟨xk1,xl25⟩:=Blk.k1 B2.out;have B3:=hqZ (Blk.next (B0.out.alloc _) hf id);clear B0;obtain⟨xk2,xl26⟩:=Blk.k1 B3.out;have B0:=hqZ (Blk.next (Blk.at_ _ _ _ (n:=v3.heap.size) rfl) hf id);obtain⟨xk6,xl27⟩:=Blk.k6 B0.out;have X0:=hqZ (Rep.carry X1.out (Fr.transN (Fr.r.alloc _) hf));clear X1;have X1:=hqZ (Rep.carry X2.out (Fr.transN (Fr.r.alloc _) hf));clear X2;clear hf;clear xk3 xk4 xk5))
     (go_wp2_with fail;refine(fZ _ _ _ _).mono ?_;rintro e v5 ⟨rfl,hf⟩;(have xs17:=Fr.size hf;have T0:=hqZ (Fr.transN T1.out hf);clear T1;have P0:=hqZ (PSt.new (P1.out) hf);clear P1;have B4:=hqZ (Blk.next B1.out hf id);clear B1;obtain⟨xk3,xl28⟩:=Blk.k1 B4.out;have B1:=hqZ (Blk.next B2.out hf id);clear B2;obtain⟨xk4,xl29⟩:=Blk.k1 B1.out;have B2:=hqZ (Blk.next B3.out hf id);clear B3;obtain⟨xk5,xl30⟩:=Blk.k1 B2.out;have B3:=hqZ (Blk.next B0.out hf id);clear B0;obtain⟨xk12,xl31⟩:=Blk.k6 B3.out;have X2:=hqZ (Rep.carry X0.out (Fr.transN Fr.r hf));clear X0;have X0:=hqZ (Rep.carry X1.out (Fr.transN Fr.r hf));clear X1;clear hf;clear xk0 xk1 xk2 xk6))
     (go_wp2_with fail;refine(jM _ _ _ _ _).mono ?_;rintro e v6 ⟨rfl,hf⟩;(have xs19:=Fr.size hf;simp only[aa,ae,ad,af]at xs19;have T1:=hqZ (Fr.transN (T0.out.alloc _) hf);clear T0;have P1:=hqZ (PSt.new (PSt.over (w0:=w) P0.out (Fr.r.alloc _) ltp ltt) hf);clear P0;have B0:=hqZ (Blk.next (B4.out.alloc _) hf id);clear B4;obtain⟨xk0,xl32⟩:=Blk.k1 B0.out;have B4:=hqZ (Blk.next (B1.out.alloc _) hf id);clear B1;obtain⟨xk1,xl33⟩:=Blk.k1 B4.out;have B1:=hqZ (Blk.next (B2.out.alloc _) hf id);clear B2;obtain⟨xk2,xl34⟩:=Blk.k1 B1.out;have B2:=hqZ (Blk.next (B3.out.alloc _) hf id);clear B3;obtain⟨xk6,xl35⟩:=Blk.k6 B2.out;have B3:=hqZ (Blk.next (Blk.at_ _ _ _ (n:=v5.heap.size) rfl) hf id);obtain⟨xk18,xl36⟩:=Blk.k1 B3.out;have X1:=hqZ (Rep.carry X2.out (Fr.transN (Fr.r.alloc _) hf));clear X2;have X2:=hqZ (Rep.carry X0.out (Fr.transN (Fr.r.alloc _) hf));clear X0;clear hf;clear xk3 xk4 xk5 xk12))
     (go_wp2_with fail;refine(di _ _ _ _).mono ?_;rintro e v7 ⟨rfl,hf⟩;(have xs21:=Fr.size hf;simp only[aa,ae,ad,af]at xs21;have T0:=hqZ (Fr.transN (T1.out.set (.inr (by omega))) hf);clear T1;have P0:=hqZ (PSt.new (PSt.over (w0:=w) P1.out (Fr.r.set (.inl (by omega))) ltp ltt) hf);clear P1;have B5:=hqZ (Blk.next (Blk.far B0.out (by omega)) hf id);clear B0;obtain⟨xk3,xl37⟩:=Blk.k1 B5.out;have B0:=hqZ (Blk.next B4.out.s10 hf id);clear B4;obtain⟨xk4,xl38⟩:=Blk.k1 B0.out;have B4:=hqZ (Blk.next (Blk.far B1.out (by omega)) hf id);clear B1;obtain⟨xk5,xl39⟩:=Blk.k1 B4.out;have B1:=hqZ (Blk.next (Blk.far B2.out (by omega)) hf id);clear B2;obtain⟨xk12,xl40⟩:=Blk.k6 B1.out;have B2:=hqZ (Blk.next (Blk.far B3.out (by omega)) hf id);clear B3;obtain⟨xk19,xl41⟩:=Blk.k1 B2.out;have X0:=hqZ (Rep.carry X1.out (Fr.transN (Fr.r.set (.inl (by omega))) hf));clear X1;have X1:=hqZ (Rep.carry X2.out (Fr.transN (Fr.r.set (.inl (by omega))) hf));clear X2;clear hf;clear xk0 xk1 xk2 xk6 xk18))
     go_wp2
     go_roundg n
     case measure=>omega
     case rel =>
      exact⟨_,_,_,_,_,_,_,ER.out,by exact PSt.over (w0:=w) P0.out (Fr.r.set (.inl (by omega))) ltp ltt,by exact(T0.out.set (.inr (by omega))),.bin 5 _ _ _ _ _ rfl (by exact Rep.mono (h:=(Rep.carry X0.out (Fr.r.set (.inl (by omega))))) (hZ:=fun g _ hg=>by omega)) (.nam 13 _ _ _ _ rfl (by exact Rep.mono (h:=(Rep.carry X1.out (Fr.r.set (.inl (by omega))))) (hZ:=fun g _ hg=>by omega))),.nam 23 _ _ _ _ rfl (by exact Rep.mono (h:=(Rep.carry X1.out (Fr.r.set (.inl (by omega))))) (hZ:=fun g _ hg=>by omega)),by exact(Blk.far B5.out (by omega)),by exact(Blk.far B0.out (by omega)),by exact B4.out.s10⟩
theorem ij.call{f:FuncId}{P:Ex->List Tok->PR Ex}(h:ij f P){w:World}{pb tb:Nat}{ts:List Tok}(a b m:Nat){x:Ex}{t:TypeId}{u:Value}{r:PR Ex}(h1:PSt w pb tb ts)(h2:pb < a)(h3:b<=w.heap.size)(h4:Rep w (fun g=>a<=g/\g < b/\g ≠ m) x (.iface t u))(h5:P x ts ≠ .out)(e:P x ts=r) :
  Calls Tryz.prog f #[.pointer (some ⟨pb,0,none⟩),.agg #[.iface t u]] w (GotX pb tb a b m w r):=e ▸ h w pb tb ts a b m x t u h1 h2 h3 h4 h5
theorem is_does(E:List Tok->PR Ex)(hA:Does 184 (addP E)):ij 187 (isP E):=by
 intro w pb tb ts a b m x tx ux h hpa hb hx hne
 have hft:=aq
 have ltp:=h.lt
 have ltt:=h.lt2
 have P0:=hqZ h
 have T0:=hqZ (Fr.refl (· = pb) w)
 have HN:=hqZ hne
 have HA:=hqZ hA
 have X0:=hqZ hx
 clear h hne hA hx
 go_enter Tryz.func187,Tryz.ntmps187
 cases hr:dA ts with
 | out=>exact absurd (by rw[isP,hr];rfl) HN.out
 | bad =>
  (go_wp2_with fail;refine(got (GotS pb tb) (dv _ pb tb ts ?_ (by rw[hr];intro e;cases e)) hr).mono ?_;(all_goals try exact PSt.over (w0:=w) P0.out ((Fr.r.alloc _).alloc _) ltp ltt);rintro e w1 ⟨_,t,u,⟨s,rfl⟩,rfl,hf⟩;(have xs0:=Fr.size hf;simp only[aa,ae,ad,af]at xs0;have T1:=hqZ (Fr.trans ((T0.out.alloc _).alloc _) hf);clear T0;clear P0;have B0:=hqZ (Blk.next ((Blk.at_ _ _ _ (n:=w.heap.size) rfl).alloc _) hf (by show ¬ _;omega));obtain⟨xk0,xl0⟩:=Blk.k1 B0.out;have B1:=hqZ (Blk.next (Blk.at_ _ _ _ (n:=w.heap.size+1) (by simp only[aa,ae,ad,af])) hf (by show ¬ _;omega));obtain⟨xk1,xl1⟩:=Blk.k1 B1.out;have X1:=hqZ (Rep.carry X0.out (Fr.trans' ((Fr.r.alloc _).alloc _) hf (fun k _ hs=>by omega)));clear X0;clear hf))
  go_wp2
  refine bodyPost_ret (v:=(.tuple #[.agg #[.nilIface],.iface t u])) (by simp only[results,Tryz.results187];go_simp) rfl ?_
  rw[show isP E x ts = .bad from by rw[isP,hr];rfl]
  exact⟨t,u,rfl,by exact(T1.out.set (.inr (by omega)))⟩
 | ok s ts1 =>
  (go_wp2_with fail;refine(got (GotS pb tb) (dv _ pb tb ts ?_ (by rw[hr];intro e;cases e)) hr).mono ?_;(all_goals try exact PSt.over (w0:=w) P0.out ((Fr.r.alloc _).alloc _) ltp ltt);rintro e w1 ⟨rfl,hp,hf⟩;(have xs0:=Fr.size hf;simp only[aa,ae,ad,af]at xs0;have T1:=hqZ (Fr.trans ((T0.out.alloc _).alloc _) hf);clear T0;clear P0;have B0:=hqZ (Blk.next ((Blk.at_ _ _ _ (n:=w.heap.size) rfl).alloc _) hf (by show ¬ _;omega));obtain⟨xk0,xl0⟩:=Blk.k1 B0.out;have B1:=hqZ (Blk.next (Blk.at_ _ _ _ (n:=w.heap.size+1) (by simp only[aa,ae,ad,af])) hf (by show ¬ _;omega));obtain⟨xk1,xl1⟩:=Blk.k1 B1.out;have X1:=hqZ (Rep.carry X0.out (Fr.trans' ((Fr.r.alloc _).alloc _) hf (fun k _ hs=>by omega)));clear X0;have P0:=hqZ hp;clear hp;clear hf))
  have E0:=hqZ (show isP E x ts=if(hd ts1).is [105,110]then(addP E (adv ts1)).bind fun y ts2=>.ok (.named 17 s [x,y]) ts2 else .ok (.named 16 s [x]) ts1 from by rw[isP,hr];rfl)
  (go_wp2_with fail;refine(ay _ pb tb ts1 ?_).mono ?_;(all_goals try exact P0.out);rintro e w2 ⟨⟨o1,l1,c1,rfl⟩,hf⟩;(have xs2:=Fr.size hf;have T0:=hqZ (Fr.transN T1.out hf);clear T1;have P1:=hqZ (PSt.new (P0.out) hf);clear P0;have B2:=hqZ (Blk.next B0.out hf id);clear B0;obtain⟨xk2,xl2⟩:=Blk.k1 B2.out;have B0:=hqZ (Blk.next B1.out hf id);clear B1;obtain⟨xk3,xl3⟩:=Blk.k1 B0.out;have X0:=hqZ (Rep.carry X1.out (Fr.transN Fr.r hf));clear X1;clear hf;clear xk0 xk1))
  cases hq:((hd ts1).text.toList == [105,110])
  ·(go_wp2_with fail;refine(qR _ _ _ _).mono ?_;rintro e w3 ⟨rfl,hf⟩;(have xs4:=Fr.size hf;have T1:=hqZ (Fr.transN T0.out hf);clear T0;have P0:=hqZ (PSt.new (P1.out) hf);clear P1;have B1:=hqZ (Blk.next B2.out hf id);clear B2;obtain⟨xk0,xl4⟩:=Blk.k1 B1.out;have B2:=hqZ (Blk.next B0.out hf id);clear B0;obtain⟨xk1,xl5⟩:=Blk.k1 B2.out;have X1:=hqZ (Rep.carry X0.out (Fr.transN Fr.r hf));clear X0;clear hf;clear xk2 xk3))
   go_wp2
   refine bodyPost_ret (v:=(.tuple #[.agg #[.iface 188 (.agg #[.iface tx ux,.string s])],.nilIface])) (by simp only[results,Tryz.results187];go_simp) rfl ?_
   rw[E0.out,if_neg (by simp[Tok.is,hq])]
   exact⟨_,_,rfl,.nam 16 _ _ _ _ rfl (by exact Rep.mono (h:=(Rep.carry X1.out (Fr.r.set (.inl (by omega))))) (hZ:=fun g _ hg=>by omega)),by exact PSt.over (w0:=w) P0.out (Fr.r.set (.inl (by omega))) ltp ltt,by exact(T1.out.set (.inr (by omega)))⟩
  .have E1:=hqZ (show isP E x ts=(addP E (adv ts1)).bind fun y ts2=>.ok (.named 17 s [x,y]) ts2 from by rw[E0.out,if_pos (by simp[Tok.is,hq])])
   (go_wp2_with fail;refine(ag _ pb tb ts1 ?_).mono ?_;(all_goals try exact P1.out);rintro e w3 ⟨⟨o2,l2,c2,rfl⟩,hp,hf⟩;(have xs4:=Fr.size hf;have T1:=hqZ (Fr.trans T0.out hf);clear T0;clear P1;have B1:=hqZ (Blk.next B2.out hf (by show ¬ _;omega));clear B2;obtain⟨xk0,xl4⟩:=Blk.k1 B1.out;have B2:=hqZ (Blk.next B0.out hf (by show ¬ _;omega));clear B0;obtain⟨xk1,xl5⟩:=Blk.k1 B2.out;have X1:=hqZ (Rep.carry X0.out (Fr.trans' Fr.r hf (fun k _ hs=>by omega)));clear X0;have P0:=hqZ hp;clear hp;clear hf;clear xk2 xk3))
   cases hr2:addP E (adv ts1)with
   | out=>exact absurd (by rw[E1.out,hr2];rfl) HN.out
   | bad =>
    (go_wp2_with fail;refine(HA.out.bad (tb:=tb) ?_ hr2).mono ?_;(all_goals try exact P0.out);rintro e w4 ⟨t,u,rfl,hf⟩;(have xs6:=Fr.size hf;have T0:=hqZ (Fr.trans T1.out hf);clear T1;clear P0;have B0:=hqZ (Blk.next B1.out hf (by show ¬ _;omega));clear B1;obtain⟨xk2,xl6⟩:=Blk.k1 B0.out;have B1:=hqZ (Blk.next B2.out hf (by show ¬ _;omega));clear B2;obtain⟨xk3,xl7⟩:=Blk.k1 B1.out;have X0:=hqZ (Rep.carry X1.out (Fr.trans' Fr.r hf (fun k _ hs=>by omega)));clear X1;clear hf;clear xk0 xk1))
    go_wp2
    refine bodyPost_ret (v:=(.tuple #[.agg #[.nilIface],.iface t u])) (by simp only[results,Tryz.results187];go_simp) rfl ?_
    rw[E1.out,hr2]
    exact⟨t,u,rfl,by exact((T0.out.set (.inr (by omega))).alloc _)⟩
   | ok y ts2 =>
    (go_wp2_with fail;refine(HA.out.ok (tb:=tb) ?_ hr2).mono ?_;(all_goals try exact P0.out);rintro e w4 ⟨t,u,rfl,hy,hp,hf⟩;(have xs6:=Fr.size hf;have T0:=hqZ (Fr.trans T1.out hf);clear T1;clear P0;have B0:=hqZ (Blk.next B1.out hf (by show ¬ _;omega));clear B1;obtain⟨xk2,xl6⟩:=Blk.k1 B0.out;have B1:=hqZ (Blk.next B2.out hf (by show ¬ _;omega));clear B2;obtain⟨xk3,xl7⟩:=Blk.k1 B1.out;have X0:=hqZ (Rep.carry X1.out (Fr.trans' Fr.r hf (fun k _ hs=>by omega)));clear X1;have X1:=hqZ (Rep.mono (Z':=fun g=>w3.heap.size<=g/\g < w4.heap.size) (hZ:=fun g h1 h2=>⟨h2,h1⟩) (h:=hy));clear hy;have P0:=hqZ hp;clear hp;clear hf;clear xk0 xk1))
    (go_wp2_with fail;refine(nF _ _ _ _ _ _).mono ?_;rintro e w5 ⟨rfl,hf⟩;(have xs8:=Fr.size hf;simp only[aa,ae,ad,af]at xs8;have T1:=hqZ (Fr.transN (T0.out.alloc _) hf);clear T0;have P1:=hqZ (PSt.new (PSt.over (w0:=w) P0.out (Fr.r.alloc _) ltp ltt) hf);clear P0;have B2:=hqZ (Blk.next (B0.out.alloc _) hf id);clear B0;obtain⟨xk0,xl8⟩:=Blk.k1 B2.out;have B0:=hqZ (Blk.next (B1.out.alloc _) hf id);clear B1;obtain⟨xk1,xl9⟩:=Blk.k1 B0.out;have B1:=hqZ (Blk.next (Blk.at_ _ _ _ (n:=w4.heap.size) rfl) hf id);obtain⟨xk4,xl10⟩:=Blk.k1 B1.out;have X2:=hqZ (Rep.carry X0.out (Fr.transN (Fr.r.alloc _) hf));clear X0;have X0:=hqZ (Rep.carry X1.out (Fr.transN (Fr.r.alloc _) hf));clear X1;clear hf;clear xk2 xk3))
    go_wp2
    refine bodyPost_ret (v:=(.tuple #[.agg #[.iface 190 (.agg #[.iface tx ux,.string s,.iface t u])],.nilIface])) (by simp only[results,Tryz.results187];go_simp) rfl ?_
    rw[E1.out,hr2]
    exact⟨_,_,rfl,.isIn _ _ _ _ _ (by exact Rep.mono (h:=(Rep.carry X2.out (Fr.r.set (.inl (by omega))))) (hZ:=fun g _ hg=>by omega)) (by exact Rep.mono (h:=(Rep.carry X0.out (Fr.r.set (.inl (by omega))))) (hZ:=fun g _ hg=>by omega)),by exact PSt.over (w0:=w) P1.out (Fr.r.set (.inl (by omega))) ltp ltt,by exact(T1.out.set (.inr (by omega)))⟩
end Go.Proofs.YtbdhlpeckennjaaGreatDoor
