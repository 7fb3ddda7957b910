/- FnLong (the proof that the law returns true for every input), part 10 of 52; the last part says what is proved, and its condition. -/
import Derived.Test.YtbdhlpeckennjaaGreatDoorM06
set_option linter.unusedVariables false
set_option linter.unusedSimpArgs false
set_option maxHeartbeats 80000000
set_option maxRecDepth 1000000
namespace Go.Proofs.YtbdhlpeckennjaaGreatDoor
open Go Go.RowKit
def GotA (pb tb a b m:Nat)(w:World)(r:PR (Ex ⊕ Ex))(e:Ending)(w':World):Prop :=
 match r with
 | .ok (.inl x) ts=>∃ (t:TypeId) (u:Value),e = .returned (.tuple #[.agg #[.iface t u],.bool true,.nilIface])/\Rep w' (fun g=>(a<=g/\g < b/\g ≠ m)\/w.heap.size<=g) x (.iface t u)/\PSt w' pb tb ts/\Fr (· = pb) w w'
 | .ok (.inr x) ts=>∃ (t:TypeId) (u:Value),e = .returned (.tuple #[.agg #[.iface t u],.bool false,.nilIface])/\Rep w' (fun g=>(a<=g/\g < b/\g ≠ m)\/w.heap.size<=g) x (.iface t u)/\PSt w' pb tb ts/\Fr (· = pb) w w'
 | .bad=>∃ (t:TypeId) (u:Value),e = .returned (.tuple #[.agg #[.nilIface],.bool false,.iface t u])/\Fr (· = pb) w w'
 | .out=>True
def pG (f:FuncId)(P:Ex->List Tok->PR (Ex ⊕ Ex)):Prop :=
 ∀ (w:World) (pb tb:Nat) (ts:List Tok) (a b m:Nat) (x:Ex) (t:TypeId) (u:Value),PSt w pb tb ts->pb < a->b<=w.heap.size->Rep w (fun g=>a<=g/\g < b/\g ≠ m) x (.iface t u)->P x ts ≠ .out ->
  Calls Tryz.prog f #[.pointer (some ⟨pb,0,none⟩),.agg #[.iface t u]] w (GotA pb tb a b m w (P x ts))
theorem pG.call{f:FuncId}{P:Ex->List Tok->PR (Ex ⊕ Ex)}(h:pG f P){w:World}{pb tb:Nat}{ts:List Tok}(a b m:Nat){x:Ex}{t:TypeId}{u:Value}{r:PR (Ex ⊕ Ex)}(h1:PSt w pb tb ts)(h2:pb < a)(h3:b<=w.heap.size)(h4:Rep w (fun g=>a<=g/\g < b/\g ≠ m) x (.iface t u))(h5:P x ts ≠ .out)(e:P x ts=r) :
  Calls Tryz.prog f #[.pointer (some ⟨pb,0,none⟩),.agg #[.iface t u]] w (GotA pb tb a b m w r):=e ▸ h w pb tb ts a b m x t u h1 h2 h3 h4 h5
theorem mQ(E:List Tok->PR Ex)(hP:Does 216 (ap E))(hA:pG 217 (aC E)):Does 210 (br E):=by
 intro w pb tb ts h hne
 have hft:=aq
 have ltp:=h.lt
 have ltt:=h.lt2
 have ll:=h.len
 have P0:=hqZ h
 have T0:=hqZ (Fr.refl (· = pb) w)
 have HN:=hqZ hne
 have HP:=hqZ hP
 have HA:=hqZ hA
 clear h hne hP hA
 go_enter Tryz.func210,Tryz.ntmps210
 cases hr:ap E ts with
 | out=>exact absurd (by rw[br,hr];rfl) HN.out
 | bad =>
  (go_wp2_with fail;refine(HP.out.bad (tb:=tb) ?_ hr).mono ?_;(all_goals try exact PSt.over (w0:=w) P0.out (Fr.r.alloc _) ltp ltt);rintro e w1 ⟨t,u,rfl,hf⟩;(have xs0:=Fr.size hf;simp only[aa,ae,ad,af]at xs0;have T1:=hqZ (Fr.trans (T0.out.alloc _) hf);clear T0;clear P0;have B0:=hqZ (Blk.next (Blk.at_ _ _ _ (n:=w.heap.size) rfl) hf (by show ¬ _;omega));obtain⟨xk0,xl0⟩:=Blk.k1 B0.out;clear hf))
  go_wp2
  try go_region
  all_goals
   try go_wp2
   refine bodyPost_ret (v:=(.tuple #[.agg #[.nilIface],.iface t u])) (by simp only[results,Tryz.results210];go_simp) rfl ?_
   rw[show br E ts = .bad from by rw[br,hr];rfl]
   exact⟨t,u,rfl,by exact((T1.out.set (.inr (Nat.le_refl _))).alloc _)⟩
 | ok x ts1 =>
  have E0:=hqZ (show br E ts=aj (aC E) x ts1 from by rw[br,hr];rfl)
  (go_wp2_with fail;refine(HP.out.ok (tb:=tb) ?_ hr).mono ?_;(all_goals try exact PSt.over (w0:=w) P0.out (Fr.r.alloc _) ltp ltt);rintro e w1 ⟨t1,u1,rfl,hx,hp,hf⟩;(have xs0:=Fr.size hf;simp only[aa,ae,ad,af]at xs0;have T1:=hqZ (Fr.trans (T0.out.alloc _) hf);clear T0;clear P0;have B0:=hqZ (Blk.next (Blk.at_ _ _ _ (n:=w.heap.size) rfl) hf (by show ¬ _;omega));obtain⟨xk0,xl0⟩:=Blk.k1 B0.out;have X0:=hqZ (Rep.mono (Z':=fun g=>w.heap.size+1<=g/\g < w1.heap.size) (hZ:=fun g h1 h2=>by simp only[aa,ae,ad,af]at h2;omega) (h:=hx));clear hx;have P0:=hqZ hp;clear hp;clear hf))
  clear hr
  go_wp2_with fail
  go_loopg [] (ts1.length+1) (fun k wr=>∃ (x':Ex) (t':TypeId) (u':Value) (ts':List Tok),
   ai (aC E) k x' ts'=br E ts/\PSt wr pb tb ts'/\Fr (· = pb) w wr/\Rep wr (fun g=>w.heap.size < g/\g ≠ w1.heap.size) x' (.iface t' u') /\
   Blk wr w.heap.size #[.nilIface] 246/\Blk wr w1.heap.size #[.iface t' u'] 246)
  case atStart=>exact⟨x,t1,u1,ts1,by rw[E0.out];rfl,by exact PSt.over (w0:=w) P0.out (Fr.r.alloc _) ltp ltt,by exact(T1.out.alloc _),by exact Rep.mono (h:=(Rep.carry X0.out (Fr.r.alloc _))) (hZ:=fun g _ hg=>by omega),by exact(B0.out.alloc _),by exact(Blk.at_ _ _ _ (n:=w1.heap.size) rfl)⟩
  case round =>
   obtain⟨x',t',u',ts',e1,hp,hf,hx1,hb1,hb2⟩:=hrel
   (clear T1;clear P0;clear B0;clear X0;clear xk0;have H0:=hqZ hf;have xs2:=Fr.size H0.out;clear hf;have H1:=hqZ hp;clear hp;have H2:=hqZ hb1;obtain⟨xk0,xl1⟩:=Blk.k1 H2.out;clear hb1;have H3:=hqZ hb2;obtain⟨xk1,xl2⟩:=Blk.k1 H3.out;clear hb2;have H4:=hqZ (Rep.mono (Z':=fun g=>(w.heap.size < g/\g ≠ w1.heap.size)/\g < wr.heap.size) (hZ:=fun g h1 h2=>⟨h2,h1⟩) (h:=hx1));clear hx1)
   have E1:=hqZ e1
   clear e1
   obtain⟨n,rfl⟩:∃ n,gk=n+1:=by
    cases gk with
    | zero=>exact absurd E1.out.symm HN.out
    | succ n=>exact⟨n,rfl⟩
   cases hs:aC E x' ts' with
   | out=>exact absurd (by rw[<- E1.out,ai,hs];rfl) HN.out
   | bad =>
    (go_wp2_with fail;refine(HA.out.call (tb:=tb) (w.heap.size+1) wr.heap.size w1.heap.size ?_ (by omega) (by first|omega|(simp only[aa,ae,af];omega)) (by exact Rep.mono (h:=H4.out) (hZ:=fun g _ hg=>by omega)) (by rw[hs];intro e;cases e) hs).mono ?_;(all_goals try exact H1.out);rintro e v1 ⟨t,u,rfl,hf⟩;(have xs3:=Fr.size hf;have T0:=hqZ (Fr.trans H0.out hf);clear H0;clear H1;have B0:=hqZ (Blk.next H2.out hf (by show ¬ _;omega));clear H2;obtain⟨xk2,xl3⟩:=Blk.k1 B0.out;have B1:=hqZ (Blk.next H3.out hf (by show ¬ _;omega));clear H3;obtain⟨xk3,xl4⟩:=Blk.k1 B1.out;have X0:=hqZ (Rep.carry H4.out (Fr.trans' Fr.r hf (fun k _ hs=>by omega)));clear H4;clear hf;clear xk0 xk1))
    go_wp2
    try go_region
    all_goals
     try go_wp2
     refine bodyPost_ret (v:=(.tuple #[.agg #[.nilIface],.iface t u])) (by simp only[results,Tryz.results210];go_simp) rfl ?_
     rw[show br E ts = .bad from by rw[<- E1.out,ai,hs];rfl]
     exact⟨t,u,rfl,by exact((T0.out.set (.inr (by omega))).set (.inr (Nat.le_refl _)))⟩
   | ok r ts2 =>
    cases r with
    | inl y =>
     have E2:=hqZ (show ai (aC E) n y ts2=br E ts from by rw[<- E1.out,ai,hs];rfl)
     (go_wp2_with fail;refine(HA.out.call (tb:=tb) (w.heap.size+1) wr.heap.size w1.heap.size ?_ (by omega) (by first|omega|(simp only[aa,ae,af];omega)) (by exact Rep.mono (h:=H4.out) (hZ:=fun g _ hg=>by omega)) (by rw[hs];intro e;cases e) hs).mono ?_;(all_goals try exact H1.out);rintro e v1 ⟨t,u,rfl,hy,hp,hf⟩;(have xs3:=Fr.size hf;have T0:=hqZ (Fr.trans H0.out hf);clear H0;clear H1;have B0:=hqZ (Blk.next H2.out hf (by show ¬ _;omega));clear H2;obtain⟨xk2,xl3⟩:=Blk.k1 B0.out;have B1:=hqZ (Blk.next H3.out hf (by show ¬ _;omega));clear H3;obtain⟨xk3,xl4⟩:=Blk.k1 B1.out;have X0:=hqZ (Rep.carry H4.out (Fr.trans' Fr.r hf (fun k _ hs=>by omega)));clear H4;have X1:=hqZ (Rep.mono (Z':=fun g=>(w.heap.size+1<=g/\g < wr.heap.size/\g ≠ w1.heap.size\/wr.heap.size<=g)/\g < v1.heap.size) (hZ:=fun g h1 h2=>⟨h2,h1⟩) (h:=hy));clear hy;have P0:=hqZ hp;clear hp;clear hf;clear xk0 xk1))
     go_wp2
     go_roundg n
     case measure=>omega
     case rel=>exact⟨_,_,_,_,E2.out,by exact PSt.over (w0:=w) P0.out (Fr.r.set (.inl (by omega))) ltp ltt,by exact(T0.out.set (.inr (by omega))),by exact Rep.mono (h:=(Rep.carry X1.out (Fr.r.set (.inl (by omega))))) (hZ:=fun g _ hg=>by omega),by exact(Blk.far B0.out (by omega)),by exact B1.out.s10⟩
    | inr y =>
     have E2:=hqZ (show br E ts = .ok y ts2 from by rw[<- E1.out,ai,hs];rfl)
     (go_wp2_with fail;refine(HA.out.call (tb:=tb) (w.heap.size+1) wr.heap.size w1.heap.size ?_ (by omega) (by first|omega|(simp only[aa,ae,af];omega)) (by exact Rep.mono (h:=H4.out) (hZ:=fun g _ hg=>by omega)) (by rw[hs];intro e;cases e) hs).mono ?_;(all_goals try exact H1.out);rintro e v1 ⟨t,u,rfl,hy,hp,hf⟩;(have xs3:=Fr.size hf;have T0:=hqZ (Fr.trans H0.out hf);clear H0;clear H1;have B0:=hqZ (Blk.next H2.out hf (by show ¬ _;omega));clear H2;obtain⟨xk2,xl3⟩:=Blk.k1 B0.out;have B1:=hqZ (Blk.next H3.out hf (by show ¬ _;omega));clear H3;obtain⟨xk3,xl4⟩:=Blk.k1 B1.out;have X0:=hqZ (Rep.carry H4.out (Fr.trans' Fr.r hf (fun k _ hs=>by omega)));clear H4;have X1:=hqZ (Rep.mono (Z':=fun g=>(w.heap.size+1<=g/\g < wr.heap.size/\g ≠ w1.heap.size\/wr.heap.size<=g)/\g < v1.heap.size) (hZ:=fun g h1 h2=>⟨h2,h1⟩) (h:=hy));clear hy;have P0:=hqZ hp;clear hp;clear hf;clear xk0 xk1))
     go_wp2
     try go_region
     all_goals
      try go_wp2
      refine bodyPost_ret (v:=(.tuple #[.agg #[.iface t u],.nilIface])) (by simp only[results,Tryz.results210];go_simp) rfl ?_
      rw[E2.out]
      exact⟨t,u,rfl,by exact Rep.mono (h:=(Rep.carry X1.out ((Fr.r.set (.inl (by omega))).set (.inl (by omega))))) (hZ:=fun g _ hg=>by omega),by exact PSt.over (w0:=w) P0.out ((Fr.r.set (.inl (by omega))).set (.inl (by omega))) ltp ltt,by exact((T0.out.set (.inr (by omega))).set (.inr (Nat.le_refl _)))⟩
end Go.Proofs.YtbdhlpeckennjaaGreatDoor
