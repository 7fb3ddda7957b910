/- FnLong (the proof that the law returns true for every input), part 9 of 52; the last part says what is proved, and its condition. -/
import Derived.Test.YtbdhlpeckennjaaGreatDoorM08
set_option linter.unusedVariables false
set_option linter.unusedSimpArgs false
set_option maxHeartbeats 80000000
set_option maxRecDepth 1000000
namespace Go.Proofs.YtbdhlpeckennjaaGreatDoor
open Go Go.RowKit
def dQ (neg:Bool)(t:ByteArray):Option Int:=match Lib.parseIntB 64 (if neg then 45::t.data.toList else t.data.toList)with | .ok n=>some n|_=>none
theorem mT(neg:Bool)(t:ByteArray)(ts:List Tok):ec neg t ts=bw (dQ neg t) fun n=>.ok (.lit (.long n)) ts:=by
 unfold ec dQ
 cases Lib.parseIntB 64 (if neg then 45::t.data.toList else t.data.toList) <;> rfl
def IV (w:World)(r:Option Int)(e:Ending)(w':World):Prop :=
 match r with
 | some n=>e = .returned (.tuple #[.int .i64 n,.nilIface])/\New w w'
 | none=>∃ (x:Int) (t:TypeId) (u:Value),e = .returned (.tuple #[.int .i64 x,.iface t u])/\New w w'
def pi:Prop:=∀ (w:World) (k o l c:Int) (f s:ByteArray),s.size<=1000000->Glob w ->
 Calls Tryz.prog 223 #[.agg #[.int .i64 k,.string f,.int .i64 o,.int .i64 l,.int .i64 c,.string s]] w (IV w (dQ false s))
theorem iv{p:Program}{f:FuncId}{a:Array Value}{w:World}{r r':Option Int}(h:Calls p f a w (IV w r))(e:r=r'):Calls p f a w (IV w r'):=e ▸ h
def SetC:Prop:=∀ (w:World) (Z:Nat->Prop) (v:Value) (l:List Ex) (vs:List Value),Row w Z v l.length 1 vs->RepL w Z l vs ->
 Calls Tryz.prog 233 #[v] w fun e w'=>∃ sv,e = .returned (.agg #[.iface 202 (.agg #[sv])])/\Row w' (w.heap.size <= ·) sv l.length 1 vs/\New w w'
theorem li(hSV:cC)(hIV:pi)(hSC:SetC)(E:List Tok->PR Ex)(hE:Does 135 E)(hR:Does 234 (bE E))
  (hF:∀ (w:World) (pb tb:Nat) (ts:List Tok) (s:ByteArray),PSt w pb tb ts->s.size<=1000000->aj (aR E) s ts ≠ .out->Calls Tryz.prog 227 #[.pointer (some ⟨pb,0,none⟩),.string s] w (GotN pb tb w (aj (aR E) s ts))):Does 216 (ap E):=by
 intro w pb tb ts h hne
 have hft:=aq
 have ltp:=h.lt
 have ltt:=h.lt2
 have P0:=hqZ h
 have T0:=hqZ (Fr.refl (· = pb) w)
 have HN:=hqZ hne
 have HE:=hqZ hE
 have HS:=hqZ hSV
 have HI:=hqZ hIV
 have HC:=hqZ hSC
 have HR:=hqZ hR
 have HF:=hqZ hF
 clear h hne hE hSV hIV hSC hR hF
 go_enter Tryz.func216,Tryz.ntmps216
 have hz1:=PSt.fine P0.out |>.hd
 (go_wp2_with fail;refine(ag _ pb tb ts ?_).mono ?_;(all_goals try exact PSt.over (w0:=w) P0.out ((Fr.r.alloc _).alloc _) ltp ltt);rintro e w1 ⟨⟨o,l,c,rfl⟩,hp,hf⟩;(have xs0:=Fr.size hf;simp only[aa,ae,ad,af]at xs0;have T1:=hqZ (Fr.trans ((T0.out.alloc _).alloc _) hf);clear T0;clear P0;have B0:=hqZ (Blk.next ((Blk.at_ _ _ _ (n:=w.heap.size) rfl).alloc _) hf (by show ¬ _;omega));obtain⟨xk0,xl0⟩:=Blk.k1 B0.out;have B1:=hqZ (Blk.next (Blk.at_ _ _ _ (n:=w.heap.size+1) (by simp only[aa,ae,ad,af])) hf (by show ¬ _;omega));obtain⟨xk1,xl1⟩:=Blk.k1 B1.out;have P0:=hqZ hp;clear hp;clear hf))
 cases k2:(((hd ts).kind:Int) == 2)
 case true =>
  have k2':(hd ts).kind=2:=by simp at k2;omega
  have E0:=hqZ (show ap E ts=bw (dQ false (hd ts).text) fun n=>.ok (.lit (.long n)) (adv ts)from by rw[<- mT];simp[ap,k2'])
  (go_wp2_with fail;refine(ft _ _ _ _ _ _ _).mono ?_;rintro e w2 ⟨rfl,hf⟩;(have xs2:=Fr.size hf;simp only[aa,ae,ad,af]at xs2;have T0:=hqZ (Fr.transN (T1.out.alloc _) hf);clear T1;have P1:=hqZ (PSt.new (PSt.over (w0:=w) P0.out (Fr.r.alloc _) ltp ltt) hf);clear P0;have B2:=hqZ (Blk.next (B0.out.alloc _) hf id);clear B0;obtain⟨xk2,xl2⟩:=Blk.k1 B2.out;have B0:=hqZ (Blk.next (B1.out.alloc _) hf id);clear B1;obtain⟨xk3,xl3⟩:=Blk.k1 B0.out;have B1:=hqZ (Blk.next (Blk.at_ _ _ _ (n:=w1.heap.size) rfl) hf id);obtain⟨xk4,xl4⟩:=Blk.k6 B1.out;clear hf;clear xk0 xk1))
  cases hv:dQ false (hd ts).text with
  | none =>
   have ER:=hqZ (show ap E ts = .bad from by rw[E0.out,hv];rfl)
   (go_wp2_with fail;refine(iv (HI.out _ _ _ _ _ _ _ hz1 (by exact(PSt.glob (P1.out)).1)) hv).mono ?_;rintro e w3 ⟨x,t,u,rfl,hf⟩;(have xs4:=Fr.size hf;have T1:=hqZ (Fr.transN T0.out hf);clear T0;have P0:=hqZ (PSt.new (P1.out) hf);clear P1;have B3:=hqZ (Blk.next B2.out hf id);clear B2;obtain⟨xk0,xl5⟩:=Blk.k1 B3.out;have B2:=hqZ (Blk.next B0.out hf id);clear B0;obtain⟨xk1,xl6⟩:=Blk.k1 B2.out;have B0:=hqZ (Blk.next B1.out hf id);clear B1;obtain⟨xk10,xl7⟩:=Blk.k6 B0.out;clear hf;clear xk2 xk3 xk4))
   go_wp2
   try go_region
   all_goals
    try go_wp2
    refine bodyPost_ret (v:=(.tuple #[.agg #[.nilIface],.iface t u])) (by simp only[results,Tryz.results216];go_simp) rfl ?_
    rw[ER.out]
    exact⟨t,u,rfl,by exact(T1.out.set (.inr (Nat.le_refl _)))⟩
  | some n =>
   have ER:=hqZ (show ap E ts = .ok (.lit (.long n)) (adv ts)from by rw[E0.out,hv];rfl)
   (go_wp2_with fail;refine(iv (HI.out _ _ _ _ _ _ _ hz1 (by exact(PSt.glob (P1.out)).1)) hv).mono ?_;rintro e w3 ⟨rfl,hf⟩;(have xs4:=Fr.size hf;have T1:=hqZ (Fr.transN T0.out hf);clear T0;have P0:=hqZ (PSt.new (P1.out) hf);clear P1;have B3:=hqZ (Blk.next B2.out hf id);clear B2;obtain⟨xk0,xl5⟩:=Blk.k1 B3.out;have B2:=hqZ (Blk.next B0.out hf id);clear B0;obtain⟨xk1,xl6⟩:=Blk.k1 B2.out;have B0:=hqZ (Blk.next B1.out hf id);clear B1;obtain⟨xk10,xl7⟩:=Blk.k6 B0.out;clear hf;clear xk2 xk3 xk4))
   (go_wp2_with fail;refine(ie _ _).mono ?_;rintro e w4 ⟨rfl,hf⟩;(have xs6:=Fr.size hf;have T0:=hqZ (Fr.transN T1.out hf);clear T1;have P1:=hqZ (PSt.new (P0.out) hf);clear P0;have B1:=hqZ (Blk.next B3.out hf id);clear B3;obtain⟨xk2,xl8⟩:=Blk.k1 B1.out;have B3:=hqZ (Blk.next B2.out hf id);clear B2;obtain⟨xk3,xl9⟩:=Blk.k1 B3.out;have B2:=hqZ (Blk.next B0.out hf id);clear B0;obtain⟨xk4,xl10⟩:=Blk.k6 B2.out;clear hf;clear xk0 xk1 xk10))
   go_wp2
   try go_region
   all_goals
    try go_wp2
    refine bodyPost_ret (v:=(.tuple #[.agg #[.iface 168 (.agg #[.iface 251 (.int .i64 n)])],.nilIface])) (by simp only[results,Tryz.results216];go_simp) rfl ?_
    rw[ER.out]
    exact⟨_,_,rfl,.lit _ _ rfl,by exact PSt.over (w0:=w) P1.out ((Fr.r.set (.inl (by omega))).set (.inl (by omega))) ltp ltt,by exact((T0.out.set (.inr (by omega))).set (.inr (Nat.le_refl _)))⟩
 have k2':¬ (hd ts).kind=2:=by simp at k2;omega
 (go_wp2_with fail;refine(ft _ _ _ _ _ _ _).mono ?_;rintro e w2 ⟨rfl,hf⟩;(have xs2:=Fr.size hf;simp only[aa,ae,ad,af]at xs2;have T0:=hqZ (Fr.transN (T1.out.alloc _) hf);clear T1;have P1:=hqZ (PSt.new (PSt.over (w0:=w) P0.out (Fr.r.alloc _) ltp ltt) hf);clear P0;have B2:=hqZ (Blk.next (B0.out.alloc _) hf id);clear B0;obtain⟨xk2,xl2⟩:=Blk.k1 B2.out;have B0:=hqZ (Blk.next (B1.out.alloc _) hf id);clear B1;obtain⟨xk3,xl3⟩:=Blk.k1 B0.out;have B1:=hqZ (Blk.next (Blk.at_ _ _ _ (n:=w1.heap.size) rfl) hf id);obtain⟨xk4,xl4⟩:=Blk.k6 B1.out;clear hf;clear xk0 xk1))
 cases k4:(((hd ts).kind:Int) == 4)
 case true =>
  have k4':(hd ts).kind=4:=by simp at k4;omega
  have E0:=hqZ (show ap E ts=bw (aX (hd ts).text) fun s=>.ok (.lit (.str s)) (adv ts)from by simp[ap,k4'])
  (go_wp2_with fail;refine(aG _ _ _ _ _ _ _).mono ?_;rintro e w3 ⟨rfl,hf⟩;(have xs4:=Fr.size hf;have T1:=hqZ (Fr.transN T0.out hf);clear T0;have P0:=hqZ (PSt.new (P1.out) hf);clear P1;have B3:=hqZ (Blk.next B2.out hf id);clear B2;obtain⟨xk0,xl5⟩:=Blk.k1 B3.out;have B2:=hqZ (Blk.next B0.out hf id);clear B0;obtain⟨xk1,xl6⟩:=Blk.k1 B2.out;have B0:=hqZ (Blk.next B1.out hf id);clear B1;obtain⟨xk10,xl7⟩:=Blk.k6 B0.out;clear hf;clear xk2 xk3 xk4))
  cases hv:aX (hd ts).text with
  | none =>
   have ER:=hqZ (show ap E ts = .bad from by rw[E0.out,hv];rfl)
   (go_wp2_with fail;refine(sv (HS.out _ _ _ _ _ _ _ hz1 (by exact(PSt.glob (P0.out)).1)) hv).mono ?_;rintro e w4 ⟨x,t,u,rfl,hf⟩;(have xs6:=Fr.size hf;have T0:=hqZ (Fr.transN T1.out hf);clear T1;have P1:=hqZ (PSt.new (P0.out) hf);clear P0;have B1:=hqZ (Blk.next B3.out hf id);clear B3;obtain⟨xk2,xl8⟩:=Blk.k1 B1.out;have B3:=hqZ (Blk.next B2.out hf id);clear B2;obtain⟨xk3,xl9⟩:=Blk.k1 B3.out;have B2:=hqZ (Blk.next B0.out hf id);clear B0;obtain⟨xk4,xl10⟩:=Blk.k6 B2.out;clear hf;clear xk0 xk1 xk10))
   go_wp2
   try go_region
   all_goals
    try go_wp2
    refine bodyPost_ret (v:=(.tuple #[.agg #[.nilIface],.iface t u])) (by simp only[results,Tryz.results216];go_simp) rfl ?_
    rw[ER.out]
    exact⟨t,u,rfl,by exact(T0.out.set (.inr (Nat.le_refl _)))⟩
  | some s =>
   have ER:=hqZ (show ap E ts = .ok (.lit (.str s)) (adv ts)from by rw[E0.out,hv];rfl)
   (go_wp2_with fail;refine(sv (HS.out _ _ _ _ _ _ _ hz1 (by exact(PSt.glob (P0.out)).1)) hv).mono ?_;rintro e w4 ⟨rfl,hf⟩;(have xs6:=Fr.size hf;have T0:=hqZ (Fr.transN T1.out hf);clear T1;have P1:=hqZ (PSt.new (P0.out) hf);clear P0;have B1:=hqZ (Blk.next B3.out hf id);clear B3;obtain⟨xk2,xl8⟩:=Blk.k1 B1.out;have B3:=hqZ (Blk.next B2.out hf id);clear B2;obtain⟨xk3,xl9⟩:=Blk.k1 B3.out;have B2:=hqZ (Blk.next B0.out hf id);clear B0;obtain⟨xk4,xl10⟩:=Blk.k6 B2.out;clear hf;clear xk0 xk1 xk10))
   (go_wp2_with fail;refine(ki _ _).mono ?_;rintro e w5 ⟨rfl,hf⟩;(have xs8:=Fr.size hf;have T1:=hqZ (Fr.transN T0.out hf);clear T0;have P0:=hqZ (PSt.new (P1.out) hf);clear P1;have B0:=hqZ (Blk.next B1.out hf id);clear B1;obtain⟨xk0,xl11⟩:=Blk.k1 B0.out;have B1:=hqZ (Blk.next B3.out hf id);clear B3;obtain⟨xk1,xl12⟩:=Blk.k1 B1.out;have B3:=hqZ (Blk.next B2.out hf id);clear B2;obtain⟨xk10,xl13⟩:=Blk.k6 B3.out;clear hf;clear xk2 xk3 xk4))
   go_wp2
   try go_region
   all_goals
    try go_wp2
    refine bodyPost_ret (v:=(.tuple #[.agg #[.iface 168 (.agg #[.iface 123 (.string s)])],.nilIface])) (by simp only[results,Tryz.results216];go_simp) rfl ?_
    rw[ER.out]
    exact⟨_,_,rfl,.lit _ _ rfl,by exact PSt.over (w0:=w) P0.out ((Fr.r.set (.inl (by omega))).set (.inl (by omega))) ltp ltt,by exact((T1.out.set (.inr (by omega))).set (.inr (Nat.le_refl _)))⟩
 have k4':¬ (hd ts).kind=4:=by simp at k4;omega
 (go_wp2_with fail;refine(aG _ _ _ _ _ _ _).mono ?_;rintro e w3 ⟨rfl,hf⟩;(have xs4:=Fr.size hf;have T1:=hqZ (Fr.transN T0.out hf);clear T0;have P0:=hqZ (PSt.new (P1.out) hf);clear P1;have B3:=hqZ (Blk.next B2.out hf id);clear B2;obtain⟨xk0,xl5⟩:=Blk.k1 B3.out;have B2:=hqZ (Blk.next B0.out hf id);clear B0;obtain⟨xk1,xl6⟩:=Blk.k1 B2.out;have B0:=hqZ (Blk.next B1.out hf id);clear B1;obtain⟨xk10,xl7⟩:=Blk.k6 B0.out;clear hf;clear xk2 xk3 xk4))
 cases q1:((hd ts).text.toList == [116,114,117,101])
 case true =>
  have ER:=hqZ (show ap E ts = .ok (.lit (.bool true)) (adv ts)from by simp[ap,Tok.is,k2',k4',q1])
  (go_wp2_with fail;refine(nD _).mono ?_;rintro e w4 ⟨rfl,hf⟩;(have xs6:=Fr.size hf;have T0:=hqZ (Fr.transN T1.out hf);clear T1;have P1:=hqZ (PSt.new (P0.out) hf);clear P0;have B1:=hqZ (Blk.next B3.out hf id);clear B3;obtain⟨xk2,xl8⟩:=Blk.k1 B1.out;have B3:=hqZ (Blk.next B2.out hf id);clear B2;obtain⟨xk3,xl9⟩:=Blk.k1 B3.out;have B2:=hqZ (Blk.next B0.out hf id);clear B0;obtain⟨xk4,xl10⟩:=Blk.k6 B2.out;clear hf;clear xk0 xk1 xk10))
  go_wp2
  try go_region
  all_goals
   try go_wp2
   refine bodyPost_ret (v:=(.tuple #[.agg #[.iface 168 (.agg #[.iface 250 (.bool true)])],.nilIface])) (by simp only[results,Tryz.results216];go_simp) rfl ?_
   rw[ER.out]
   exact⟨_,_,rfl,.lit _ _ rfl,by exact PSt.over (w0:=w) P1.out ((Fr.r.set (.inl (by omega))).set (.inl (by omega))) ltp ltt,by exact((T0.out.set (.inr (by omega))).set (.inr (Nat.le_refl _)))⟩
 cases q2:((hd ts).text.toList == [102,97,108,115,101])
 case true =>
  have ER:=hqZ (show ap E ts = .ok (.lit (.bool false)) (adv ts)from by simp[ap,Tok.is,k2',k4',q1,q2])
  (go_wp2_with fail;refine(lN _).mono ?_;rintro e w4 ⟨rfl,hf⟩;(have xs6:=Fr.size hf;have T0:=hqZ (Fr.transN T1.out hf);clear T1;have P1:=hqZ (PSt.new (P0.out) hf);clear P0;have B1:=hqZ (Blk.next B3.out hf id);clear B3;obtain⟨xk2,xl8⟩:=Blk.k1 B1.out;have B3:=hqZ (Blk.next B2.out hf id);clear B2;obtain⟨xk3,xl9⟩:=Blk.k1 B3.out;have B2:=hqZ (Blk.next B0.out hf id);clear B0;obtain⟨xk4,xl10⟩:=Blk.k6 B2.out;clear hf;clear xk0 xk1 xk10))
  go_wp2
  try go_region
  all_goals
   try go_wp2
   refine bodyPost_ret (v:=(.tuple #[.agg #[.iface 168 (.agg #[.iface 250 (.bool false)])],.nilIface])) (by simp only[results,Tryz.results216];go_simp) rfl ?_
   rw[ER.out]
   exact⟨_,_,rfl,.lit _ _ rfl,by exact PSt.over (w0:=w) P1.out ((Fr.r.set (.inl (by omega))).set (.inl (by omega))) ltp ltt,by exact((T0.out.set (.inr (by omega))).set (.inr (Nat.le_refl _)))⟩
 cases k1:(((hd ts).kind:Int) == 1)
 case true =>
  have k1':(hd ts).kind=1:=by simp at k1;omega
  have E0:=hqZ (show ap E ts=if(hd (adv ts)).is [58,58] ||(hd (adv ts)).is [40]then aj (aR E) (hd ts).text (adv ts)else varP (hd ts) (adv ts)from by simp[ap,Tok.is,k1',q1,q2])
  (go_wp2_with fail;refine(aD _ _ _ _ _ _ _).mono ?_;rintro e w4 ⟨rfl,hf⟩;(have xs6:=Fr.size hf;have T0:=hqZ (Fr.transN T1.out hf);clear T1;have P1:=hqZ (PSt.new (P0.out) hf);clear P0;have B1:=hqZ (Blk.next B3.out hf id);clear B3;obtain⟨xk2,xl8⟩:=Blk.k1 B1.out;have B3:=hqZ (Blk.next B2.out hf id);clear B2;obtain⟨xk3,xl9⟩:=Blk.k1 B3.out;have B2:=hqZ (Blk.next B0.out hf id);clear B0;obtain⟨xk4,xl10⟩:=Blk.k6 B2.out;clear hf;clear xk0 xk1 xk10))
  (go_wp2_with fail;refine(ay _ pb tb (adv ts) ?_).mono ?_;(all_goals try exact P1.out);rintro e w5 ⟨⟨o2,l2,c2,rfl⟩,hf⟩;(have xs8:=Fr.size hf;have T1:=hqZ (Fr.transN T0.out hf);clear T0;have P0:=hqZ (PSt.new (P1.out) hf);clear P1;have B0:=hqZ (Blk.next B1.out hf id);clear B1;obtain⟨xk0,xl11⟩:=Blk.k1 B0.out;have B1:=hqZ (Blk.next B3.out hf id);clear B3;obtain⟨xk1,xl12⟩:=Blk.k1 B1.out;have B3:=hqZ (Blk.next B2.out hf id);clear B2;obtain⟨xk10,xl13⟩:=Blk.k6 B3.out;clear hf;clear xk2 xk3 xk4))
  cases p1:((hd (adv ts)).text.toList == [58,58])
  case true =>
   have E1:=hqZ (show ap E ts=aj (aR E) (hd ts).text (adv ts)from by rw[E0.out];simp[Tok.is,p1])
   cases hs:aj (aR E) (hd ts).text (adv ts)with
   | out=>exact absurd (by rw[E1.out,hs]) HN.out
   | bad =>
    have ER:=hqZ (show ap E ts = .bad from by rw[E1.out,hs])
    (go_wp2_with fail;refine(got (GotN pb tb) (HF.out _ pb tb _ _ ?_ hz1 (by rw[hs];intro e;cases e)) hs).mono ?_;(all_goals try exact PSt.over (w0:=w) P0.out (Fr.r.alloc _) ltp ltt);rintro e w6 ⟨t,u,rfl,hf⟩;(have xs10:=Fr.size hf;simp only[aa,ae,ad,af]at xs10;have T0:=hqZ (Fr.trans (T1.out.alloc _) hf);clear T1;clear P0;have B2:=hqZ (Blk.next (B0.out.alloc _) hf (by show ¬ _;omega));clear B0;obtain⟨xk2,xl14⟩:=Blk.k1 B2.out;have B0:=hqZ (Blk.next (B1.out.alloc _) hf (by show ¬ _;omega));clear B1;obtain⟨xk3,xl15⟩:=Blk.k1 B0.out;have B1:=hqZ (Blk.next (B3.out.alloc _) hf (by show ¬ _;omega));clear B3;obtain⟨xk4,xl16⟩:=Blk.k6 B1.out;have B3:=hqZ (Blk.next (Blk.at_ _ _ _ (n:=w5.heap.size) rfl) hf (by show ¬ _;omega));obtain⟨xk16,xl17⟩:=Blk.k6 B3.out;clear hf;clear xk0 xk1 xk10))
    go_wp2
    try go_region
    all_goals
     try go_wp2
     refine bodyPost_ret (v:=(.tuple #[.agg #[.nilIface],.iface t u])) (by simp only[results,Tryz.results216];go_simp) rfl ?_
     rw[ER.out]
     exact⟨t,u,rfl,by exact(T0.out.set (.inr (Nat.le_refl _)))⟩
   | ok x ts1 =>
    have ER:=hqZ (show ap E ts = .ok x ts1 from by rw[E1.out,hs])
    (go_wp2_with fail;refine(got (GotN pb tb) (HF.out _ pb tb _ _ ?_ hz1 (by rw[hs];intro e;cases e)) hs).mono ?_;(all_goals try exact PSt.over (w0:=w) P0.out (Fr.r.alloc _) ltp ltt);rintro e w6 ⟨t1,u1,rfl,hx,hp,hf⟩;(have xs10:=Fr.size hf;simp only[aa,ae,ad,af]at xs10;have T0:=hqZ (Fr.trans (T1.out.alloc _) hf);clear T1;clear P0;have B2:=hqZ (Blk.next (B0.out.alloc _) hf (by show ¬ _;omega));clear B0;obtain⟨xk2,xl14⟩:=Blk.k1 B2.out;have B0:=hqZ (Blk.next (B1.out.alloc _) hf (by show ¬ _;omega));clear B1;obtain⟨xk3,xl15⟩:=Blk.k1 B0.out;have B1:=hqZ (Blk.next (B3.out.alloc _) hf (by show ¬ _;omega));clear B3;obtain⟨xk4,xl16⟩:=Blk.k6 B1.out;have B3:=hqZ (Blk.next (Blk.at_ _ _ _ (n:=w5.heap.size) rfl) hf (by show ¬ _;omega));obtain⟨xk16,xl17⟩:=Blk.k6 B3.out;have X0:=hqZ (Rep.mono (Z':=fun g=>w5.heap.size+1<=g/\g < w6.heap.size) (hZ:=fun g h1 h2=>by simp only[aa,ae,ad,af]at h2;omega) (h:=hx));clear hx;have P0:=hqZ hp;clear hp;clear hf;clear xk0 xk1 xk10))
    go_wp2
    try go_region
    all_goals
     try go_wp2
     refine bodyPost_ret (v:=(.tuple #[.agg #[.iface t1 u1],.nilIface])) (by simp only[results,Tryz.results216];go_simp) rfl ?_
     rw[ER.out]
     exact⟨_,_,rfl,by exact Rep.mono (h:=(Rep.carry X0.out (Fr.r.set (.inl (by omega))))) (hZ:=fun g _ hg=>by omega),by exact PSt.over (w0:=w) P0.out (Fr.r.set (.inl (by omega))) ltp ltt,by exact(T0.out.set (.inr (Nat.le_refl _)))⟩
  cases p2:((hd (adv ts)).text.toList == [40])
  case true =>
   have E1:=hqZ (show ap E ts=aj (aR E) (hd ts).text (adv ts)from by rw[E0.out];simp[Tok.is,p1,p2])
   cases hs:aj (aR E) (hd ts).text (adv ts)with
   | out=>exact absurd (by rw[E1.out,hs]) HN.out
   | bad =>
    have ER:=hqZ (show ap E ts = .bad from by rw[E1.out,hs])
    (go_wp2_with fail;refine(got (GotN pb tb) (HF.out _ pb tb _ _ ?_ hz1 (by rw[hs];intro e;cases e)) hs).mono ?_;(all_goals try exact PSt.over (w0:=w) P0.out (Fr.r.alloc _) ltp ltt);rintro e w6 ⟨t,u,rfl,hf⟩;(have xs10:=Fr.size hf;simp only[aa,ae,ad,af]at xs10;have T0:=hqZ (Fr.trans (T1.out.alloc _) hf);clear T1;clear P0;have B2:=hqZ (Blk.next (B0.out.alloc _) hf (by show ¬ _;omega));clear B0;obtain⟨xk2,xl14⟩:=Blk.k1 B2.out;have B0:=hqZ (Blk.next (B1.out.alloc _) hf (by show ¬ _;omega));clear B1;obtain⟨xk3,xl15⟩:=Blk.k1 B0.out;have B1:=hqZ (Blk.next (B3.out.alloc _) hf (by show ¬ _;omega));clear B3;obtain⟨xk4,xl16⟩:=Blk.k6 B1.out;have B3:=hqZ (Blk.next (Blk.at_ _ _ _ (n:=w5.heap.size) rfl) hf (by show ¬ _;omega));obtain⟨xk16,xl17⟩:=Blk.k6 B3.out;clear hf;clear xk0 xk1 xk10))
    go_wp2
    try go_region
    all_goals
     try go_wp2
     refine bodyPost_ret (v:=(.tuple #[.agg #[.nilIface],.iface t u])) (by simp only[results,Tryz.results216];go_simp) rfl ?_
     rw[ER.out]
     exact⟨t,u,rfl,by exact(T0.out.set (.inr (Nat.le_refl _)))⟩
   | ok x ts1 =>
    have ER:=hqZ (show ap E ts = .ok x ts1 from by rw[E1.out,hs])
    (go_wp2_with fail;refine(got (GotN pb tb) (HF.out _ pb tb _ _ ?_ hz1 (by rw[hs];intro e;cases e)) hs).mono ?_;(all_goals try exact PSt.over (w0:=w) P0.out (Fr.r.alloc _) ltp ltt);rintro e w6 ⟨t1,u1,rfl,hx,hp,hf⟩;(have xs10:=Fr.size hf;simp only[aa,ae,ad,af]at xs10;have T0:=hqZ (Fr.trans (T1.out.alloc _) hf);clear T1;clear P0;have B2:=hqZ (Blk.next (B0.out.alloc _) hf (by show ¬ _;omega));clear B0;obtain⟨xk2,xl14⟩:=Blk.k1 B2.out;have B0:=hqZ (Blk.next (B1.out.alloc _) hf (by show ¬ _;omega));clear B1;obtain⟨xk3,xl15⟩:=Blk.k1 B0.out;have B1:=hqZ (Blk.next (B3.out.alloc _) hf (by show ¬ _;omega));clear B3;obtain⟨xk4,xl16⟩:=Blk.k6 B1.out;have B3:=hqZ (Blk.next (Blk.at_ _ _ _ (n:=w5.heap.size) rfl) hf (by show ¬ _;omega));obtain⟨xk16,xl17⟩:=Blk.k6 B3.out;have X0:=hqZ (Rep.mono (Z':=fun g=>w5.heap.size+1<=g/\g < w6.heap.size) (hZ:=fun g h1 h2=>by simp only[aa,ae,ad,af]at h2;omega) (h:=hx));clear hx;have P0:=hqZ hp;clear hp;clear hf;clear xk0 xk1 xk10))
    go_wp2
    try go_region
    all_goals
     try go_wp2
     refine bodyPost_ret (v:=(.tuple #[.agg #[.iface t1 u1],.nilIface])) (by simp only[results,Tryz.results216];go_simp) rfl ?_
     rw[ER.out]
     exact⟨_,_,rfl,by exact Rep.mono (h:=(Rep.carry X0.out (Fr.r.set (.inl (by omega))))) (hZ:=fun g _ hg=>by omega),by exact PSt.over (w0:=w) P0.out (Fr.r.set (.inl (by omega))) ltp ltt,by exact(T0.out.set (.inr (Nat.le_refl _)))⟩
  have E1:=hqZ (show ap E ts=varP (hd ts) (adv ts)from by rw[E0.out];simp[Tok.is,p1,p2])
  cases z0:((hd ts).text.toList == [112,114,105,110,99,105,112,97,108])
  case true =>
   have ER:=hqZ (show ap E ts = .ok (.var ⟨#[112,114,105,110,99,105,112,97,108]⟩) (adv ts)from by rw[E1.out];simp[varP,Tok.is,z0])
   (go_wp2_with fail;refine(gT _).mono ?_;rintro e w6 ⟨rfl,hf⟩;(have xs10:=Fr.size hf;simp only[aa,ae,ad,af]at xs10;have T0:=hqZ (Fr.transN (T1.out.alloc _) hf);clear T1;have P1:=hqZ (PSt.new (PSt.over (w0:=w) P0.out (Fr.r.alloc _) ltp ltt) hf);clear P0;have B2:=hqZ (Blk.next (B0.out.alloc _) hf id);clear B0;obtain⟨xk2,xl14⟩:=Blk.k1 B2.out;have B0:=hqZ (Blk.next (B1.out.alloc _) hf id);clear B1;obtain⟨xk3,xl15⟩:=Blk.k1 B0.out;have B1:=hqZ (Blk.next (B3.out.alloc _) hf id);clear B3;obtain⟨xk4,xl16⟩:=Blk.k6 B1.out;have B3:=hqZ (Blk.next (Blk.at_ _ _ _ (n:=w5.heap.size) rfl) hf id);obtain⟨xk16,xl17⟩:=Blk.k6 B3.out;clear hf;clear xk0 xk1 xk10))
   go_wp2
   try go_region
   all_goals
    try go_wp2
    refine bodyPost_ret (v:=(.tuple #[.agg #[.iface 172 (.agg #[.string ⟨#[112,114,105,110,99,105,112,97,108]⟩])],.nilIface])) (by simp only[results,Tryz.results216];go_simp) rfl ?_
    rw[ER.out]
    exact⟨_,_,rfl,.var _,by exact PSt.over (w0:=w) P1.out ((Fr.r.set (.inl (by omega))).set (.inl (by omega))) ltp ltt,by exact((T0.out.set (.inr (by omega))).set (.inr (Nat.le_refl _)))⟩
  cases z1:((hd ts).text.toList == [97,99,116,105,111,110])
  case true =>
   have ER:=hqZ (show ap E ts = .ok (.var ⟨#[97,99,116,105,111,110]⟩) (adv ts)from by rw[E1.out];simp[varP,Tok.is,z0,z1])
   (go_wp2_with fail;refine(km _).mono ?_;rintro e w6 ⟨rfl,hf⟩;(have xs10:=Fr.size hf;simp only[aa,ae,ad,af]at xs10;have T0:=hqZ (Fr.transN (T1.out.alloc _) hf);clear T1;have P1:=hqZ (PSt.new (PSt.over (w0:=w) P0.out (Fr.r.alloc _) ltp ltt) hf);clear P0;have B2:=hqZ (Blk.next (B0.out.alloc _) hf id);clear B0;obtain⟨xk2,xl14⟩:=Blk.k1 B2.out;have B0:=hqZ (Blk.next (B1.out.alloc _) hf id);clear B1;obtain⟨xk3,xl15⟩:=Blk.k1 B0.out;have B1:=hqZ (Blk.next (B3.out.alloc _) hf id);clear B3;obtain⟨xk4,xl16⟩:=Blk.k6 B1.out;have B3:=hqZ (Blk.next (Blk.at_ _ _ _ (n:=w5.heap.size) rfl) hf id);obtain⟨xk16,xl17⟩:=Blk.k6 B3.out;clear hf;clear xk0 xk1 xk10))
   go_wp2
   try go_region
   all_goals
    try go_wp2
    refine bodyPost_ret (v:=(.tuple #[.agg #[.iface 172 (.agg #[.string ⟨#[97,99,116,105,111,110]⟩])],.nilIface])) (by simp only[results,Tryz.results216];go_simp) rfl ?_
    rw[ER.out]
    exact⟨_,_,rfl,.var _,by exact PSt.over (w0:=w) P1.out ((Fr.r.set (.inl (by omega))).set (.inl (by omega))) ltp ltt,by exact((T0.out.set (.inr (by omega))).set (.inr (Nat.le_refl _)))⟩
  cases z2:((hd ts).text.toList == [114,101,115,111,117,114,99,101])
  case true =>
   have ER:=hqZ (show ap E ts = .ok (.var ⟨#[114,101,115,111,117,114,99,101]⟩) (adv ts)from by rw[E1.out];simp[varP,Tok.is,z0,z1,z2])
   (go_wp2_with fail;refine(iz _).mono ?_;rintro e w6 ⟨rfl,hf⟩;(have xs10:=Fr.size hf;simp only[aa,ae,ad,af]at xs10;have T0:=hqZ (Fr.transN (T1.out.alloc _) hf);clear T1;have P1:=hqZ (PSt.new (PSt.over (w0:=w) P0.out (Fr.r.alloc _) ltp ltt) hf);clear P0;have B2:=hqZ (Blk.next (B0.out.alloc _) hf id);clear B0;obtain⟨xk2,xl14⟩:=Blk.k1 B2.out;have B0:=hqZ (Blk.next (B1.out.alloc _) hf id);clear B1;obtain⟨xk3,xl15⟩:=Blk.k1 B0.out;have B1:=hqZ (Blk.next (B3.out.alloc _) hf id);clear B3;obtain⟨xk4,xl16⟩:=Blk.k6 B1.out;have B3:=hqZ (Blk.next (Blk.at_ _ _ _ (n:=w5.heap.size) rfl) hf id);obtain⟨xk16,xl17⟩:=Blk.k6 B3.out;clear hf;clear xk0 xk1 xk10))
   go_wp2
   try go_region
   all_goals
    try go_wp2
    refine bodyPost_ret (v:=(.tuple #[.agg #[.iface 172 (.agg #[.string ⟨#[114,101,115,111,117,114,99,101]⟩])],.nilIface])) (by simp only[results,Tryz.results216];go_simp) rfl ?_
    rw[ER.out]
    exact⟨_,_,rfl,.var _,by exact PSt.over (w0:=w) P1.out ((Fr.r.set (.inl (by omega))).set (.inl (by omega))) ltp ltt,by exact((T0.out.set (.inr (by omega))).set (.inr (Nat.le_refl _)))⟩
  cases z3:((hd ts).text.toList == [99,111,110,116,101,120,116])
  case true =>
   have ER:=hqZ (show ap E ts = .ok (.var ⟨#[99,111,110,116,101,120,116]⟩) (adv ts)from by rw[E1.out];simp[varP,Tok.is,z0,z1,z2,z3])
   (go_wp2_with fail;refine(jL _).mono ?_;rintro e w6 ⟨rfl,hf⟩;(have xs10:=Fr.size hf;simp only[aa,ae,ad,af]at xs10;have T0:=hqZ (Fr.transN (T1.out.alloc _) hf);clear T1;have P1:=hqZ (PSt.new (PSt.over (w0:=w) P0.out (Fr.r.alloc _) ltp ltt) hf);clear P0;have B2:=hqZ (Blk.next (B0.out.alloc _) hf id);clear B0;obtain⟨xk2,xl14⟩:=Blk.k1 B2.out;have B0:=hqZ (Blk.next (B1.out.alloc _) hf id);clear B1;obtain⟨xk3,xl15⟩:=Blk.k1 B0.out;have B1:=hqZ (Blk.next (B3.out.alloc _) hf id);clear B3;obtain⟨xk4,xl16⟩:=Blk.k6 B1.out;have B3:=hqZ (Blk.next (Blk.at_ _ _ _ (n:=w5.heap.size) rfl) hf id);obtain⟨xk16,xl17⟩:=Blk.k6 B3.out;clear hf;clear xk0 xk1 xk10))
   go_wp2
   try go_region
   all_goals
    try go_wp2
    refine bodyPost_ret (v:=(.tuple #[.agg #[.iface 172 (.agg #[.string ⟨#[99,111,110,116,101,120,116]⟩])],.nilIface])) (by simp only[results,Tryz.results216];go_simp) rfl ?_
    rw[ER.out]
    exact⟨_,_,rfl,.var _,by exact PSt.over (w0:=w) P1.out ((Fr.r.set (.inl (by omega))).set (.inl (by omega))) ltp ltt,by exact((T0.out.set (.inr (by omega))).set (.inr (Nat.le_refl _)))⟩
  have ER:=hqZ (show ap E ts = .bad from by rw[E1.out];simp[varP,Tok.is,z0,z1,z2,z3])
  go_wp2
  go_region_with (go_at_call 84;refine(ax _ pb tb (adv ts) _ _ ?_).mono ?_;(all_goals try exact PSt.over (w0:=w) P0.out (Fr.r.alloc _).drew ltp ltt);rintro e w9 ⟨⟨t,u,rfl⟩,hf⟩;(have xs10:=Fr.size hf;simp only[aa,ae,ad,af]at xs10;have T0:=hqZ (Fr.transN (T1.out.alloc _).drew hf);clear T1;have P1:=hqZ (PSt.new (PSt.over (w0:=w) P0.out (Fr.r.alloc _).drew ltp ltt) hf);clear P0;have B2:=hqZ (Blk.next (B0.out.alloc _).drew hf id);clear B0;obtain⟨xk2,xl14⟩:=Blk.k1 B2.out;have B0:=hqZ (Blk.next (B1.out.alloc _).drew hf id);clear B1;obtain⟨xk3,xl15⟩:=Blk.k1 B0.out;have B1:=hqZ (Blk.next (B3.out.alloc _).drew hf id);clear B3;obtain⟨xk4,xl16⟩:=Blk.k6 B1.out;have B3:=hqZ (Blk.next (Blk.at_ _ _ _ (n:=w5.heap.size) rfl).drew hf id);obtain⟨xk16,xl17⟩:=Blk.k6 B3.out;clear hf;clear xk0 xk1 xk10))
  all_goals
   go_wp2
   refine bodyPost_ret (v:=(.tuple #[.agg #[.nilIface],.iface t u])) (by simp only[results,Tryz.results216];go_simp) rfl ?_
   rw[ER.out]
   exact⟨t,u,rfl,by exact(T0.out.set (.inr (Nat.le_refl _)))⟩
 have k1':¬ (hd ts).kind=1:=by simp at k1;omega
 (go_wp2_with fail;refine(aD _ _ _ _ _ _ _).mono ?_;rintro e w4 ⟨rfl,hf⟩;(have xs6:=Fr.size hf;have T0:=hqZ (Fr.transN T1.out hf);clear T1;have P1:=hqZ (PSt.new (P0.out) hf);clear P0;have B1:=hqZ (Blk.next B3.out hf id);clear B3;obtain⟨xk2,xl8⟩:=Blk.k1 B1.out;have B3:=hqZ (Blk.next B2.out hf id);clear B2;obtain⟨xk3,xl9⟩:=Blk.k1 B3.out;have B2:=hqZ (Blk.next B0.out hf id);clear B0;obtain⟨xk4,xl10⟩:=Blk.k6 B2.out;clear hf;clear xk0 xk1 xk10))
 cases q3:((hd ts).text.toList == [40])
 case true =>
  have E0:=hqZ (show ap E ts=(E (adv ts)).bind fun x ts1=>(ak [41] ts1).bind fun _ ts2=>.ok x ts2 from by simp[ap,Tok.is,k1',k2',k4',q1,q2,q3])
  cases hs:E (adv ts)with
  | out=>exact absurd (by rw[E0.out,hs];rfl) HN.out
  | bad =>
   have ER:=hqZ (show ap E ts = .bad from by rw[E0.out,hs];rfl)
   (go_wp2_with fail;refine(HE.out.bad (tb:=tb) ?_ hs).mono ?_;(all_goals try exact P1.out);rintro e w5 ⟨t,u,rfl,hf⟩;(have xs8:=Fr.size hf;have T1:=hqZ (Fr.trans T0.out hf);clear T0;clear P1;have B0:=hqZ (Blk.next B1.out hf (by show ¬ _;omega));clear B1;obtain⟨xk0,xl11⟩:=Blk.k1 B0.out;have B1:=hqZ (Blk.next B3.out hf (by show ¬ _;omega));clear B3;obtain⟨xk1,xl12⟩:=Blk.k1 B1.out;have B3:=hqZ (Blk.next B2.out hf (by show ¬ _;omega));clear B2;obtain⟨xk10,xl13⟩:=Blk.k6 B3.out;clear hf;clear xk2 xk3 xk4))
   go_wp2
   try go_region
   all_goals
    try go_wp2
    refine bodyPost_ret (v:=(.tuple #[.agg #[.nilIface],.iface t u])) (by simp only[results,Tryz.results216];go_simp) rfl ?_
    rw[ER.out]
    exact⟨t,u,rfl,by exact((T1.out.set (.inr (Nat.le_refl _))).alloc _)⟩
  | ok x ts1 =>
   have E1:=hqZ (show ap E ts=(ak [41] ts1).bind fun _ ts2=>.ok x ts2 from by rw[E0.out,hs];rfl)
   (go_wp2_with fail;refine(HE.out.ok (tb:=tb) ?_ hs).mono ?_;(all_goals try exact P1.out);rintro e w5 ⟨t1,u1,rfl,hx,hp,hf⟩;(have xs8:=Fr.size hf;have T1:=hqZ (Fr.trans T0.out hf);clear T0;clear P1;have B0:=hqZ (Blk.next B1.out hf (by show ¬ _;omega));clear B1;obtain⟨xk0,xl11⟩:=Blk.k1 B0.out;have B1:=hqZ (Blk.next B3.out hf (by show ¬ _;omega));clear B3;obtain⟨xk1,xl12⟩:=Blk.k1 B1.out;have B3:=hqZ (Blk.next B2.out hf (by show ¬ _;omega));clear B2;obtain⟨xk10,xl13⟩:=Blk.k6 B3.out;have X0:=hqZ (Rep.mono (Z':=fun g=>w4.heap.size<=g/\g < w5.heap.size) (hZ:=fun g h1 h2=>⟨h2,h1⟩) (h:=hx));clear hx;have P0:=hqZ hp;clear hp;clear hf;clear xk2 xk3 xk4))
   clear hs
   cases he:((hd ts1).text.toList == [41])
   case false =>
    have ER:=hqZ (show ap E ts = .bad from by rw[E1.out];simp[ak,Tok.is,he,PR.bind])
    (go_wp2_with fail;refine(bf _ pb tb _ _ ?_ he).mono ?_;(all_goals try exact PSt.over (w0:=w) P0.out (Fr.r.alloc _) ltp ltt);rintro e w6 ⟨⟨t,u,rfl⟩,hf⟩;(have xs10:=Fr.size hf;simp only[aa,ae,ad,af]at xs10;have T0:=hqZ (Fr.trans (T1.out.alloc _) hf);clear T1;clear P0;have B2:=hqZ (Blk.next (B0.out.alloc _) hf (by show ¬ _;omega));clear B0;obtain⟨xk2,xl14⟩:=Blk.k1 B2.out;have B0:=hqZ (Blk.next (B1.out.alloc _) hf (by show ¬ _;omega));clear B1;obtain⟨xk3,xl15⟩:=Blk.k1 B0.out;have B1:=hqZ (Blk.next (B3.out.alloc _) hf (by show ¬ _;omega));clear B3;obtain⟨xk4,xl16⟩:=Blk.k6 B1.out;have B3:=hqZ (Blk.next (Blk.at_ _ _ _ (n:=w5.heap.size) rfl) hf (by show ¬ _;omega));obtain⟨xk16,xl17⟩:=Blk.k1 B3.out;have X1:=hqZ (Rep.carry X0.out (Fr.trans' (Fr.r.alloc _) hf (fun k _ hs=>by omega)));clear X0;clear hf;clear xk0 xk1 xk10))
    go_wp2
    try go_region
    all_goals
     try go_wp2
     refine bodyPost_ret (v:=(.tuple #[.agg #[.nilIface],.iface t u])) (by simp only[results,Tryz.results216];go_simp) rfl ?_
     rw[ER.out]
     exact⟨t,u,rfl,by exact(T0.out.set (.inr (Nat.le_refl _)))⟩
   case true =>
    have ER:=hqZ (show ap E ts = .ok x (adv ts1)from by rw[E1.out];simp[ak,Tok.is,he,PR.bind])
    (go_wp2_with fail;refine(aQ _ pb tb _ _ ?_ he).mono ?_;(all_goals try exact PSt.over (w0:=w) P0.out (Fr.r.alloc _) ltp ltt);rintro e w6 ⟨rfl,hp,hf⟩;(have xs10:=Fr.size hf;simp only[aa,ae,ad,af]at xs10;have T0:=hqZ (Fr.trans (T1.out.alloc _) hf);clear T1;clear P0;have B2:=hqZ (Blk.next (B0.out.alloc _) hf (by show ¬ _;omega));clear B0;obtain⟨xk2,xl14⟩:=Blk.k1 B2.out;have B0:=hqZ (Blk.next (B1.out.alloc _) hf (by show ¬ _;omega));clear B1;obtain⟨xk3,xl15⟩:=Blk.k1 B0.out;have B1:=hqZ (Blk.next (B3.out.alloc _) hf (by show ¬ _;omega));clear B3;obtain⟨xk4,xl16⟩:=Blk.k6 B1.out;have B3:=hqZ (Blk.next (Blk.at_ _ _ _ (n:=w5.heap.size) rfl) hf (by show ¬ _;omega));obtain⟨xk16,xl17⟩:=Blk.k1 B3.out;have X1:=hqZ (Rep.carry X0.out (Fr.trans' (Fr.r.alloc _) hf (fun k _ hs=>by omega)));clear X0;have P0:=hqZ hp;clear hp;clear hf;clear xk0 xk1 xk10))
    go_wp2
    try go_region
    all_goals
     try go_wp2
     refine bodyPost_ret (v:=(.tuple #[.agg #[.iface t1 u1],.nilIface])) (by simp only[results,Tryz.results216];go_simp) rfl ?_
     rw[ER.out]
     exact⟨_,_,rfl,by exact Rep.mono (h:=(Rep.carry X1.out ((Fr.r.set (.inl (by omega))).set (.inl (by omega))))) (hZ:=fun g _ hg=>by omega),by exact PSt.over (w0:=w) P0.out ((Fr.r.set (.inl (by omega))).set (.inl (by omega))) ltp ltt,by exact((T0.out.set (.inr (by omega))).set (.inr (Nat.le_refl _)))⟩
 cases q4:((hd ts).text.toList == [91])
 case true =>
  have E0:=hqZ (show ap E ts=(bk E [93] (adv ts)).bind fun l ts1=>.ok (.opn 31 l) (adv ts1)from by simp[ap,Tok.is,k1',k2',k4',q1,q2,q3,q4])
  cases hs:bk E [93] (adv ts)with
  | out=>exact absurd (by rw[E0.out,hs];rfl) HN.out
  | bad =>
   have ER:=hqZ (show ap E ts = .bad from by rw[E0.out,hs];rfl)
   (go_wp2_with fail;refine(got (GotL pb tb) (gR E HE.out _ pb tb (adv ts) [93] ?_ (by rw[hs];intro e;cases e)) hs).mono ?_;(all_goals try exact P1.out);rintro e w5 ⟨v,t,u,rfl,hf⟩;(have xs8:=Fr.size hf;have T1:=hqZ (Fr.trans T0.out hf);clear T0;clear P1;have B0:=hqZ (Blk.next B1.out hf (by show ¬ _;omega));clear B1;obtain⟨xk0,xl11⟩:=Blk.k1 B0.out;have B1:=hqZ (Blk.next B3.out hf (by show ¬ _;omega));clear B3;obtain⟨xk1,xl12⟩:=Blk.k1 B1.out;have B3:=hqZ (Blk.next B2.out hf (by show ¬ _;omega));clear B2;obtain⟨xk10,xl13⟩:=Blk.k6 B3.out;clear hf;clear xk2 xk3 xk4))
   go_wp2
   try go_region
   all_goals
    try go_wp2
    refine bodyPost_ret (v:=(.tuple #[.agg #[.nilIface],.iface t u])) (by simp only[results,Tryz.results216];go_simp) rfl ?_
    rw[ER.out]
    exact⟨t,u,rfl,by exact(T1.out.set (.inr (Nat.le_refl _)))⟩
  | ok L ts1 =>
   have ER:=hqZ (show ap E ts = .ok (.opn 31 L) (adv ts1)from by rw[E0.out,hs];rfl)
   (go_wp2_with fail;refine(got (GotL pb tb) (gR E HE.out _ pb tb (adv ts) [93] ?_ (by rw[hs];intro e;cases e)) hs).mono ?_;(all_goals try exact P1.out);rintro e w5 ⟨v,rfl,hacc,hll,hp,hf⟩;(have xs8:=Fr.size hf;have T1:=hqZ (Fr.trans T0.out hf);clear T0;clear P1;have B0:=hqZ (Blk.next B1.out hf (by show ¬ _;omega));clear B1;obtain⟨xk0,xl11⟩:=Blk.k1 B0.out;have B1:=hqZ (Blk.next B3.out hf (by show ¬ _;omega));clear B3;obtain⟨xk1,xl12⟩:=Blk.k1 B1.out;have B3:=hqZ (Blk.next B2.out hf (by show ¬ _;omega));clear B2;obtain⟨xk10,xl13⟩:=Blk.k6 B3.out;have X0:=hqZ (Acc.mono (Z':=fun g=>w4.heap.size<=g/\g < w5.heap.size) (hZ:=fun g h1 h2=>⟨h2,h1⟩) (h:=hacc));clear hacc;have P0:=hqZ hp;clear hp;clear hf;clear xk2 xk3 xk4))
   clear hs
   (go_wp2_with fail;refine(ag _ pb tb ts1 ?_).mono ?_;(all_goals try exact P0.out);rintro e w6 ⟨⟨o5,l5,c5,rfl⟩,hp,hf⟩;(have xs10:=Fr.size hf;have T0:=hqZ (Fr.trans T1.out hf);clear T1;clear P0;have B2:=hqZ (Blk.next B0.out hf (by show ¬ _;omega));clear B0;obtain⟨xk2,xl14⟩:=Blk.k1 B2.out;have B0:=hqZ (Blk.next B1.out hf (by show ¬ _;omega));clear B1;obtain⟨xk3,xl15⟩:=Blk.k1 B0.out;have B1:=hqZ (Blk.next B3.out hf (by show ¬ _;omega));clear B3;obtain⟨xk4,xl16⟩:=Blk.k6 B1.out;have X1:=hqZ (Acc.carry X0.out (Fr.trans' Fr.r hf (fun k _ hs=>by omega)));clear X0;have P0:=hqZ hp;clear hp;clear hf;clear xk0 xk1 xk10))
   have hacc:Acc gZ w6 (fun g=>w4.heap.size<=g/\g < w5.heap.size) v L 246 1:=by exact X1.out
   obtain⟨vs,hrow,hel⟩:=hacc.row hll
   have HR2:=hqZ hrow
   have HRL:=hqZ (jn hel)
   clear hacc hel hrow
   (go_wp2_with fail;refine(HC.out _ (fun g=>w4.heap.size<=g/\g < w5.heap.size) _ L vs (by exact HR2.out) (by exact HRL.out)).mono ?_;rintro e w7 ⟨sv,rfl,hrow2,hf⟩;(have xs12:=Fr.size hf;have T1:=hqZ (Fr.transN T0.out hf);clear T0;have P1:=hqZ (PSt.new (P0.out) hf);clear P0;have B3:=hqZ (Blk.next B2.out hf id);clear B2;obtain⟨xk0,xl17⟩:=Blk.k1 B3.out;have B2:=hqZ (Blk.next B0.out hf id);clear B0;obtain⟨xk1,xl18⟩:=Blk.k1 B2.out;have B0:=hqZ (Blk.next B1.out hf id);clear B1;obtain⟨xk10,xl19⟩:=Blk.k6 B0.out;have X0:=hqZ (RepL.carry HRL.out (Fr.transN Fr.r hf));clear HRL;have X2:=hqZ (Row.carry HR2.out (Fr.transN Fr.r hf));clear HR2;have X3:=hqZ (Row.mono (Z':=fun g=>w6.heap.size<=g/\g < w7.heap.size) (hZ:=fun g h1 h2=>⟨h2,h1⟩) (h:=hrow2));clear hrow2;have X4:=hqZ (Acc.carry X1.out (Fr.transN Fr.r hf));clear X1;clear hf;clear xk2 xk3 xk4))
   go_wp2
   try go_region
   all_goals
    try go_wp2
    refine bodyPost_ret (v:=(.tuple #[.agg #[.iface 202 (.agg #[sv])],.nilIface])) (by simp only[results,Tryz.results216];go_simp) rfl ?_
    rw[ER.out]
    exact⟨_,_,rfl,.set _ vs _ (by exact RepL.mono (h:=(RepL.carry X0.out ((Fr.r.set (.inl (by omega))).set (.inl (by omega))))) (hZ:=fun g _ hg=>by omega)) (by exact Row.mono (h:=(Row.carry X3.out ((Fr.r.set (.inl (by omega))).set (.inl (by omega))))) (hZ:=fun g _ hg=>by omega)),by exact PSt.over (w0:=w) P1.out ((Fr.r.set (.inl (by omega))).set (.inl (by omega))) ltp ltt,by exact((T1.out.set (.inr (by omega))).set (.inr (Nat.le_refl _)))⟩
 cases q5:((hd ts).text.toList == [123])
 case true =>
  have E0:=hqZ (show ap E ts=bE E (adv ts)from by simp[ap,Tok.is,k1',k2',k4',q1,q2,q3,q4,q5])
  cases hs:bE E (adv ts)with
  | out=>exact absurd (by rw[E0.out,hs]) HN.out
  | bad =>
   have ER:=hqZ (show ap E ts = .bad from by rw[E0.out,hs])
   (go_wp2_with fail;refine(HR.out.bad (tb:=tb) ?_ hs).mono ?_;(all_goals try exact P1.out);rintro e w5 ⟨t,u,rfl,hf⟩;(have xs8:=Fr.size hf;have T1:=hqZ (Fr.trans T0.out hf);clear T0;clear P1;have B0:=hqZ (Blk.next B1.out hf (by show ¬ _;omega));clear B1;obtain⟨xk0,xl11⟩:=Blk.k1 B0.out;have B1:=hqZ (Blk.next B3.out hf (by show ¬ _;omega));clear B3;obtain⟨xk1,xl12⟩:=Blk.k1 B1.out;have B3:=hqZ (Blk.next B2.out hf (by show ¬ _;omega));clear B2;obtain⟨xk10,xl13⟩:=Blk.k6 B3.out;clear hf;clear xk2 xk3 xk4))
   go_wp2
   try go_region
   all_goals
    try go_wp2
    refine bodyPost_ret (v:=(.tuple #[.agg #[.nilIface],.iface t u])) (by simp only[results,Tryz.results216];go_simp) rfl ?_
    rw[ER.out]
    exact⟨t,u,rfl,by exact((T1.out.set (.inr (Nat.le_refl _))).alloc _)⟩
  | ok x ts1 =>
   have ER:=hqZ (show ap E ts = .ok x ts1 from by rw[E0.out,hs])
   (go_wp2_with fail;refine(HR.out.ok (tb:=tb) ?_ hs).mono ?_;(all_goals try exact P1.out);rintro e w5 ⟨t1,u1,rfl,hx,hp,hf⟩;(have xs8:=Fr.size hf;have T1:=hqZ (Fr.trans T0.out hf);clear T0;clear P1;have B0:=hqZ (Blk.next B1.out hf (by show ¬ _;omega));clear B1;obtain⟨xk0,xl11⟩:=Blk.k1 B0.out;have B1:=hqZ (Blk.next B3.out hf (by show ¬ _;omega));clear B3;obtain⟨xk1,xl12⟩:=Blk.k1 B1.out;have B3:=hqZ (Blk.next B2.out hf (by show ¬ _;omega));clear B2;obtain⟨xk10,xl13⟩:=Blk.k6 B3.out;have X0:=hqZ (Rep.mono (Z':=fun g=>w4.heap.size<=g/\g < w5.heap.size) (hZ:=fun g h1 h2=>⟨h2,h1⟩) (h:=hx));clear hx;have P0:=hqZ hp;clear hp;clear hf;clear xk2 xk3 xk4))
   go_wp2
   try go_region
   all_goals
    try go_wp2
    refine bodyPost_ret (v:=(.tuple #[.agg #[.iface t1 u1],.nilIface])) (by simp only[results,Tryz.results216];go_simp) rfl ?_
    rw[ER.out]
    exact⟨_,_,rfl,by exact Rep.mono (h:=(Rep.carry X0.out (((Fr.r.set (.inl (by omega))).set (.inl (by omega))).alloc _))) (hZ:=fun g _ hg=>by omega),by exact PSt.over (w0:=w) P0.out (((Fr.r.set (.inl (by omega))).set (.inl (by omega))).alloc _) ltp ltt,by exact(((T1.out.set (.inr (by omega))).set (.inr (Nat.le_refl _))).alloc _)⟩
 have ER:=hqZ (show ap E ts = .bad from by simp[ap,Tok.is,k1',k2',k4',q1,q2,q3,q4,q5])
 go_wp2
 go_region_with (go_at_call 84;refine(ax _ pb tb (adv ts) _ _ ?_).mono ?_;(all_goals try exact PSt.over (w0:=w) P1.out Fr.r.drew ltp ltt);rintro e w9 ⟨⟨t,u,rfl⟩,hf⟩;(have xs8:=Fr.size hf;simp only[aa,ae,ad,af]at xs8;have T1:=hqZ (Fr.transN T0.out.drew hf);clear T0;have P0:=hqZ (PSt.new (PSt.over (w0:=w) P1.out Fr.r.drew ltp ltt) hf);clear P1;have B0:=hqZ (Blk.next B1.out.drew hf id);clear B1;obtain⟨xk0,xl11⟩:=Blk.k1 B0.out;have B1:=hqZ (Blk.next B3.out.drew hf id);clear B3;obtain⟨xk1,xl12⟩:=Blk.k1 B1.out;have B3:=hqZ (Blk.next B2.out.drew hf id);clear B2;obtain⟨xk10,xl13⟩:=Blk.k6 B3.out;clear hf;clear xk2 xk3 xk4))
 all_goals
  go_wp2
  refine bodyPost_ret (v:=(.tuple #[.agg #[.nilIface],.iface t u])) (by simp only[results,Tryz.results216];go_simp) rfl ?_
  rw[ER.out]
  exact⟨t,u,rfl,by exact(T1.out.set (.inr (Nat.le_refl _)))⟩
end Go.Proofs.YtbdhlpeckennjaaGreatDoor
