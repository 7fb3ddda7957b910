/- FnLong (the proof that the law returns true for every input), part 8 of 52; the last part says what is proved, and its condition. -/
import Derived.Test.YtbdhlpeckennjaaGreatDoorM07
set_option linter.unusedVariables false
set_option linter.unusedSimpArgs false
set_option maxHeartbeats 80000000
set_option maxRecDepth 1000000
namespace Go.Proofs.YtbdhlpeckennjaaGreatDoor
open Go Go.RowKit
def sk:Prop:=∀ (w:World) (Z:Nat->Prop) (s:ByteArray) (v:Value) (l:List Ex) (vs:List Value),Row w Z v l.length 1 vs->RepL w Z l vs ->
 Calls Tryz.prog 251 #[.string s,v] w fun e w'=>∃ sv,e = .returned (.agg #[.iface 200 (.agg #[.string s,sv])])/\Row w' (w.heap.size <= ·) sv l.length 1 vs/\New w w'
theorem extZ(w:World):(zeroValue 372).run Tryz.prog w = .ok (.agg #[.int .i64 0,.bool false]) w:=by kernel_rfl
theorem rK(hSV:cC)(hCC:sk)(E:List Tok->PR Ex)(hE:Does 135 E)(w:World)(pb tb:Nat)(ts:List Tok)(s:ByteArray)(h:PSt w pb tb ts)(hs:s.size<=1000000)(hne:aj (aR E) s ts ≠ .out) :
  Calls Tryz.prog 227 #[.pointer (some ⟨pb,0,none⟩),.string s] w (GotN pb tb w (aj (aR E) s ts)):=by
 have hft:=aq
 have ltp:=h.lt
 have ltt:=h.lt2
 have ll:=h.len
 have P0:=hqZ h
 have T0:=hqZ (Fr.refl (· = pb) w)
 have HN:=hqZ hne
 have HE:=hqZ hE
 have HS:=hqZ hSV
 have HC:=hqZ hCC
 clear h hne hE hSV hCC
 go_enter Tryz.func227,Tryz.ntmps227
 go_wp2_with fail
 go_loopg [1] (ts.length+1) (fun k v wr=>∃ (s':ByteArray) (ts':List Tok),v = .string s'/\ai (aR E) k s' ts'=aj (aR E) s ts/\PSt wr pb tb ts'/\Fr (· = pb) w wr/\s'.size+k * 1000002<=200000000000 /\
  Blk wr w.heap.size #[.nilIface] 246)
 case atStart=>exact⟨s,ts,rfl,rfl,by exact PSt.over (w0:=w) P0.out (Fr.r.alloc _) ltp ltt,by exact(T0.out.alloc _),by omega,by exact(Blk.at_ _ _ _ (n:=w.heap.size) rfl)⟩
 case round =>
  obtain⟨s',ts',rfl,e1,hp,hf,hz,hb1⟩:=hrel
  (clear T0;clear P0;have H0:=hqZ hf;have xs0:=Fr.size H0.out;clear hf;have H1:=hqZ hp;clear hp;have H2:=hqZ hb1;obtain⟨xk0,xl0⟩:=Blk.k1 H2.out;clear hb1)
  have E0:=hqZ e1
  clear e1
  obtain⟨n,rfl⟩:∃ n,gk=n+1:=by
   cases gk with
   | zero=>exact absurd E0.out.symm HN.out
   | succ n=>exact⟨n,rfl⟩
  (go_wp2_with fail;refine(ag _ pb tb ts' ?_).mono ?_;(all_goals try exact H1.out);rintro e v1 ⟨⟨o1,l1,c1,rfl⟩,hp,hf⟩;(have xs1:=Fr.size hf;have T0:=hqZ (Fr.trans H0.out hf);clear H0;clear H1;have B0:=hqZ (Blk.next H2.out hf (by show ¬ _;omega));clear H2;obtain⟨xk1,xl1⟩:=Blk.k1 B0.out;have P0:=hqZ hp;clear hp;clear hf;clear xk0))
  cases hq:((hd ts').text.toList == [58,58])
  case true =>
   have hz1:=PSt.fine P0.out |>.hd
   (go_wp2_with fail;refine(ag _ pb tb (adv ts') ?_).mono ?_;(all_goals try exact PSt.over (w0:=w) P0.out (Fr.r.alloc _) ltp ltt);rintro e v2 ⟨⟨o2,l2,c2,rfl⟩,hp,hf⟩;(have xs3:=Fr.size hf;simp only[aa,ae,ad,af]at xs3;have T1:=hqZ (Fr.trans (T0.out.alloc _) hf);clear T0;clear P0;have B1:=hqZ (Blk.next (B0.out.alloc _) hf (by show ¬ _;omega));clear B0;obtain⟨xk0,xl2⟩:=Blk.k1 B1.out;have B0:=hqZ (Blk.next (Blk.at_ _ _ _ (n:=v1.heap.size) rfl) hf (by show ¬ _;omega));obtain⟨xk2,xl3⟩:=Blk.k6 B0.out;have P0:=hqZ hp;clear hp;clear hf;clear xk1))
   cases hk:(((hd (adv ts')).kind:Int) == 1)
   case true =>
    have hk':(hd (adv ts')).kind=1:=by simp at hk;omega
    have E1:=hqZ (show ai (aR E) n (s'++⟨#[58,58]⟩++(hd (adv ts')).text) (adv (adv ts'))=aj (aR E) s ts from by rw[<- E0.out];simp only[ai,aR,Tok.is,hq,if_true];rw[if_pos hk'];rfl)
    (go_wp2_with fail;refine(aD _ _ _ _ _ _ _).mono ?_;rintro e v3 ⟨rfl,hf⟩;(have xs5:=Fr.size hf;simp only[aa,ae,ad,af]at xs5;have T0:=hqZ (Fr.transN (T1.out.alloc _) hf);clear T1;have P1:=hqZ (PSt.new (PSt.over (w0:=w) P0.out (Fr.r.alloc _) ltp ltt) hf);clear P0;have B2:=hqZ (Blk.next (B1.out.alloc _) hf id);clear B1;obtain⟨xk1,xl4⟩:=Blk.k1 B2.out;have B1:=hqZ (Blk.next (B0.out.alloc _) hf id);clear B0;obtain⟨xk8,xl5⟩:=Blk.k6 B1.out;have B0:=hqZ (Blk.next (Blk.at_ _ _ _ (n:=v2.heap.size) rfl) hf id);obtain⟨xk14,xl6⟩:=Blk.k6 B0.out;clear hf;clear xk0 xk2))
    go_wp2
    go_roundg n
    case measure=>omega
    case rel=>exact⟨_,_,rfl,E1.out,by exact P1.out,by exact T0.out,by rw[kX];omega,by exact B2.out⟩
   have hk':¬ (hd (adv ts')).kind=1:=by simp at hk;omega
   (go_wp2_with fail;refine(aD _ _ _ _ _ _ _).mono ?_;rintro e v3 ⟨rfl,hf⟩;(have xs5:=Fr.size hf;simp only[aa,ae,ad,af]at xs5;have T0:=hqZ (Fr.transN (T1.out.alloc _) hf);clear T1;have P1:=hqZ (PSt.new (PSt.over (w0:=w) P0.out (Fr.r.alloc _) ltp ltt) hf);clear P0;have B2:=hqZ (Blk.next (B1.out.alloc _) hf id);clear B1;obtain⟨xk1,xl4⟩:=Blk.k1 B2.out;have B1:=hqZ (Blk.next (B0.out.alloc _) hf id);clear B0;obtain⟨xk8,xl5⟩:=Blk.k6 B1.out;have B0:=hqZ (Blk.next (Blk.at_ _ _ _ (n:=v2.heap.size) rfl) hf id);obtain⟨xk14,xl6⟩:=Blk.k6 B0.out;clear hf;clear xk0 xk2))
   cases hj:(((hd (adv ts')).kind:Int) == 4)
   case false =>
    have hj':¬ (hd (adv ts')).kind=4:=by simp at hj;omega
    have ER:=hqZ (show aj (aR E) s ts = .bad from by rw[<- E0.out];simp[ai,aR,Tok.is,hq,PR.bind,hk',hj'])
    (go_wp2_with fail;refine(aG _ _ _ _ _ _ _).mono ?_;rintro e v4 ⟨rfl,hf⟩;(have xs7:=Fr.size hf;have T1:=hqZ (Fr.transN T0.out hf);clear T0;have P0:=hqZ (PSt.new (P1.out) hf);clear P1;have B3:=hqZ (Blk.next B2.out hf id);clear B2;obtain⟨xk0,xl7⟩:=Blk.k1 B3.out;have B2:=hqZ (Blk.next B1.out hf id);clear B1;obtain⟨xk2,xl8⟩:=Blk.k6 B2.out;have B1:=hqZ (Blk.next B0.out hf id);clear B0;obtain⟨xk20,xl9⟩:=Blk.k6 B1.out;clear hf;clear xk1 xk8 xk14))
    (go_wp2_with fail;refine(ax _ pb tb (adv (adv ts')) _ _ ?_).mono ?_;(all_goals try exact P0.out);rintro e v5 ⟨⟨t,u,rfl⟩,hf⟩;(have xs9:=Fr.size hf;have T0:=hqZ (Fr.transN T1.out hf);clear T1;have P1:=hqZ (PSt.new (P0.out) hf);clear P0;have B0:=hqZ (Blk.next B3.out hf id);clear B3;obtain⟨xk1,xl10⟩:=Blk.k1 B0.out;have B3:=hqZ (Blk.next B2.out hf id);clear B2;obtain⟨xk8,xl11⟩:=Blk.k6 B3.out;have B2:=hqZ (Blk.next B1.out hf id);clear B1;obtain⟨xk14,xl12⟩:=Blk.k6 B2.out;clear hf;clear xk0 xk2 xk20))
    go_wp2
    refine bodyPost_ret (v:=(.tuple #[.agg #[.nilIface],.iface t u])) (by simp only[results,Tryz.results227];go_simp) rfl ?_
    rw[ER.out]
    exact⟨t,u,rfl,by exact(T0.out.set (.inr (Nat.le_refl _)))⟩
   have hj':(hd (adv ts')).kind=4:=by simp at hj;omega
   have E1:=hqZ (show aj (aR E) s ts=(bw (aX (hd (adv ts')).text) fun x=>.ok (.lit (.ent s' x)) (adv (adv ts')))from by
    rw[<- E0.out];simp only[ai,aR,Tok.is,hq,if_true];rw[if_neg hk',if_pos hj'];cases aX (hd (adv ts')).text <;> rfl)
   (go_wp2_with fail;refine(aG _ _ _ _ _ _ _).mono ?_;rintro e v4 ⟨rfl,hf⟩;(have xs7:=Fr.size hf;have T1:=hqZ (Fr.transN T0.out hf);clear T0;have P0:=hqZ (PSt.new (P1.out) hf);clear P1;have B3:=hqZ (Blk.next B2.out hf id);clear B2;obtain⟨xk0,xl7⟩:=Blk.k1 B3.out;have B2:=hqZ (Blk.next B1.out hf id);clear B1;obtain⟨xk2,xl8⟩:=Blk.k6 B2.out;have B1:=hqZ (Blk.next B0.out hf id);clear B0;obtain⟨xk20,xl9⟩:=Blk.k6 B1.out;clear hf;clear xk1 xk8 xk14))
   cases hv:aX (hd (adv ts')).text with
   | none =>
    (go_wp2_with fail;refine(sv (HS.out _ _ _ _ _ _ _ hz1 (by exact(PSt.glob (P0.out)).1)) hv).mono ?_;rintro e v5 ⟨x,t,u,rfl,hf⟩;(have xs9:=Fr.size hf;have T0:=hqZ (Fr.transN T1.out hf);clear T1;have P1:=hqZ (PSt.new (P0.out) hf);clear P0;have B0:=hqZ (Blk.next B3.out hf id);clear B3;obtain⟨xk1,xl10⟩:=Blk.k1 B0.out;have B3:=hqZ (Blk.next B2.out hf id);clear B2;obtain⟨xk8,xl11⟩:=Blk.k6 B3.out;have B2:=hqZ (Blk.next B1.out hf id);clear B1;obtain⟨xk14,xl12⟩:=Blk.k6 B2.out;clear hf;clear xk0 xk2 xk20))
    go_wp2
    refine bodyPost_ret (v:=(.tuple #[.agg #[.nilIface],.iface t u])) (by simp only[results,Tryz.results227];go_simp) rfl ?_
    rw[E1.out,hv]
    exact⟨t,u,rfl,by exact(T0.out.set (.inr (Nat.le_refl _)))⟩
   | some x =>
    (go_wp2_with fail;refine(sv (HS.out _ _ _ _ _ _ _ hz1 (by exact(PSt.glob (P0.out)).1)) hv).mono ?_;rintro e v5 ⟨rfl,hf⟩;(have xs9:=Fr.size hf;have T0:=hqZ (Fr.transN T1.out hf);clear T1;have P1:=hqZ (PSt.new (P0.out) hf);clear P0;have B0:=hqZ (Blk.next B3.out hf id);clear B3;obtain⟨xk1,xl10⟩:=Blk.k1 B0.out;have B3:=hqZ (Blk.next B2.out hf id);clear B2;obtain⟨xk8,xl11⟩:=Blk.k6 B3.out;have B2:=hqZ (Blk.next B1.out hf id);clear B1;obtain⟨xk14,xl12⟩:=Blk.k6 B2.out;clear hf;clear xk0 xk2 xk20))
    (go_wp2_with fail;refine(gU _ _ _).mono ?_;rintro e v6 ⟨rfl,hf⟩;(have xs11:=Fr.size hf;have T1:=hqZ (Fr.transN T0.out hf);clear T0;have P0:=hqZ (PSt.new (P1.out) hf);clear P1;have B1:=hqZ (Blk.next B0.out hf id);clear B0;obtain⟨xk0,xl13⟩:=Blk.k1 B1.out;have B0:=hqZ (Blk.next B3.out hf id);clear B3;obtain⟨xk2,xl14⟩:=Blk.k6 B0.out;have B3:=hqZ (Blk.next B2.out hf id);clear B2;obtain⟨xk20,xl15⟩:=Blk.k6 B3.out;clear hf;clear xk1 xk8 xk14))
    go_wp2
    refine bodyPost_ret (v:=(.tuple #[.agg #[.iface 168 (.agg #[.iface 153 (.agg #[.string s',.string x])])],.nilIface])) (by simp only[results,Tryz.results227];go_simp) rfl ?_
    rw[E1.out,hv]
    exact⟨_,_,rfl,.lit _ _ rfl,by exact PSt.over (w0:=w) P0.out (Fr.r.set (.inl (by omega))) ltp ltt,by exact(T1.out.set (.inr (Nat.le_refl _)))⟩
  cases hq2:((hd ts').text.toList == [40])
  case false =>
   have ER:=hqZ (show aj (aR E) s ts = .bad from by rw[<- E0.out];simp[ai,aR,Tok.is,hq,hq2,PR.bind])
   (go_wp2_with fail;refine(ax _ pb tb (adv ts') _ _ ?_).mono ?_;(all_goals try exact PSt.over (w0:=w) P0.out (Fr.r.alloc _) ltp ltt);rintro e v5 ⟨⟨t,u,rfl⟩,hf⟩;(have xs3:=Fr.size hf;simp only[aa,ae,ad,af]at xs3;have T1:=hqZ (Fr.transN (T0.out.alloc _) hf);clear T0;have P1:=hqZ (PSt.new (PSt.over (w0:=w) P0.out (Fr.r.alloc _) ltp ltt) hf);clear P0;have B1:=hqZ (Blk.next (B0.out.alloc _) hf id);clear B0;obtain⟨xk0,xl2⟩:=Blk.k1 B1.out;have B0:=hqZ (Blk.next (Blk.at_ _ _ _ (n:=v1.heap.size) rfl) hf id);obtain⟨xk2,xl3⟩:=Blk.k6 B0.out;clear hf;clear xk1))
   go_wp2
   refine bodyPost_ret (v:=(.tuple #[.agg #[.nilIface],.iface t u])) (by simp only[results,Tryz.results227];go_simp) rfl ?_
   rw[ER.out]
   exact⟨t,u,rfl,by exact(T1.out.set (.inr (Nat.le_refl _)))⟩
  have E1:=hqZ (show aj (aR E) s ts=if eK s'.toList=some false then(bk E [41] (adv ts')).bind fun l ts1=>.ok (.named 25 s' l) (adv ts1)else .bad from by
   rw[<- E0.out];simp only[ai,aR,Tok.is,hq,hq2,if_true,Bool.false_eq_true,if_false];split
   .cases bk E [41] (adv ts') <;> rfl
   .rfl)
  (go_wp2_with fail;refine(pD _).mono ?_;rintro e v2 ⟨rfl,hm,hf⟩;(have xs3:=Fr.size hf;simp only[aa,ae,ad,af]at xs3;have T1:=hqZ (Fr.transN (T0.out.alloc _) hf);clear T0;have P1:=hqZ (PSt.new (PSt.over (w0:=w) P0.out (Fr.r.alloc _) ltp ltt) hf);clear P0;have B1:=hqZ (Blk.next (B0.out.alloc _) hf id);clear B0;obtain⟨xk0,xl2⟩:=Blk.k1 B1.out;have B0:=hqZ (Blk.next (Blk.at_ _ _ _ (n:=v1.heap.size) rfl) hf id);obtain⟨xk2,xl3⟩:=Blk.k6 B0.out;clear hf;clear xk1))
  (try simp only[aa,ae,af]at hm)
  have HM:=hqZ hm
  have HX:=hqZ (ni s')
  clear hm
  cases hx:eK s'.toList with
  | none =>
   have hl:look extL s'=none:=by have:=HX.out;rw[hx]at this;exact this
   have ER:=hqZ (show aj (aR E) s ts = .bad from by rw[E1.out,hx];rfl)
   have HL:=hqZ hl
   clear hl hx
   go_wp2_with (at_lookup;refine bu ?_)
   unfold Stop
   refine cM _ rfl _ _ _ rfl extT mD (extZ _) rfl (HM.out.next (S:=fun _=>False) ?_ id) rfl ?_
   .repeat' (with_reducible(first|exact Fr.refl _ _|apply Fr.drew|apply Fr.alloc))
   rw[HL.out]
   simp only[Option.getD_none,Option.isSome_none]
   (go_wp2_with fail;refine(ax _ pb tb (adv ts') _ _ ?_).mono ?_;(all_goals try exact PSt.over (w0:=w) P1.out ((Fr.r.alloc _).alloc _) ltp ltt);rintro e v5 ⟨⟨t,u,rfl⟩,hf⟩;(have xs5:=Fr.size hf;simp only[aa,ae,ad,af]at xs5;have T0:=hqZ (Fr.transN ((T1.out.alloc _).alloc _) hf);clear T1;have P0:=hqZ (PSt.new (PSt.over (w0:=w) P1.out ((Fr.r.alloc _).alloc _) ltp ltt) hf);clear P1;have B2:=hqZ (Blk.next ((B1.out.alloc _).alloc _) hf id);clear B1;obtain⟨xk1,xl4⟩:=Blk.k1 B2.out;have B1:=hqZ (Blk.next ((B0.out.alloc _).alloc _) hf id);clear B0;obtain⟨xk8,xl5⟩:=Blk.k6 B1.out;have B0:=hqZ (Blk.next ((Blk.at_ _ _ _ (n:=v2.heap.size) rfl).alloc _) hf id);obtain⟨xk14,xl6⟩:=Blk.k2 B0.out;have B3:=hqZ (Blk.next (Blk.at_ _ _ _ (n:=v2.heap.size+1) (by simp only[aa,ae,ad,af])) hf id);obtain⟨xk16,xl7⟩:=Blk.k1 B3.out;clear hf;clear xk0 xk2))
   go_wp2
   refine bodyPost_ret (v:=(.tuple #[.agg #[.nilIface],.iface t u])) (by simp only[results,Tryz.results227];go_simp) rfl ?_
   rw[ER.out]
   exact⟨t,u,rfl,by exact(T0.out.set (.inr (Nat.le_refl _)))⟩
  | some b =>
   obtain⟨ar,hl⟩:∃ n:Int,look extL s'=some (.agg #[.int .i64 n,.bool b]):=by have:=HX.out;rw[hx]at this;exact this
   have HL:=hqZ hl
   clear hl
   go_wp2_with (at_lookup;refine bu ?_)
   unfold Stop
   refine cM _ rfl _ _ _ rfl extT mD (extZ _) rfl (HM.out.next (S:=fun _=>False) ?_ id) rfl ?_
   .repeat' (with_reducible(first|exact Fr.refl _ _|apply Fr.drew|apply Fr.alloc))
   rw[HL.out]
   simp only[Option.getD_some,Option.isSome_some]
   cases b with
   | true =>
    have ER:=hqZ (show aj (aR E) s ts = .bad from by rw[E1.out,hx];rfl)
    clear hx
    (go_wp2_with fail;refine(ax _ pb tb (adv ts') _ _ ?_).mono ?_;(all_goals try exact PSt.over (w0:=w) P1.out ((Fr.r.alloc _).alloc _) ltp ltt);rintro e v5 ⟨⟨t,u,rfl⟩,hf⟩;(have xs5:=Fr.size hf;simp only[aa,ae,ad,af]at xs5;have T0:=hqZ (Fr.transN ((T1.out.alloc _).alloc _) hf);clear T1;have P0:=hqZ (PSt.new (PSt.over (w0:=w) P1.out ((Fr.r.alloc _).alloc _) ltp ltt) hf);clear P1;have B2:=hqZ (Blk.next ((B1.out.alloc _).alloc _) hf id);clear B1;obtain⟨xk1,xl4⟩:=Blk.k1 B2.out;have B1:=hqZ (Blk.next ((B0.out.alloc _).alloc _) hf id);clear B0;obtain⟨xk8,xl5⟩:=Blk.k6 B1.out;have B0:=hqZ (Blk.next ((Blk.at_ _ _ _ (n:=v2.heap.size) rfl).alloc _) hf id);obtain⟨xk14,xl6⟩:=Blk.k2 B0.out;have B3:=hqZ (Blk.next (Blk.at_ _ _ _ (n:=v2.heap.size+1) (by simp only[aa,ae,ad,af])) hf id);obtain⟨xk16,xl7⟩:=Blk.k1 B3.out;clear hf;clear xk0 xk2))
    go_wp2
    refine bodyPost_ret (v:=(.tuple #[.agg #[.nilIface],.iface t u])) (by simp only[results,Tryz.results227];go_simp) rfl ?_
    rw[ER.out]
    exact⟨t,u,rfl,by exact(T0.out.set (.inr (Nat.le_refl _)))⟩
   | false =>
    have E2:=hqZ (show aj (aR E) s ts=(bk E [41] (adv ts')).bind fun l ts1=>.ok (.named 25 s' l) (adv ts1)from by rw[E1.out,hx];rfl)
    clear hx
    cases hs:bk E [41] (adv ts')with
    | out=>exact absurd (by rw[E2.out,hs];rfl) HN.out
    | bad =>
     (go_wp2_with fail;refine(got (GotL pb tb) (gR E HE.out _ pb tb (adv ts') [41] ?_ (by rw[hs];intro e;cases e)) hs).mono ?_;(all_goals try exact PSt.over (w0:=w) P1.out (Fr.r.alloc _) ltp ltt);rintro e v3 ⟨v,t,u,rfl,hf⟩;(have xs5:=Fr.size hf;simp only[aa,ae,ad,af]at xs5;have T0:=hqZ (Fr.trans (T1.out.alloc _) hf);clear T1;clear P1;have B2:=hqZ (Blk.next (B1.out.alloc _) hf (by show ¬ _;omega));clear B1;obtain⟨xk1,xl4⟩:=Blk.k1 B2.out;have B1:=hqZ (Blk.next (B0.out.alloc _) hf (by show ¬ _;omega));clear B0;obtain⟨xk8,xl5⟩:=Blk.k6 B1.out;have B0:=hqZ (Blk.next (Blk.at_ _ _ _ (n:=v2.heap.size) rfl) hf (by show ¬ _;omega));obtain⟨xk14,xl6⟩:=Blk.k2 B0.out;clear hf;clear xk0 xk2))
     go_wp2
     refine bodyPost_ret (v:=(.tuple #[.agg #[.nilIface],.iface t u])) (by simp only[results,Tryz.results227];go_simp) rfl ?_
     rw[E2.out,hs]
     exact⟨t,u,rfl,by exact(T0.out.set (.inr (Nat.le_refl _)))⟩
    | ok l ts1 =>
     (go_wp2_with fail;refine(got (GotL pb tb) (gR E HE.out _ pb tb (adv ts') [41] ?_ (by rw[hs];intro e;cases e)) hs).mono ?_;(all_goals try exact PSt.over (w0:=w) P1.out (Fr.r.alloc _) ltp ltt);rintro e v3 ⟨v,rfl,hacc,hll,hp,hf⟩;(have xs5:=Fr.size hf;simp only[aa,ae,ad,af]at xs5;have T0:=hqZ (Fr.trans (T1.out.alloc _) hf);clear T1;clear P1;have B2:=hqZ (Blk.next (B1.out.alloc _) hf (by show ¬ _;omega));clear B1;obtain⟨xk1,xl4⟩:=Blk.k1 B2.out;have B1:=hqZ (Blk.next (B0.out.alloc _) hf (by show ¬ _;omega));clear B0;obtain⟨xk8,xl5⟩:=Blk.k6 B1.out;have B0:=hqZ (Blk.next (Blk.at_ _ _ _ (n:=v2.heap.size) rfl) hf (by show ¬ _;omega));obtain⟨xk14,xl6⟩:=Blk.k2 B0.out;have X0:=hqZ (Acc.mono (Z':=fun g=>v2.heap.size+1<=g/\g < v3.heap.size) (hZ:=fun g h1 h2=>by simp only[aa,ae,ad,af]at h2;omega) (h:=hacc));clear hacc;have P0:=hqZ hp;clear hp;clear hf;clear xk0 xk2))
     have E3:=hqZ (show aj (aR E) s ts = .ok (.named 25 s' l) (adv ts1)from by rw[E2.out,hs];rfl)
     clear hs
     (go_wp2_with fail;refine(ag _ pb tb ts1 ?_).mono ?_;(all_goals try exact P0.out);rintro e v4 ⟨⟨o5,l5,c5,rfl⟩,hp,hf⟩;(have xs7:=Fr.size hf;have T1:=hqZ (Fr.trans T0.out hf);clear T0;clear P0;have B3:=hqZ (Blk.next B2.out hf (by show ¬ _;omega));clear B2;obtain⟨xk0,xl7⟩:=Blk.k1 B3.out;have B2:=hqZ (Blk.next B1.out hf (by show ¬ _;omega));clear B1;obtain⟨xk2,xl8⟩:=Blk.k6 B2.out;have B1:=hqZ (Blk.next B0.out hf (by show ¬ _;omega));clear B0;obtain⟨xk16,xl9⟩:=Blk.k2 B1.out;have X1:=hqZ (Acc.carry X0.out (Fr.trans' Fr.r hf (fun k _ hs=>by omega)));clear X0;have P0:=hqZ hp;clear hp;clear hf;clear xk1 xk8 xk14))
     have hacc:Acc gZ v4 (fun g=>v2.heap.size<=g) v l 246 1:=by exact Acc.mono (h:=X1.out) (hZ:=fun g _ hg=>by omega)
     obtain⟨vs,hrow,hel⟩:=hacc.row hll
     have HR:=hqZ hrow
     have HRL:=hqZ (jn hel)
     clear hacc hel hrow
     (go_wp2_with fail;refine(HC.out _ (fun g=>v2.heap.size<=g) _ _ l vs (by exact HR.out) (by exact HRL.out)).mono ?_;rintro e v5 ⟨sv,rfl,hrow2,hf⟩;(have xs9:=Fr.size hf;have T0:=hqZ (Fr.transN T1.out hf);clear T1;have P1:=hqZ (PSt.new (P0.out) hf);clear P0;have B0:=hqZ (Blk.next B3.out hf id);clear B3;obtain⟨xk1,xl10⟩:=Blk.k1 B0.out;have B3:=hqZ (Blk.next B2.out hf id);clear B2;obtain⟨xk8,xl11⟩:=Blk.k6 B3.out;have B2:=hqZ (Blk.next B1.out hf id);clear B1;obtain⟨xk14,xl12⟩:=Blk.k2 B2.out;have X0:=hqZ (RepL.carry HRL.out (Fr.transN Fr.r hf));clear HRL;have X2:=hqZ (Row.carry HR.out (Fr.transN Fr.r hf));clear HR;have X3:=hqZ (Row.mono (Z':=fun g=>v4.heap.size<=g/\g < v5.heap.size) (hZ:=fun g h1 h2=>⟨h2,h1⟩) (h:=hrow2));clear hrow2;have X4:=hqZ (Acc.carry X1.out (Fr.transN Fr.r hf));clear X1;clear hf;clear xk0 xk2 xk16))
     go_wp2
     refine bodyPost_ret (v:=(.tuple #[.agg #[.iface 200 (.agg #[.string s',sv])],.nilIface])) (by simp only[results,Tryz.results227];go_simp) rfl ?_
     rw[E3.out]
     exact⟨_,_,rfl,.call _ _ vs _ (by exact RepL.mono (h:=(RepL.carry X0.out (Fr.r.set (.inl (by omega))))) (hZ:=fun g _ hg=>by omega)) (by exact Row.mono (h:=(Row.carry X3.out (Fr.r.set (.inl (by omega))))) (hZ:=fun g _ hg=>by omega)),by exact PSt.over (w0:=w) P1.out (Fr.r.set (.inl (by omega))) ltp ltt,by exact(T0.out.set (.inr (Nat.le_refl _)))⟩
end Go.Proofs.YtbdhlpeckennjaaGreatDoor
