/- FnLong (the proof that the law returns true for every input), part 15 of 52; the last part says what is proved, and its condition. -/
import Derived.Test.YtbdhlpeckennjaaGreatDoorM14
set_option linter.unusedVariables false
set_option linter.unusedSimpArgs false
set_option maxHeartbeats 80000000
set_option maxRecDepth 1000000
namespace Go.Proofs.YtbdhlpeckennjaaGreatDoor
open Go Go.RowKit
def ScpR (w:World)(Z:Nat->Prop)(s:Scp)(v:Value):Prop :=
 (s=Scp.all/\v = .iface 312 (.agg #[])) \/
 (∃ y,s=⟨1,y,[],an⟩/\v = .iface 155 (.agg #[.string y.1,.string y.2])) \/
 (∃ y,s=⟨2,y,[],an⟩/\v = .iface 157 (.agg #[.string y.1,.string y.2])) \/
 (∃ l sv,s=⟨3,(an,an),l,an⟩/\v = .iface 160 (.agg #[sv])/\Row w Z sv l.length 2 (aV l)) \/
 (∃ p,s=⟨4,(an,an),[],p⟩/\v = .iface 162 (.agg #[.string p])) \/
 (∃ y p,s=⟨5,y,[],p⟩/\v = .iface 164 (.agg #[.string p,.string y.1,.string y.2]))
theorem ScpR.frame{S Z:Nat->Prop}{w w':World}{s:Scp}{v:Value}(h:ScpR w Z s v)(hf:Fr S w w')(hS:∀ g,Z g->g < w.heap.size->¬ S g):ScpR w' Z s v:=by
 rcases h with h|h|h|⟨l,sv,h1,h2,h3⟩|h|h
 .exact .inl h
 .exact .inr (.inl h)
 .exact .inr (.inr (.inl h))
 .exact .inr (.inr (.inr (.inl ⟨l,sv,h1,h2,h3.frame hf hS⟩)))
 .exact .inr (.inr (.inr (.inr (.inl h))))
 .exact .inr (.inr (.inr (.inr (.inr h))))
theorem ScpR.mono{Z Z':Nat->Prop}{w:World}{s:Scp}{v:Value}(h:ScpR w Z s v)(hZ:∀ g,g < w.heap.size->Z g->Z' g):ScpR w Z' s v:=by
 rcases h with h|h|h|⟨l,sv,h1,h2,h3⟩|h|h
 .exact .inl h
 .exact .inr (.inl h)
 .exact .inr (.inr (.inl h))
 .exact .inr (.inr (.inr (.inl ⟨l,sv,h1,h2,h3.mono hZ⟩)))
 .exact .inr (.inr (.inr (.inr (.inl h))))
 .exact .inr (.inr (.inr (.inr (.inr h))))
theorem ScpR.carry{Z:Nat->Prop}{w w':World}{s:Scp}{v:Value}(h:ScpR w Z s v)(hf:Fr (fun g=>¬ Z g) w w'):ScpR w' Z s v:=h.frame hf (fun _ h1 _ h2=>h2 h1)
def GotQ (pb tb qb:Nat)(mk:Value->Array Value)(w:World)(r:PR Scp)(e:Ending)(w':World):Prop :=
 match r with
 | .ok s ts=>∃ (t:TypeId) (u:Value),e = .returned .nilIface/\ScpR w' (w.heap.size <= ·) s (.iface t u)/\Blk w' qb (mk (.iface t u)) 120/\PSt w' pb tb ts/\Fr (fun k=>k=pb\/k=qb) w w'
 | .bad=>∃ (t:TypeId) (u:Value),e = .returned (.iface t u)/\Fr (fun k=>k=pb\/k=qb) w w'
 | .out=>True
theorem eU(hSV:cC)(w:World)(pb tb qb:Nat)(ts:List Tok)(c0 c1 c3 c4 c5 c6 c7 c8 c9:Value)(h:PSt w pb tb ts)(hb:Blk w qb #[c0,c1,.iface 312 (.agg #[]),c3,c4,c5,c6,c7,c8,c9] 120)(hpq:pb < qb)(htq:tb ≠ qb)(hne:whoP [112,114,105,110,99,105,112,97,108] ts ≠ .out) :
  Calls Tryz.prog 65 #[.pointer (some ⟨pb,0,none⟩),.pointer (some ⟨qb,0,none⟩)] w (GotQ pb tb qb (fun v=>#[c0,c1,v,c3,c4,c5,c6,c7,c8,c9]) w (whoP [112,114,105,110,99,105,112,97,108] ts)):=by
 have hft:=aq
 have ltp:=h.lt
 have ltt:=h.lt2
 have ltq:=hb.lt
 have P0:=hqZ h
 have B0:=hqZ hb
 have T0:=hqZ (Fr.refl (fun k=>k=pb\/k=qb) w)
 have HN:=hqZ hne
 have HS:=hqZ hSV
 clear h hne hSV hb
 go_enter Tryz.func65,Tryz.ntmps65
 cases hq:((hd ts).text.toList == [112,114,105,110,99,105,112,97,108])
 case false =>
  have ER:=hqZ (show whoP [112,114,105,110,99,105,112,97,108] ts = .bad from by simp[whoP,cF,ak,Tok.is,hq,PR.bind])
  (go_wp2_with fail;refine(bf _ pb tb ts [112,114,105,110,99,105,112,97,108] ?_ hq).mono ?_;(all_goals try exact P0.out);rintro e w1 ⟨⟨t,u,rfl⟩,hf⟩;(have xs0:=Fr.size hf;have T1:=hqZ (Fr.trans' T0.out hf (fun k hk hs=>by omega));clear T0;clear P0;have B1:=hqZ (Blk.next B0.out hf (by show ¬ _;omega));clear B0;obtain⟨xk0,xl0⟩:=Blk.k10 B1.out;clear hf))
  go_wp2
  go_ret
  rw[ER.out]
  exact⟨t,u,rfl,by exact T1.out⟩
 have E0:=hqZ (show whoP [112,114,105,110,99,105,112,97,108] ts=cg (adv ts)from by simp[whoP,cF,ak,Tok.is,hq,PR.bind])
 (go_wp2_with fail;refine(aQ _ pb tb ts [112,114,105,110,99,105,112,97,108] ?_ hq).mono ?_;(all_goals try exact P0.out);rintro e w1 ⟨rfl,hp,hf⟩;(have xs0:=Fr.size hf;have T1:=hqZ (Fr.trans' T0.out hf (fun k hk hs=>by omega));clear T0;clear P0;have B1:=hqZ (Blk.next B0.out hf (by show ¬ _;omega));clear B0;obtain⟨xk0,xl0⟩:=Blk.k10 B1.out;have P0:=hqZ hp;clear hp;clear hf))
 (go_wp2_with fail;refine(ay _ pb tb (adv ts) ?_).mono ?_;(all_goals try exact P0.out);rintro e w2 ⟨⟨o,l,c,rfl⟩,hf⟩;(have xs2:=Fr.size hf;have T0:=hqZ (Fr.transN T1.out hf);clear T1;have P1:=hqZ (PSt.new (P0.out) hf);clear P0;have B0:=hqZ (Blk.next B1.out hf id);clear B1;obtain⟨xk10,xl1⟩:=Blk.k10 B0.out;clear hf;clear xk0))
 cases q1:((hd (adv ts)).text.toList == [61,61])
 case true =>
  have E1:=hqZ (show whoP [112,114,105,110,99,105,112,97,108] ts=(aJ (adv (adv ts))).bind fun e ts2=>.ok ⟨1,e,[],an⟩ ts2 from by rw[E0.out];unfold cg Tok.is;rw[if_pos q1])
  (go_wp2_with fail;refine(ag _ pb tb (adv ts) ?_).mono ?_;(all_goals try exact P1.out);rintro e w3 ⟨⟨o3,l3,c30,rfl⟩,hp,hf⟩;(have xs4:=Fr.size hf;have T1:=hqZ (Fr.trans' T0.out hf (fun k hk hs=>by omega));clear T0;clear P1;have B1:=hqZ (Blk.next B0.out hf (by show ¬ _;omega));clear B0;obtain⟨xk0,xl2⟩:=Blk.k10 B1.out;have P0:=hqZ hp;clear hp;clear hf;clear xk10))
  cases hs:aJ (adv (adv ts))with
  | out=>exact absurd (by rw[E1.out,hs];rfl) HN.out
  | bad =>
   (go_wp2_with fail;refine(got (GotE pb tb) (aL HS.out _ pb tb _ ?_ (by rw[hs];intro e;cases e)) hs).mono ?_;(all_goals try exact P0.out);rintro e w4 ⟨_,t,u,⟨a,b,rfl⟩,rfl,hf⟩;(have xs6:=Fr.size hf;have T0:=hqZ (Fr.trans' T1.out hf (fun k hk hs=>by omega));clear T1;clear P0;have B0:=hqZ (Blk.next B1.out hf (by show ¬ _;omega));clear B1;obtain⟨xk10,xl3⟩:=Blk.k10 B0.out;clear hf;clear xk0))
   go_wp2
   go_ret
   rw[E1.out,hs]
   exact⟨t,u,rfl,by exact(T0.out.alloc _)⟩
  | ok y ts1 =>
   (go_wp2_with fail;refine(got (GotE pb tb) (aL HS.out _ pb tb _ ?_ (by rw[hs];intro e;cases e)) hs).mono ?_;(all_goals try exact P0.out);rintro e w4 ⟨rfl,hp,hf⟩;(have xs6:=Fr.size hf;have T0:=hqZ (Fr.trans' T1.out hf (fun k hk hs=>by omega));clear T1;clear P0;have B0:=hqZ (Blk.next B1.out hf (by show ¬ _;omega));clear B1;obtain⟨xk10,xl3⟩:=Blk.k10 B0.out;have P0:=hqZ hp;clear hp;clear hf;clear xk0))
   (go_wp2_with fail;refine(fN _ qb c0 c1 _ c3 c4 c5 c6 c7 c8 c9 y.1 y.2 (by exact(B0.out.alloc _))).mono ?_;rintro e w5 ⟨rfl,hb,hf⟩;(have xs8:=Fr.size hf;simp only[aa,ae,ad,af]at xs8;have T1:=hqZ (Fr.trans' (T0.out.alloc _) hf (fun k hk hs=>by omega));clear T0;have P1:=hqZ (PSt.frame (PSt.over (w0:=w) P0.out (Fr.r.alloc _) ltp ltt) hf (by show ¬ _;omega) (by show ¬ _;omega));clear P0;clear B0;have B0:=hqZ (Blk.next (Blk.at_ _ _ _ (n:=w4.heap.size) rfl) hf (by show ¬ _;omega));obtain⟨xk0,xl4⟩:=Blk.k2 B0.out;have B1:=hqZ hb;obtain⟨xk2,xl5⟩:=Blk.k10 B1.out;clear hb;clear hf;clear xk10))
   go_wp2
   go_ret
   rw[E1.out,hs]
   exact⟨_,_,rfl,.inr (.inl ⟨_,rfl,rfl⟩),by exact B1.out,by exact P1.out,by exact T1.out⟩
 cases q2:((hd (adv ts)).text.toList == [105,115])
 case true =>
  have E1:=hqZ (show whoP [112,114,105,110,99,105,112,97,108] ts=(dA (adv (adv ts))).bind fun p ts2=>dE p ts2 from by rw[E0.out];unfold cg Tok.is;rw[if_neg (by simp[q1]),if_pos q2])
  (go_wp2_with fail;refine(ag _ pb tb (adv ts) ?_).mono ?_;(all_goals try exact P1.out);rintro e w3 ⟨⟨o3,l3,c30,rfl⟩,hp,hf⟩;(have xs4:=Fr.size hf;have T1:=hqZ (Fr.trans' T0.out hf (fun k hk hs=>by omega));clear T0;clear P1;have B1:=hqZ (Blk.next B0.out hf (by show ¬ _;omega));clear B0;obtain⟨xk0,xl2⟩:=Blk.k10 B1.out;have P0:=hqZ hp;clear hp;clear hf;clear xk10))
  cases hs:dA (adv (adv ts))with
  | out=>exact absurd (by rw[E1.out,hs];rfl) HN.out
  | bad =>
   (go_wp2_with fail;refine(got (GotS pb tb) (dv _ pb tb _ ?_ (by rw[hs];intro e;cases e)) hs).mono ?_;(all_goals try exact P0.out);rintro e w4 ⟨_,t,u,⟨a,rfl⟩,rfl,hf⟩;(have xs6:=Fr.size hf;have T0:=hqZ (Fr.trans' T1.out hf (fun k hk hs=>by omega));clear T1;clear P0;have B0:=hqZ (Blk.next B1.out hf (by show ¬ _;omega));clear B1;obtain⟨xk10,xl3⟩:=Blk.k10 B0.out;clear hf;clear xk0))
   go_wp2
   go_ret
   rw[E1.out,hs]
   exact⟨t,u,rfl,by exact T0.out⟩
  | ok p ts1 =>
   have E2:=hqZ (show whoP [112,114,105,110,99,105,112,97,108] ts=dE p ts1 from by rw[E1.out,hs];rfl)
   (go_wp2_with fail;refine(got (GotS pb tb) (dv _ pb tb _ ?_ (by rw[hs];intro e;cases e)) hs).mono ?_;(all_goals try exact P0.out);rintro e w4 ⟨rfl,hp,hf⟩;(have xs6:=Fr.size hf;have T0:=hqZ (Fr.trans' T1.out hf (fun k hk hs=>by omega));clear T1;clear P0;have B0:=hqZ (Blk.next B1.out hf (by show ¬ _;omega));clear B1;obtain⟨xk10,xl3⟩:=Blk.k10 B0.out;have P0:=hqZ hp;clear hp;clear hf;clear xk0))
   clear hs
   (go_wp2_with fail;refine(ay _ pb tb ts1 ?_).mono ?_;(all_goals try exact P0.out);rintro e w5 ⟨⟨o5,l5,c50,rfl⟩,hf⟩;(have xs8:=Fr.size hf;have T1:=hqZ (Fr.transN T0.out hf);clear T0;have P1:=hqZ (PSt.new (P0.out) hf);clear P0;have B1:=hqZ (Blk.next B0.out hf id);clear B0;obtain⟨xk0,xl4⟩:=Blk.k10 B1.out;clear hf;clear xk10))
   cases q3:((hd ts1).text.toList == [105,110])
   case true =>
    have E3:=hqZ (show whoP [112,114,105,110,99,105,112,97,108] ts=(aJ (adv ts1)).bind fun e ts3=>.ok ⟨5,e,[],p⟩ ts3 from by rw[E2.out];unfold dE Tok.is;rw[if_pos q3])
    (go_wp2_with fail;refine(ag _ pb tb ts1 ?_).mono ?_;(all_goals try exact P1.out);rintro e w6 ⟨⟨o3,l3,c30,rfl⟩,hp,hf⟩;(have xs10:=Fr.size hf;have T0:=hqZ (Fr.trans' T1.out hf (fun k hk hs=>by omega));clear T1;clear P1;have B0:=hqZ (Blk.next B1.out hf (by show ¬ _;omega));clear B1;obtain⟨xk10,xl5⟩:=Blk.k10 B0.out;have P0:=hqZ hp;clear hp;clear hf;clear xk0))
    cases hs:aJ (adv ts1)with
    | out=>exact absurd (by rw[E3.out,hs];rfl) HN.out
    | bad =>
     (go_wp2_with fail;refine(got (GotE pb tb) (aL HS.out _ pb tb _ ?_ (by rw[hs];intro e;cases e)) hs).mono ?_;(all_goals try exact P0.out);rintro e w7 ⟨_,t,u,⟨a,b,rfl⟩,rfl,hf⟩;(have xs12:=Fr.size hf;have T1:=hqZ (Fr.trans' T0.out hf (fun k hk hs=>by omega));clear T0;clear P0;have B1:=hqZ (Blk.next B0.out hf (by show ¬ _;omega));clear B0;obtain⟨xk0,xl6⟩:=Blk.k10 B1.out;clear hf;clear xk10))
     go_wp2
     go_ret
     rw[E3.out,hs]
     exact⟨t,u,rfl,by exact(T1.out.alloc _)⟩
    | ok y ts1 =>
     (go_wp2_with fail;refine(got (GotE pb tb) (aL HS.out _ pb tb _ ?_ (by rw[hs];intro e;cases e)) hs).mono ?_;(all_goals try exact P0.out);rintro e w7 ⟨rfl,hp,hf⟩;(have xs12:=Fr.size hf;have T1:=hqZ (Fr.trans' T0.out hf (fun k hk hs=>by omega));clear T0;clear P0;have B1:=hqZ (Blk.next B0.out hf (by show ¬ _;omega));clear B0;obtain⟨xk0,xl6⟩:=Blk.k10 B1.out;have P0:=hqZ hp;clear hp;clear hf;clear xk10))
     (go_wp2_with fail;refine(eQ _ qb c0 c1 _ c3 c4 c5 c6 c7 c8 c9 p y.1 y.2 (by exact(B1.out.alloc _))).mono ?_;rintro e w8 ⟨rfl,hb,hf⟩;(have xs14:=Fr.size hf;simp only[aa,ae,ad,af]at xs14;have T0:=hqZ (Fr.trans' (T1.out.alloc _) hf (fun k hk hs=>by omega));clear T1;have P1:=hqZ (PSt.frame (PSt.over (w0:=w) P0.out (Fr.r.alloc _) ltp ltt) hf (by show ¬ _;omega) (by show ¬ _;omega));clear P0;clear B1;have B0:=hqZ (Blk.next (Blk.at_ _ _ _ (n:=w7.heap.size) rfl) hf (by show ¬ _;omega));obtain⟨xk10,xl7⟩:=Blk.k2 B0.out;have B1:=hqZ hb;obtain⟨xk12,xl8⟩:=Blk.k10 B1.out;clear hb;clear hf;clear xk0))
     go_wp2
     go_ret
     rw[E3.out,hs]
     exact⟨_,_,rfl,.inr (.inr (.inr (.inr (.inr ⟨_,_,rfl,rfl⟩)))),by exact B1.out,by exact P1.out,by exact T0.out⟩
   have E3:=hqZ (show whoP [112,114,105,110,99,105,112,97,108] ts = .ok ⟨4,(an,an),[],p⟩ ts1 from by rw[E2.out];unfold dE Tok.is;rw[if_neg (by simp[q3])])
   (go_wp2_with fail;refine(fL _ qb c0 c1 _ c3 c4 c5 c6 c7 c8 c9 p (by exact B1.out)).mono ?_;rintro e w6 ⟨rfl,hb,hf⟩;(have xs10:=Fr.size hf;have T0:=hqZ (Fr.trans' T1.out hf (fun k hk hs=>by omega));clear T1;have P0:=hqZ (PSt.frame (P1.out) hf (by show ¬ _;omega) (by show ¬ _;omega));clear P1;clear B1;have B0:=hqZ hb;obtain⟨xk10,xl5⟩:=Blk.k10 B0.out;clear hb;clear hf;clear xk0))
   go_wp2
   go_ret
   rw[E3.out]
   exact⟨_,_,rfl,.inr (.inr (.inr (.inr (.inl ⟨_,rfl,rfl⟩)))),by exact B0.out,by exact P0.out,by exact T0.out⟩
 cases q4:((hd (adv ts)).text.toList == [105,110])
 case true =>
  have E1:=hqZ (show whoP [112,114,105,110,99,105,112,97,108] ts=(aJ (adv (adv ts))).bind fun e ts2=>.ok ⟨2,e,[],an⟩ ts2 from by rw[E0.out];unfold cg Tok.is;rw[if_neg (by simp[q1]),if_neg (by simp[q2]),if_pos q4])
  (go_wp2_with fail;refine(ag _ pb tb (adv ts) ?_).mono ?_;(all_goals try exact P1.out);rintro e w3 ⟨⟨o3,l3,c30,rfl⟩,hp,hf⟩;(have xs4:=Fr.size hf;have T1:=hqZ (Fr.trans' T0.out hf (fun k hk hs=>by omega));clear T0;clear P1;have B1:=hqZ (Blk.next B0.out hf (by show ¬ _;omega));clear B0;obtain⟨xk0,xl2⟩:=Blk.k10 B1.out;have P0:=hqZ hp;clear hp;clear hf;clear xk10))
  cases hs:aJ (adv (adv ts))with
  | out=>exact absurd (by rw[E1.out,hs];rfl) HN.out
  | bad =>
   (go_wp2_with fail;refine(got (GotE pb tb) (aL HS.out _ pb tb _ ?_ (by rw[hs];intro e;cases e)) hs).mono ?_;(all_goals try exact P0.out);rintro e w4 ⟨_,t,u,⟨a,b,rfl⟩,rfl,hf⟩;(have xs6:=Fr.size hf;have T0:=hqZ (Fr.trans' T1.out hf (fun k hk hs=>by omega));clear T1;clear P0;have B0:=hqZ (Blk.next B1.out hf (by show ¬ _;omega));clear B1;obtain⟨xk10,xl3⟩:=Blk.k10 B0.out;clear hf;clear xk0))
   go_wp2
   go_ret
   rw[E1.out,hs]
   exact⟨t,u,rfl,by exact(T0.out.alloc _)⟩
  | ok y ts1 =>
   (go_wp2_with fail;refine(got (GotE pb tb) (aL HS.out _ pb tb _ ?_ (by rw[hs];intro e;cases e)) hs).mono ?_;(all_goals try exact P0.out);rintro e w4 ⟨rfl,hp,hf⟩;(have xs6:=Fr.size hf;have T0:=hqZ (Fr.trans' T1.out hf (fun k hk hs=>by omega));clear T1;clear P0;have B0:=hqZ (Blk.next B1.out hf (by show ¬ _;omega));clear B1;obtain⟨xk10,xl3⟩:=Blk.k10 B0.out;have P0:=hqZ hp;clear hp;clear hf;clear xk0))
   (go_wp2_with fail;refine(fM _ qb c0 c1 _ c3 c4 c5 c6 c7 c8 c9 y.1 y.2 (by exact(B0.out.alloc _))).mono ?_;rintro e w5 ⟨rfl,hb,hf⟩;(have xs8:=Fr.size hf;simp only[aa,ae,ad,af]at xs8;have T1:=hqZ (Fr.trans' (T0.out.alloc _) hf (fun k hk hs=>by omega));clear T0;have P1:=hqZ (PSt.frame (PSt.over (w0:=w) P0.out (Fr.r.alloc _) ltp ltt) hf (by show ¬ _;omega) (by show ¬ _;omega));clear P0;clear B0;have B0:=hqZ (Blk.next (Blk.at_ _ _ _ (n:=w4.heap.size) rfl) hf (by show ¬ _;omega));obtain⟨xk0,xl4⟩:=Blk.k2 B0.out;have B1:=hqZ hb;obtain⟨xk2,xl5⟩:=Blk.k10 B1.out;clear hb;clear hf;clear xk10))
   go_wp2
   go_ret
   rw[E1.out,hs]
   exact⟨_,_,rfl,.inr (.inr (.inl ⟨_,rfl,rfl⟩)),by exact B1.out,by exact P1.out,by exact T1.out⟩
 have E1:=hqZ (show whoP [112,114,105,110,99,105,112,97,108] ts = .ok Scp.all (adv ts)from by rw[E0.out];unfold cg Tok.is;rw[if_neg (by simp[q1]),if_neg (by simp[q2]),if_neg (by simp[q4])])
 go_wp2
 go_ret
 rw[E1.out]
 exact⟨_,_,rfl,.inl ⟨rfl,rfl⟩,by exact B0.out,by exact P1.out,by exact T0.out⟩
theorem fG(hSV:cC)(w:World)(pb tb qb:Nat)(ts:List Tok)(c0 c1 c2 c3 c5 c6 c7 c8 c9:Value)(h:PSt w pb tb ts)(hb:Blk w qb #[c0,c1,c2,c3,.iface 312 (.agg #[]),c5,c6,c7,c8,c9] 120)(hpq:pb < qb)(htq:tb ≠ qb)(hne:whoP [114,101,115,111,117,114,99,101] ts ≠ .out) :
  Calls Tryz.prog 67 #[.pointer (some ⟨pb,0,none⟩),.pointer (some ⟨qb,0,none⟩)] w (GotQ pb tb qb (fun v=>#[c0,c1,c2,c3,v,c5,c6,c7,c8,c9]) w (whoP [114,101,115,111,117,114,99,101] ts)):=by
 have hft:=aq
 have ltp:=h.lt
 have ltt:=h.lt2
 have ltq:=hb.lt
 have P0:=hqZ h
 have B0:=hqZ hb
 have T0:=hqZ (Fr.refl (fun k=>k=pb\/k=qb) w)
 have HN:=hqZ hne
 have HS:=hqZ hSV
 clear h hne hSV hb
 go_enter Tryz.func67,Tryz.ntmps67
 cases hq:((hd ts).text.toList == [114,101,115,111,117,114,99,101])
 case false =>
  have ER:=hqZ (show whoP [114,101,115,111,117,114,99,101] ts = .bad from by simp[whoP,cF,ak,Tok.is,hq,PR.bind])
  (go_wp2_with fail;refine(bf _ pb tb ts [114,101,115,111,117,114,99,101] ?_ hq).mono ?_;(all_goals try exact P0.out);rintro e w1 ⟨⟨t,u,rfl⟩,hf⟩;(have xs0:=Fr.size hf;have T1:=hqZ (Fr.trans' T0.out hf (fun k hk hs=>by omega));clear T0;clear P0;have B1:=hqZ (Blk.next B0.out hf (by show ¬ _;omega));clear B0;obtain⟨xk0,xl0⟩:=Blk.k10 B1.out;clear hf))
  go_wp2
  go_ret
  rw[ER.out]
  exact⟨t,u,rfl,by exact T1.out⟩
 have E0:=hqZ (show whoP [114,101,115,111,117,114,99,101] ts=cg (adv ts)from by simp[whoP,cF,ak,Tok.is,hq,PR.bind])
 (go_wp2_with fail;refine(aQ _ pb tb ts [114,101,115,111,117,114,99,101] ?_ hq).mono ?_;(all_goals try exact P0.out);rintro e w1 ⟨rfl,hp,hf⟩;(have xs0:=Fr.size hf;have T1:=hqZ (Fr.trans' T0.out hf (fun k hk hs=>by omega));clear T0;clear P0;have B1:=hqZ (Blk.next B0.out hf (by show ¬ _;omega));clear B0;obtain⟨xk0,xl0⟩:=Blk.k10 B1.out;have P0:=hqZ hp;clear hp;clear hf))
 (go_wp2_with fail;refine(ay _ pb tb (adv ts) ?_).mono ?_;(all_goals try exact P0.out);rintro e w2 ⟨⟨o,l,c,rfl⟩,hf⟩;(have xs2:=Fr.size hf;have T0:=hqZ (Fr.transN T1.out hf);clear T1;have P1:=hqZ (PSt.new (P0.out) hf);clear P0;have B0:=hqZ (Blk.next B1.out hf id);clear B1;obtain⟨xk10,xl1⟩:=Blk.k10 B0.out;clear hf;clear xk0))
 cases q1:((hd (adv ts)).text.toList == [61,61])
 case true =>
  have E1:=hqZ (show whoP [114,101,115,111,117,114,99,101] ts=(aJ (adv (adv ts))).bind fun e ts2=>.ok ⟨1,e,[],an⟩ ts2 from by rw[E0.out];unfold cg Tok.is;rw[if_pos q1])
  (go_wp2_with fail;refine(ag _ pb tb (adv ts) ?_).mono ?_;(all_goals try exact P1.out);rintro e w3 ⟨⟨o3,l3,c30,rfl⟩,hp,hf⟩;(have xs4:=Fr.size hf;have T1:=hqZ (Fr.trans' T0.out hf (fun k hk hs=>by omega));clear T0;clear P1;have B1:=hqZ (Blk.next B0.out hf (by show ¬ _;omega));clear B0;obtain⟨xk0,xl2⟩:=Blk.k10 B1.out;have P0:=hqZ hp;clear hp;clear hf;clear xk10))
  cases hs:aJ (adv (adv ts))with
  | out=>exact absurd (by rw[E1.out,hs];rfl) HN.out
  | bad =>
   (go_wp2_with fail;refine(got (GotE pb tb) (aL HS.out _ pb tb _ ?_ (by rw[hs];intro e;cases e)) hs).mono ?_;(all_goals try exact P0.out);rintro e w4 ⟨_,t,u,⟨a,b,rfl⟩,rfl,hf⟩;(have xs6:=Fr.size hf;have T0:=hqZ (Fr.trans' T1.out hf (fun k hk hs=>by omega));clear T1;clear P0;have B0:=hqZ (Blk.next B1.out hf (by show ¬ _;omega));clear B1;obtain⟨xk10,xl3⟩:=Blk.k10 B0.out;clear hf;clear xk0))
   go_wp2
   go_ret
   rw[E1.out,hs]
   exact⟨t,u,rfl,by exact(T0.out.alloc _)⟩
  | ok y ts1 =>
   (go_wp2_with fail;refine(got (GotE pb tb) (aL HS.out _ pb tb _ ?_ (by rw[hs];intro e;cases e)) hs).mono ?_;(all_goals try exact P0.out);rintro e w4 ⟨rfl,hp,hf⟩;(have xs6:=Fr.size hf;have T0:=hqZ (Fr.trans' T1.out hf (fun k hk hs=>by omega));clear T1;clear P0;have B0:=hqZ (Blk.next B1.out hf (by show ¬ _;omega));clear B1;obtain⟨xk10,xl3⟩:=Blk.k10 B0.out;have P0:=hqZ hp;clear hp;clear hf;clear xk0))
   (go_wp2_with fail;refine(go _ qb c0 c1 c2 c3 _ c5 c6 c7 c8 c9 y.1 y.2 (by exact(B0.out.alloc _))).mono ?_;rintro e w5 ⟨rfl,hb,hf⟩;(have xs8:=Fr.size hf;simp only[aa,ae,ad,af]at xs8;have T1:=hqZ (Fr.trans' (T0.out.alloc _) hf (fun k hk hs=>by omega));clear T0;have P1:=hqZ (PSt.frame (PSt.over (w0:=w) P0.out (Fr.r.alloc _) ltp ltt) hf (by show ¬ _;omega) (by show ¬ _;omega));clear P0;clear B0;have B0:=hqZ (Blk.next (Blk.at_ _ _ _ (n:=w4.heap.size) rfl) hf (by show ¬ _;omega));obtain⟨xk0,xl4⟩:=Blk.k2 B0.out;have B1:=hqZ hb;obtain⟨xk2,xl5⟩:=Blk.k10 B1.out;clear hb;clear hf;clear xk10))
   go_wp2
   go_ret
   rw[E1.out,hs]
   exact⟨_,_,rfl,.inr (.inl ⟨_,rfl,rfl⟩),by exact B1.out,by exact P1.out,by exact T1.out⟩
 cases q2:((hd (adv ts)).text.toList == [105,115])
 case true =>
  have E1:=hqZ (show whoP [114,101,115,111,117,114,99,101] ts=(dA (adv (adv ts))).bind fun p ts2=>dE p ts2 from by rw[E0.out];unfold cg Tok.is;rw[if_neg (by simp[q1]),if_pos q2])
  (go_wp2_with fail;refine(ag _ pb tb (adv ts) ?_).mono ?_;(all_goals try exact P1.out);rintro e w3 ⟨⟨o3,l3,c30,rfl⟩,hp,hf⟩;(have xs4:=Fr.size hf;have T1:=hqZ (Fr.trans' T0.out hf (fun k hk hs=>by omega));clear T0;clear P1;have B1:=hqZ (Blk.next B0.out hf (by show ¬ _;omega));clear B0;obtain⟨xk0,xl2⟩:=Blk.k10 B1.out;have P0:=hqZ hp;clear hp;clear hf;clear xk10))
  cases hs:dA (adv (adv ts))with
  | out=>exact absurd (by rw[E1.out,hs];rfl) HN.out
  | bad =>
   (go_wp2_with fail;refine(got (GotS pb tb) (dv _ pb tb _ ?_ (by rw[hs];intro e;cases e)) hs).mono ?_;(all_goals try exact P0.out);rintro e w4 ⟨_,t,u,⟨a,rfl⟩,rfl,hf⟩;(have xs6:=Fr.size hf;have T0:=hqZ (Fr.trans' T1.out hf (fun k hk hs=>by omega));clear T1;clear P0;have B0:=hqZ (Blk.next B1.out hf (by show ¬ _;omega));clear B1;obtain⟨xk10,xl3⟩:=Blk.k10 B0.out;clear hf;clear xk0))
   go_wp2
   go_ret
   rw[E1.out,hs]
   exact⟨t,u,rfl,by exact T0.out⟩
  | ok p ts1 =>
   have E2:=hqZ (show whoP [114,101,115,111,117,114,99,101] ts=dE p ts1 from by rw[E1.out,hs];rfl)
   (go_wp2_with fail;refine(got (GotS pb tb) (dv _ pb tb _ ?_ (by rw[hs];intro e;cases e)) hs).mono ?_;(all_goals try exact P0.out);rintro e w4 ⟨rfl,hp,hf⟩;(have xs6:=Fr.size hf;have T0:=hqZ (Fr.trans' T1.out hf (fun k hk hs=>by omega));clear T1;clear P0;have B0:=hqZ (Blk.next B1.out hf (by show ¬ _;omega));clear B1;obtain⟨xk10,xl3⟩:=Blk.k10 B0.out;have P0:=hqZ hp;clear hp;clear hf;clear xk0))
   clear hs
   (go_wp2_with fail;refine(ay _ pb tb ts1 ?_).mono ?_;(all_goals try exact P0.out);rintro e w5 ⟨⟨o5,l5,c50,rfl⟩,hf⟩;(have xs8:=Fr.size hf;have T1:=hqZ (Fr.transN T0.out hf);clear T0;have P1:=hqZ (PSt.new (P0.out) hf);clear P0;have B1:=hqZ (Blk.next B0.out hf id);clear B0;obtain⟨xk0,xl4⟩:=Blk.k10 B1.out;clear hf;clear xk10))
   cases q3:((hd ts1).text.toList == [105,110])
   case true =>
    have E3:=hqZ (show whoP [114,101,115,111,117,114,99,101] ts=(aJ (adv ts1)).bind fun e ts3=>.ok ⟨5,e,[],p⟩ ts3 from by rw[E2.out];unfold dE Tok.is;rw[if_pos q3])
    (go_wp2_with fail;refine(ag _ pb tb ts1 ?_).mono ?_;(all_goals try exact P1.out);rintro e w6 ⟨⟨o3,l3,c30,rfl⟩,hp,hf⟩;(have xs10:=Fr.size hf;have T0:=hqZ (Fr.trans' T1.out hf (fun k hk hs=>by omega));clear T1;clear P1;have B0:=hqZ (Blk.next B1.out hf (by show ¬ _;omega));clear B1;obtain⟨xk10,xl5⟩:=Blk.k10 B0.out;have P0:=hqZ hp;clear hp;clear hf;clear xk0))
    cases hs:aJ (adv ts1)with
    | out=>exact absurd (by rw[E3.out,hs];rfl) HN.out
    | bad =>
     (go_wp2_with fail;refine(got (GotE pb tb) (aL HS.out _ pb tb _ ?_ (by rw[hs];intro e;cases e)) hs).mono ?_;(all_goals try exact P0.out);rintro e w7 ⟨_,t,u,⟨a,b,rfl⟩,rfl,hf⟩;(have xs12:=Fr.size hf;have T1:=hqZ (Fr.trans' T0.out hf (fun k hk hs=>by omega));clear T0;clear P0;have B1:=hqZ (Blk.next B0.out hf (by show ¬ _;omega));clear B0;obtain⟨xk0,xl6⟩:=Blk.k10 B1.out;clear hf;clear xk10))
     go_wp2
     go_ret
     rw[E3.out,hs]
     exact⟨t,u,rfl,by exact(T1.out.alloc _)⟩
    | ok y ts1 =>
     (go_wp2_with fail;refine(got (GotE pb tb) (aL HS.out _ pb tb _ ?_ (by rw[hs];intro e;cases e)) hs).mono ?_;(all_goals try exact P0.out);rintro e w7 ⟨rfl,hp,hf⟩;(have xs12:=Fr.size hf;have T1:=hqZ (Fr.trans' T0.out hf (fun k hk hs=>by omega));clear T0;clear P0;have B1:=hqZ (Blk.next B0.out hf (by show ¬ _;omega));clear B0;obtain⟨xk0,xl6⟩:=Blk.k10 B1.out;have P0:=hqZ hp;clear hp;clear hf;clear xk10))
     (go_wp2_with fail;refine(fC _ qb c0 c1 c2 c3 _ c5 c6 c7 c8 c9 p y.1 y.2 (by exact(B1.out.alloc _))).mono ?_;rintro e w8 ⟨rfl,hb,hf⟩;(have xs14:=Fr.size hf;simp only[aa,ae,ad,af]at xs14;have T0:=hqZ (Fr.trans' (T1.out.alloc _) hf (fun k hk hs=>by omega));clear T1;have P1:=hqZ (PSt.frame (PSt.over (w0:=w) P0.out (Fr.r.alloc _) ltp ltt) hf (by show ¬ _;omega) (by show ¬ _;omega));clear P0;clear B1;have B0:=hqZ (Blk.next (Blk.at_ _ _ _ (n:=w7.heap.size) rfl) hf (by show ¬ _;omega));obtain⟨xk10,xl7⟩:=Blk.k2 B0.out;have B1:=hqZ hb;obtain⟨xk12,xl8⟩:=Blk.k10 B1.out;clear hb;clear hf;clear xk0))
     go_wp2
     go_ret
     rw[E3.out,hs]
     exact⟨_,_,rfl,.inr (.inr (.inr (.inr (.inr ⟨_,_,rfl,rfl⟩)))),by exact B1.out,by exact P1.out,by exact T0.out⟩
   have E3:=hqZ (show whoP [114,101,115,111,117,114,99,101] ts = .ok ⟨4,(an,an),[],p⟩ ts1 from by rw[E2.out];unfold dE Tok.is;rw[if_neg (by simp[q3])])
   (go_wp2_with fail;refine(gm _ qb c0 c1 c2 c3 _ c5 c6 c7 c8 c9 p (by exact B1.out)).mono ?_;rintro e w6 ⟨rfl,hb,hf⟩;(have xs10:=Fr.size hf;have T0:=hqZ (Fr.trans' T1.out hf (fun k hk hs=>by omega));clear T1;have P0:=hqZ (PSt.frame (P1.out) hf (by show ¬ _;omega) (by show ¬ _;omega));clear P1;clear B1;have B0:=hqZ hb;obtain⟨xk10,xl5⟩:=Blk.k10 B0.out;clear hb;clear hf;clear xk0))
   go_wp2
   go_ret
   rw[E3.out]
   exact⟨_,_,rfl,.inr (.inr (.inr (.inr (.inl ⟨_,rfl,rfl⟩)))),by exact B0.out,by exact P0.out,by exact T0.out⟩
 cases q4:((hd (adv ts)).text.toList == [105,110])
 case true =>
  have E1:=hqZ (show whoP [114,101,115,111,117,114,99,101] ts=(aJ (adv (adv ts))).bind fun e ts2=>.ok ⟨2,e,[],an⟩ ts2 from by rw[E0.out];unfold cg Tok.is;rw[if_neg (by simp[q1]),if_neg (by simp[q2]),if_pos q4])
  (go_wp2_with fail;refine(ag _ pb tb (adv ts) ?_).mono ?_;(all_goals try exact P1.out);rintro e w3 ⟨⟨o3,l3,c30,rfl⟩,hp,hf⟩;(have xs4:=Fr.size hf;have T1:=hqZ (Fr.trans' T0.out hf (fun k hk hs=>by omega));clear T0;clear P1;have B1:=hqZ (Blk.next B0.out hf (by show ¬ _;omega));clear B0;obtain⟨xk0,xl2⟩:=Blk.k10 B1.out;have P0:=hqZ hp;clear hp;clear hf;clear xk10))
  cases hs:aJ (adv (adv ts))with
  | out=>exact absurd (by rw[E1.out,hs];rfl) HN.out
  | bad =>
   (go_wp2_with fail;refine(got (GotE pb tb) (aL HS.out _ pb tb _ ?_ (by rw[hs];intro e;cases e)) hs).mono ?_;(all_goals try exact P0.out);rintro e w4 ⟨_,t,u,⟨a,b,rfl⟩,rfl,hf⟩;(have xs6:=Fr.size hf;have T0:=hqZ (Fr.trans' T1.out hf (fun k hk hs=>by omega));clear T1;clear P0;have B0:=hqZ (Blk.next B1.out hf (by show ¬ _;omega));clear B1;obtain⟨xk10,xl3⟩:=Blk.k10 B0.out;clear hf;clear xk0))
   go_wp2
   go_ret
   rw[E1.out,hs]
   exact⟨t,u,rfl,by exact(T0.out.alloc _)⟩
  | ok y ts1 =>
   (go_wp2_with fail;refine(got (GotE pb tb) (aL HS.out _ pb tb _ ?_ (by rw[hs];intro e;cases e)) hs).mono ?_;(all_goals try exact P0.out);rintro e w4 ⟨rfl,hp,hf⟩;(have xs6:=Fr.size hf;have T0:=hqZ (Fr.trans' T1.out hf (fun k hk hs=>by omega));clear T1;clear P0;have B0:=hqZ (Blk.next B1.out hf (by show ¬ _;omega));clear B1;obtain⟨xk10,xl3⟩:=Blk.k10 B0.out;have P0:=hqZ hp;clear hp;clear hf;clear xk0))
   (go_wp2_with fail;refine(gn _ qb c0 c1 c2 c3 _ c5 c6 c7 c8 c9 y.1 y.2 (by exact(B0.out.alloc _))).mono ?_;rintro e w5 ⟨rfl,hb,hf⟩;(have xs8:=Fr.size hf;simp only[aa,ae,ad,af]at xs8;have T1:=hqZ (Fr.trans' (T0.out.alloc _) hf (fun k hk hs=>by omega));clear T0;have P1:=hqZ (PSt.frame (PSt.over (w0:=w) P0.out (Fr.r.alloc _) ltp ltt) hf (by show ¬ _;omega) (by show ¬ _;omega));clear P0;clear B0;have B0:=hqZ (Blk.next (Blk.at_ _ _ _ (n:=w4.heap.size) rfl) hf (by show ¬ _;omega));obtain⟨xk0,xl4⟩:=Blk.k2 B0.out;have B1:=hqZ hb;obtain⟨xk2,xl5⟩:=Blk.k10 B1.out;clear hb;clear hf;clear xk10))
   go_wp2
   go_ret
   rw[E1.out,hs]
   exact⟨_,_,rfl,.inr (.inr (.inl ⟨_,rfl,rfl⟩)),by exact B1.out,by exact P1.out,by exact T1.out⟩
 have E1:=hqZ (show whoP [114,101,115,111,117,114,99,101] ts = .ok Scp.all (adv ts)from by rw[E0.out];unfold cg Tok.is;rw[if_neg (by simp[q1]),if_neg (by simp[q2]),if_neg (by simp[q4])])
 go_wp2
 go_ret
 rw[E1.out]
 exact⟨_,_,rfl,.inl ⟨rfl,rfl⟩,by exact B0.out,by exact P1.out,by exact T0.out⟩
theorem ii(hSV:cC)(w:World)(pb tb qb:Nat)(ts:List Tok)(c0 c1 c2 c4 c5 c6 c7 c8 c9:Value)(h:PSt w pb tb ts)(hb:Blk w qb #[c0,c1,c2,.iface 312 (.agg #[]),c4,c5,c6,c7,c8,c9] 120)(hpq:pb < qb)(htq:tb ≠ qb)(hne:cF ts ≠ .out) :
  Calls Tryz.prog 66 #[.pointer (some ⟨pb,0,none⟩),.pointer (some ⟨qb,0,none⟩)] w (GotQ pb tb qb (fun v=>#[c0,c1,c2,v,c4,c5,c6,c7,c8,c9]) w (cF ts)):=by
 have hft:=aq
 have ltp:=h.lt
 have ltt:=h.lt2
 have ltq:=hb.lt
 have P0:=hqZ h
 have B0:=hqZ hb
 have T0:=hqZ (Fr.refl (fun k=>k=pb\/k=qb) w)
 have HN:=hqZ hne
 have HS:=hqZ hSV
 clear h hne hSV hb
 go_enter Tryz.func66,Tryz.ntmps66
 cases hq:((hd ts).text.toList == [97,99,116,105,111,110])
 case false =>
  have ER:=hqZ (show cF ts = .bad from by simp[whoP,cF,ak,Tok.is,hq,PR.bind])
  (go_wp2_with fail;refine(bf _ pb tb ts [97,99,116,105,111,110] ?_ hq).mono ?_;(all_goals try exact P0.out);rintro e w1 ⟨⟨t,u,rfl⟩,hf⟩;(have xs0:=Fr.size hf;have T1:=hqZ (Fr.trans' T0.out hf (fun k hk hs=>by omega));clear T0;clear P0;have B1:=hqZ (Blk.next B0.out hf (by show ¬ _;omega));clear B0;obtain⟨xk0,xl0⟩:=Blk.k10 B1.out;clear hf))
  go_wp2
  go_ret
  rw[ER.out]
  exact⟨t,u,rfl,by exact T1.out⟩
 have E0:=hqZ (show cF ts=dk (adv ts)from by simp[whoP,cF,ak,Tok.is,hq,PR.bind])
 (go_wp2_with fail;refine(aQ _ pb tb ts [97,99,116,105,111,110] ?_ hq).mono ?_;(all_goals try exact P0.out);rintro e w1 ⟨rfl,hp,hf⟩;(have xs0:=Fr.size hf;have T1:=hqZ (Fr.trans' T0.out hf (fun k hk hs=>by omega));clear T0;clear P0;have B1:=hqZ (Blk.next B0.out hf (by show ¬ _;omega));clear B0;obtain⟨xk0,xl0⟩:=Blk.k10 B1.out;have P0:=hqZ hp;clear hp;clear hf))
 (go_wp2_with fail;refine(ay _ pb tb (adv ts) ?_).mono ?_;(all_goals try exact P0.out);rintro e w2 ⟨⟨o,l,c,rfl⟩,hf⟩;(have xs2:=Fr.size hf;have T0:=hqZ (Fr.transN T1.out hf);clear T1;have P1:=hqZ (PSt.new (P0.out) hf);clear P0;have B0:=hqZ (Blk.next B1.out hf id);clear B1;obtain⟨xk10,xl1⟩:=Blk.k10 B0.out;clear hf;clear xk0))
 cases q1:((hd (adv ts)).text.toList == [61,61])
 case true =>
  have E1:=hqZ (show cF ts=(aJ (adv (adv ts))).bind fun e ts2=>.ok ⟨1,e,[],an⟩ ts2 from by rw[E0.out];unfold dk Tok.is;rw[if_pos q1])
  (go_wp2_with fail;refine(ag _ pb tb (adv ts) ?_).mono ?_;(all_goals try exact P1.out);rintro e w3 ⟨⟨o3,l3,c30,rfl⟩,hp,hf⟩;(have xs4:=Fr.size hf;have T1:=hqZ (Fr.trans' T0.out hf (fun k hk hs=>by omega));clear T0;clear P1;have B1:=hqZ (Blk.next B0.out hf (by show ¬ _;omega));clear B0;obtain⟨xk0,xl2⟩:=Blk.k10 B1.out;have P0:=hqZ hp;clear hp;clear hf;clear xk10))
  cases hs:aJ (adv (adv ts))with
  | out=>exact absurd (by rw[E1.out,hs];rfl) HN.out
  | bad =>
   (go_wp2_with fail;refine(got (GotE pb tb) (aL HS.out _ pb tb _ ?_ (by rw[hs];intro e;cases e)) hs).mono ?_;(all_goals try exact P0.out);rintro e w4 ⟨_,t,u,⟨a,b,rfl⟩,rfl,hf⟩;(have xs6:=Fr.size hf;have T0:=hqZ (Fr.trans' T1.out hf (fun k hk hs=>by omega));clear T1;clear P0;have B0:=hqZ (Blk.next B1.out hf (by show ¬ _;omega));clear B1;obtain⟨xk10,xl3⟩:=Blk.k10 B0.out;clear hf;clear xk0))
   go_wp2
   go_ret
   rw[E1.out,hs]
   exact⟨t,u,rfl,by exact(T0.out.alloc _)⟩
  | ok y ts1 =>
   (go_wp2_with fail;refine(got (GotE pb tb) (aL HS.out _ pb tb _ ?_ (by rw[hs];intro e;cases e)) hs).mono ?_;(all_goals try exact P0.out);rintro e w4 ⟨rfl,hp,hf⟩;(have xs6:=Fr.size hf;have T0:=hqZ (Fr.trans' T1.out hf (fun k hk hs=>by omega));clear T1;clear P0;have B0:=hqZ (Blk.next B1.out hf (by show ¬ _;omega));clear B1;obtain⟨xk10,xl3⟩:=Blk.k10 B0.out;have P0:=hqZ hp;clear hp;clear hf;clear xk0))
   (go_wp2_with fail;refine(io _ qb c0 c1 c2 _ c4 c5 c6 c7 c8 c9 y.1 y.2 (by exact(B0.out.alloc _))).mono ?_;rintro e w5 ⟨rfl,hb,hf⟩;(have xs8:=Fr.size hf;simp only[aa,ae,ad,af]at xs8;have T1:=hqZ (Fr.trans' (T0.out.alloc _) hf (fun k hk hs=>by omega));clear T0;have P1:=hqZ (PSt.frame (PSt.over (w0:=w) P0.out (Fr.r.alloc _) ltp ltt) hf (by show ¬ _;omega) (by show ¬ _;omega));clear P0;clear B0;have B0:=hqZ (Blk.next (Blk.at_ _ _ _ (n:=w4.heap.size) rfl) hf (by show ¬ _;omega));obtain⟨xk0,xl4⟩:=Blk.k2 B0.out;have B1:=hqZ hb;obtain⟨xk2,xl5⟩:=Blk.k10 B1.out;clear hb;clear hf;clear xk10))
   go_wp2
   go_ret
   rw[E1.out,hs]
   exact⟨_,_,rfl,.inr (.inl ⟨_,rfl,rfl⟩),by exact B1.out,by exact P1.out,by exact T1.out⟩
 cases q2:((hd (adv ts)).text.toList == [105,110])
 case true =>
  have E1:=hqZ (show cF ts=gM (adv (adv ts))from by rw[E0.out];unfold dk Tok.is;rw[if_neg (by simp[q1]),if_pos q2])
  (go_wp2_with fail;refine(ag _ pb tb (adv ts) ?_).mono ?_;(all_goals try exact P1.out);rintro e w3 ⟨⟨o3,l3,c30,rfl⟩,hp,hf⟩;(have xs4:=Fr.size hf;have T1:=hqZ (Fr.trans' T0.out hf (fun k hk hs=>by omega));clear T0;clear P1;have B1:=hqZ (Blk.next B0.out hf (by show ¬ _;omega));clear B0;obtain⟨xk0,xl2⟩:=Blk.k10 B1.out;have P0:=hqZ hp;clear hp;clear hf;clear xk10))
  (go_wp2_with fail;refine(ay _ pb tb (adv (adv ts)) ?_).mono ?_;(all_goals try exact P0.out);rintro e w4 ⟨⟨o4,l4,c40,rfl⟩,hf⟩;(have xs6:=Fr.size hf;have T0:=hqZ (Fr.transN T1.out hf);clear T1;have P1:=hqZ (PSt.new (P0.out) hf);clear P0;have B0:=hqZ (Blk.next B1.out hf id);clear B1;obtain⟨xk10,xl3⟩:=Blk.k10 B0.out;clear hf;clear xk0))
  cases q3:((hd (adv (adv ts))).text.toList == [91])
  case true =>
   have E2:=hqZ (show cF ts=(aj aU [] (adv (adv (adv ts)))).bind fun l ts2=>.ok ⟨3,(an,an),l,an⟩ (adv ts2)from by rw[E1.out];unfold gM Tok.is;rw[if_pos q3])
   (go_wp2_with fail;refine(ag _ pb tb (adv (adv ts)) ?_).mono ?_;(all_goals try exact P1.out);rintro e w5 ⟨⟨o5,l5,c50,rfl⟩,hp,hf⟩;(have xs8:=Fr.size hf;have T1:=hqZ (Fr.trans' T0.out hf (fun k hk hs=>by omega));clear T0;clear P1;have B1:=hqZ (Blk.next B0.out hf (by show ¬ _;omega));clear B0;obtain⟨xk0,xl4⟩:=Blk.k10 B1.out;have P0:=hqZ hp;clear hp;clear hf;clear xk10))
   cases hs:aj aU [] (adv (adv (adv ts)))with
   | out=>exact absurd (by rw[E2.out,hs];rfl) HN.out
   | bad =>
    (go_wp2_with fail;refine(got (sh pb tb) (gy HS.out _ pb tb _ ?_ (by rw[hs];intro e;cases e)) hs).mono ?_;(all_goals try exact P0.out);rintro e w6 ⟨v,t,u,rfl,hf⟩;(have xs10:=Fr.size hf;have T0:=hqZ (Fr.trans' T1.out hf (fun k hk hs=>by omega));clear T1;clear P0;have B0:=hqZ (Blk.next B1.out hf (by show ¬ _;omega));clear B1;obtain⟨xk10,xl5⟩:=Blk.k10 B0.out;clear hf;clear xk0))
    go_wp2
    go_ret
    rw[E2.out,hs]
    exact⟨t,u,rfl,by exact T0.out⟩
   | ok ents ts1 =>
    have E3:=hqZ (show cF ts = .ok ⟨3,(an,an),ents,an⟩ (adv ts1)from by rw[E2.out,hs];rfl)
    (go_wp2_with fail;refine(got (sh pb tb) (gy HS.out _ pb tb _ ?_ (by rw[hs];intro e;cases e)) hs).mono ?_;(all_goals try exact P0.out);rintro e w6 ⟨v,rfl,hacc,hll,hp,hf⟩;(have xs10:=Fr.size hf;have T0:=hqZ (Fr.trans' T1.out hf (fun k hk hs=>by omega));clear T1;clear P0;have B0:=hqZ (Blk.next B1.out hf (by show ¬ _;omega));clear B1;obtain⟨xk10,xl5⟩:=Blk.k10 B0.out;have X0:=hqZ (Acc.mono (Z':=fun g=>w5.heap.size<=g/\g < w6.heap.size) (hZ:=fun g h1 h2=>⟨h2,h1⟩) (h:=hacc));clear hacc;have P0:=hqZ hp;clear hp;clear hf;clear xk0))
    clear hs
    have hacc:Acc entE w6 (fun g=>w5.heap.size<=g) v ents 153 2:=by exact Acc.mono (h:=X0.out) (hZ:=fun g _ hg=>by omega)
    obtain⟨xs,hrow,hel⟩:=hacc.row hll
    obtain rfl:=ents_of hel
    obtain⟨A,cap,rfl⟩:∃ A cap,v = .slice A ents.length cap:=by obtain⟨_,_,A,cap,e,_⟩:=hrow;exact⟨A,cap,e⟩
    have HR:=hqZ hrow
    clear hacc hrow hel
    (go_wp2_with fail;refine(fO _ qb c0 c1 c2 _ c4 c5 c6 c7 c8 c9 A _ cap (by exact B0.out)).mono ?_;rintro e w7 ⟨rfl,hb,hf⟩;(have xs12:=Fr.size hf;have T1:=hqZ (Fr.trans' T0.out hf (fun k hk hs=>by omega));clear T0;have P1:=hqZ (PSt.frame (P0.out) hf (by show ¬ _;omega) (by show ¬ _;omega));clear P0;clear B0;have B0:=hqZ hb;obtain⟨xk0,xl6⟩:=Blk.k10 B0.out;clear hb;have X1:=hqZ (Row.carry HR.out (Fr.trans' Fr.r hf (fun k _ hs=>by omega)));clear HR;have X2:=hqZ (Acc.carry X0.out (Fr.trans' Fr.r hf (fun k _ hs=>by omega)));clear X0;clear hf;clear xk10))
    (go_wp2_with fail;refine(ag _ pb tb ts1 ?_).mono ?_;(all_goals try exact P1.out);rintro e w8 ⟨⟨o8,l8,c80,rfl⟩,hp,hf⟩;(have xs14:=Fr.size hf;have T0:=hqZ (Fr.trans' T1.out hf (fun k hk hs=>by omega));clear T1;clear P1;have B1:=hqZ (Blk.next B0.out hf (by show ¬ _;omega));clear B0;obtain⟨xk10,xl7⟩:=Blk.k10 B1.out;have X0:=hqZ (Row.carry X1.out (Fr.trans' Fr.r hf (fun k _ hs=>by omega)));clear X1;have X1:=hqZ (Acc.carry X2.out (Fr.trans' Fr.r hf (fun k _ hs=>by omega)));clear X2;have P0:=hqZ hp;clear hp;clear hf;clear xk0))
    go_wp2
    go_ret
    rw[E3.out]
    exact⟨160,.agg #[.slice A ents.length cap],rfl,.inr (.inr (.inr (.inl ⟨_,.slice A ents.length cap,rfl,rfl,by exact Row.mono (h:=X0.out) (hZ:=fun g _ hg=>by omega)⟩))),by exact B1.out,by exact P0.out,by exact T0.out⟩
  have E2:=hqZ (show cF ts=(aJ (adv (adv ts))).bind fun e ts2=>.ok ⟨2,e,[],an⟩ ts2 from by rw[E1.out];unfold gM Tok.is;rw[if_neg (by simp[q3])])
  cases hs:aJ (adv (adv ts))with
  | out=>exact absurd (by rw[E2.out,hs];rfl) HN.out
  | bad =>
   (go_wp2_with fail;refine(got (GotE pb tb) (aL HS.out _ pb tb _ ?_ (by rw[hs];intro e;cases e)) hs).mono ?_;(all_goals try exact P1.out);rintro e w5 ⟨_,t,u,⟨a,b,rfl⟩,rfl,hf⟩;(have xs8:=Fr.size hf;have T1:=hqZ (Fr.trans' T0.out hf (fun k hk hs=>by omega));clear T0;clear P1;have B1:=hqZ (Blk.next B0.out hf (by show ¬ _;omega));clear B0;obtain⟨xk0,xl4⟩:=Blk.k10 B1.out;clear hf;clear xk10))
   go_wp2
   go_ret
   rw[E2.out,hs]
   exact⟨t,u,rfl,by exact(T1.out.alloc _)⟩
  | ok y ts1 =>
   (go_wp2_with fail;refine(got (GotE pb tb) (aL HS.out _ pb tb _ ?_ (by rw[hs];intro e;cases e)) hs).mono ?_;(all_goals try exact P1.out);rintro e w5 ⟨rfl,hp,hf⟩;(have xs8:=Fr.size hf;have T1:=hqZ (Fr.trans' T0.out hf (fun k hk hs=>by omega));clear T0;clear P1;have B1:=hqZ (Blk.next B0.out hf (by show ¬ _;omega));clear B0;obtain⟨xk0,xl4⟩:=Blk.k10 B1.out;have P0:=hqZ hp;clear hp;clear hf;clear xk10))
   (go_wp2_with fail;refine(im _ qb c0 c1 c2 _ c4 c5 c6 c7 c8 c9 y.1 y.2 (by exact(B1.out.alloc _))).mono ?_;rintro e w6 ⟨rfl,hb,hf⟩;(have xs10:=Fr.size hf;simp only[aa,ae,ad,af]at xs10;have T0:=hqZ (Fr.trans' (T1.out.alloc _) hf (fun k hk hs=>by omega));clear T1;have P1:=hqZ (PSt.frame (PSt.over (w0:=w) P0.out (Fr.r.alloc _) ltp ltt) hf (by show ¬ _;omega) (by show ¬ _;omega));clear P0;clear B1;have B0:=hqZ (Blk.next (Blk.at_ _ _ _ (n:=w5.heap.size) rfl) hf (by show ¬ _;omega));obtain⟨xk10,xl5⟩:=Blk.k2 B0.out;have B1:=hqZ hb;obtain⟨xk12,xl6⟩:=Blk.k10 B1.out;clear hb;clear hf;clear xk0))
   go_wp2
   go_ret
   rw[E2.out,hs]
   exact⟨_,_,rfl,.inr (.inr (.inl ⟨_,rfl,rfl⟩)),by exact B1.out,by exact P1.out,by exact T0.out⟩
 have E1:=hqZ (show cF ts = .ok Scp.all (adv ts)from by rw[E0.out];unfold dk Tok.is;rw[if_neg (by simp[q1]),if_neg (by simp[q2])])
 go_wp2
 go_ret
 rw[E1.out]
 exact⟨_,_,rfl,.inl ⟨rfl,rfl⟩,by exact B0.out,by exact P1.out,by exact T0.out⟩
end Go.Proofs.YtbdhlpeckennjaaGreatDoor
