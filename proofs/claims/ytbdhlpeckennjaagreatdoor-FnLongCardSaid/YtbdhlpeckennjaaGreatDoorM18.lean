/- FnLong (the proof that the law returns true for every input), part 18 of 52; the last part says what is proved, and its condition. -/
import Derived.Test.YtbdhlpeckennjaaGreatDoorM08
import Derived.Test.YtbdhlpeckennjaaGreatDoorM10
import Derived.Test.YtbdhlpeckennjaaGreatDoorM17
set_option linter.unusedVariables false
set_option linter.unusedSimpArgs false
set_option maxHeartbeats 80000000
set_option maxRecDepth 1000000
namespace Go.Proofs.YtbdhlpeckennjaaGreatDoor
open Go Go.RowKit
def sd:Prop:=∀ (w:World) (Z:Nat->Prop) (t:TypeId) (u:Value) (s:ByteArray) (v:Value) (l:List Ex) (vs:List Value),l.length<=100000->Row w Z v l.length 1 vs->RepL w Z l vs ->
 Calls Tryz.prog 244 #[.agg #[.iface t u],.string s,v] w fun e w'=>∃ sv,e = .returned (.agg #[.iface 200 (.agg #[.string s,sv])])/\Row w' (w.heap.size <= ·) sv (l.length+1) 1 (.iface t u::vs)/\New w w'
theorem dm{w w':World}{p:Addr}{v:Value}(h:w.cell? p=some v)(hf:Fr (fun _=>False) w w'):w'.cell? p=some v:=(hf.cell (World.block_lt_of_cell? w p h) id).trans h
section
variable {x:Ex} {name:ByteArray} {l:List Ex} {op:Nat} {y:Ex}
theorem dD(h:da name.toList=some op):bx x name [y]=some (.opn op [x,y]):=by
 unfold bx
 split
 .rename_i h2;rw[h]at h2;cases h2;rfl
 .rename_i h2;rw[h]at h2;cases h2
theorem dC(h:da name.toList=some op)(hl:l.length ≠ 1):bx x name l=none:=by
 unfold bx
 split
 .split
  .exact absurd rfl hl
  .rfl
 .rename_i h2;rw[h]at h2;cases h2
theorem oi(h:da name.toList=none)(h2:name.toList = [105,115,69,109,112,116,121]):bx x name []=some (.opn 29 [x]):=by
 unfold bx
 split
 .rename_i h3;rw[h]at h3;cases h3
 .rw[if_pos h2]
theorem mP(h:da name.toList=none)(h2:name.toList = [105,115,69,109,112,116,121])(hl:l.length ≠ 0):bx x name l=none:=by
 unfold bx
 split
 .rename_i h3;rw[h]at h3;cases h3
 .rw[if_pos h2]
  split
  .exact absurd rfl hl
  .rfl
theorem oh(h:da name.toList=none)(h2:¬ name.toList = [105,115,69,109,112,116,121]):bx x name l=(match eK name.toList with|some true=>some (.named 25 name (x::l))|_=>none):=by
 unfold bx
 split
 .rename_i h3;rw[h]at h3;cases h3
 .rw[if_neg h2]
  rfl
end
theorem nH(hSV:cC)(hMC:sd)(E:List Tok->PR Ex)(hE:Does 135 E):pG 217 (aC E):=by
 intro w pb tb ts a b m x tx ux h hpa hb hx hne
 have hft:=aq
 have ltp:=h.lt
 have ltt:=h.lt2
 have P0:=hqZ h
 have T0:=hqZ (Fr.refl (· = pb) w)
 have HN:=hqZ hne
 have HE:=hqZ hE
 have HS:=hqZ hSV
 have HC:=hqZ hMC
 have X0:=hqZ hx
 clear h hne hE hSV hMC hx
 go_enter Tryz.func217,Tryz.ntmps217
 (go_wp2_with fail;refine(ay _ pb tb ts ?_).mono ?_;(all_goals try exact PSt.over (w0:=w) P0.out ((Fr.r.alloc _).alloc _) ltp ltt);rintro e w1 ⟨⟨o,l,c,rfl⟩,hf⟩;(have xs0:=Fr.size hf;simp only[aa,ae,ad,af]at xs0;have T1:=hqZ (Fr.transN ((T0.out.alloc _).alloc _) hf);clear T0;have P1:=hqZ (PSt.new (PSt.over (w0:=w) P0.out ((Fr.r.alloc _).alloc _) ltp ltt) hf);clear P0;have B0:=hqZ (Blk.next ((Blk.at_ _ _ _ (n:=w.heap.size) rfl).alloc _) hf id);obtain⟨xk0,xl0⟩:=Blk.k1 B0.out;have B1:=hqZ (Blk.next (Blk.at_ _ _ _ (n:=w.heap.size+1) (by simp only[aa,ae,ad,af])) hf id);obtain⟨xk1,xl1⟩:=Blk.k1 B1.out;have X1:=hqZ (Rep.carry X0.out (Fr.transN ((Fr.r.alloc _).alloc _) hf));clear X0;clear hf))
 cases hq:((hd ts).text.toList == [46])
 case false =>
  cases hq2:((hd ts).text.toList == [91])
  case false =>
   have ER:=hqZ (show aC E x ts = .ok (.inr x) ts from by simp[aC,Tok.is,hq,hq2])
   go_wp2
   try go_region
   all_goals
    try go_wp2
    refine bodyPost_ret (v:=(.tuple #[.agg #[.iface tx ux],.bool false,.nilIface])) (by simp only[results,Tryz.results217];go_simp) rfl ?_
    rw[ER.out]
    exact⟨tx,ux,rfl,by exact Rep.mono (h:=(Rep.carry X1.out ((Fr.r.set (.inl (by omega))).alloc _))) (hZ:=fun g _ hg=>by omega),by exact PSt.over (w0:=w) P1.out ((Fr.r.set (.inl (by omega))).alloc _) ltp ltt,by exact((T1.out.set (.inr (by omega))).alloc _)⟩
  (go_wp2_with fail;refine(ag _ pb tb ts ?_).mono ?_;(all_goals try exact PSt.over (w0:=w) P1.out (Fr.r.alloc _) ltp ltt);rintro e w2 ⟨⟨o2,l2,c2,rfl⟩,hp,hf⟩;(have xs2:=Fr.size hf;simp only[aa,ae,ad,af]at xs2;have T0:=hqZ (Fr.trans (T1.out.alloc _) hf);clear T1;clear P1;have B2:=hqZ (Blk.next (B0.out.alloc _) hf (by show ¬ _;omega));clear B0;obtain⟨xk2,xl2⟩:=Blk.k1 B2.out;have B0:=hqZ (Blk.next (B1.out.alloc _) hf (by show ¬ _;omega));clear B1;obtain⟨xk3,xl3⟩:=Blk.k1 B0.out;have B1:=hqZ (Blk.next (Blk.at_ _ _ _ (n:=w1.heap.size) rfl) hf (by show ¬ _;omega));obtain⟨xk4,xl4⟩:=Blk.k6 B1.out;have X0:=hqZ (Rep.carry X1.out (Fr.trans' (Fr.r.alloc _) hf (fun k _ hs=>by omega)));clear X1;have P0:=hqZ hp;clear hp;clear hf;clear xk0 xk1))
  have hz1:=PSt.fine P0.out |>.hd
  (go_wp2_with fail;refine(ag _ pb tb (adv ts) ?_).mono ?_;(all_goals try exact P0.out);rintro e w3 ⟨⟨o3,l3,c3,rfl⟩,hp,hf⟩;(have xs4:=Fr.size hf;have T1:=hqZ (Fr.trans T0.out hf);clear T0;clear P0;have B3:=hqZ (Blk.next B2.out hf (by show ¬ _;omega));clear B2;obtain⟨xk0,xl5⟩:=Blk.k1 B3.out;have B2:=hqZ (Blk.next B0.out hf (by show ¬ _;omega));clear B0;obtain⟨xk1,xl6⟩:=Blk.k1 B2.out;have B0:=hqZ (Blk.next B1.out hf (by show ¬ _;omega));clear B1;obtain⟨xk10,xl7⟩:=Blk.k6 B0.out;have X1:=hqZ (Rep.carry X0.out (Fr.trans' Fr.r hf (fun k _ hs=>by omega)));clear X0;have P0:=hqZ hp;clear hp;clear hf;clear xk2 xk3 xk4))
  cases hj:(((hd (adv ts)).kind:Int) == 4)
  case false =>
   have hj':¬ (hd (adv ts)).kind=4:=by simp at hj;omega
   have ER:=hqZ (show aC E x ts = .bad from by simp[aC,Tok.is,hq,hq2,hj'])
   (go_wp2_with fail;refine(aG _ _ _ _ _ _ _).mono ?_;rintro e w4 ⟨rfl,hf⟩;(have xs6:=Fr.size hf;simp only[aa,ae,ad,af]at xs6;have T0:=hqZ (Fr.transN (T1.out.alloc _) hf);clear T1;have P1:=hqZ (PSt.new (PSt.over (w0:=w) P0.out (Fr.r.alloc _) ltp ltt) hf);clear P0;have B1:=hqZ (Blk.next (B3.out.alloc _) hf id);clear B3;obtain⟨xk2,xl8⟩:=Blk.k1 B1.out;have B3:=hqZ (Blk.next (B2.out.alloc _) hf id);clear B2;obtain⟨xk3,xl9⟩:=Blk.k1 B3.out;have B2:=hqZ (Blk.next (B0.out.alloc _) hf id);clear B0;obtain⟨xk4,xl10⟩:=Blk.k6 B2.out;have B0:=hqZ (Blk.next (Blk.at_ _ _ _ (n:=w3.heap.size) rfl) hf id);obtain⟨xk16,xl11⟩:=Blk.k6 B0.out;have X0:=hqZ (Rep.carry X1.out (Fr.transN (Fr.r.alloc _) hf));clear X1;clear hf;clear xk0 xk1 xk10))
   (go_wp2_with fail;refine(ax _ pb tb (adv (adv ts)) _ _ ?_).mono ?_;(all_goals try exact P1.out);rintro e w5 ⟨⟨t,u,rfl⟩,hf⟩;(have xs8:=Fr.size hf;have T1:=hqZ (Fr.transN T0.out hf);clear T0;have P0:=hqZ (PSt.new (P1.out) hf);clear P1;have B4:=hqZ (Blk.next B1.out hf id);clear B1;obtain⟨xk0,xl12⟩:=Blk.k1 B4.out;have B1:=hqZ (Blk.next B3.out hf id);clear B3;obtain⟨xk1,xl13⟩:=Blk.k1 B1.out;have B3:=hqZ (Blk.next B2.out hf id);clear B2;obtain⟨xk10,xl14⟩:=Blk.k6 B3.out;have B2:=hqZ (Blk.next B0.out hf id);clear B0;obtain⟨xk22,xl15⟩:=Blk.k6 B2.out;have X1:=hqZ (Rep.carry X0.out (Fr.transN Fr.r hf));clear X0;clear hf;clear xk2 xk3 xk4 xk16))
   go_wp2
   refine bodyPost_ret (v:=(.tuple #[.agg #[.nilIface],.bool false,.iface t u])) (by simp only[results,Tryz.results217];go_simp) rfl ?_
   rw[ER.out]
   exact⟨t,u,rfl,by exact(T1.out.set (.inr (by omega)))⟩
  have hj':(hd (adv ts)).kind=4:=by simp at hj;omega
  have E1:=hqZ (show aC E x ts=(bw (aX (hd (adv ts)).text) fun s=>(ak [93] (adv (adv ts))).bind fun _ ts1=>.ok (Sum.inl (.named 23 s [x])) ts1)from by simp[aC,Tok.is,hq,hq2,hj'])
  (go_wp2_with fail;refine(aG _ _ _ _ _ _ _).mono ?_;rintro e w4 ⟨rfl,hf⟩;(have xs6:=Fr.size hf;simp only[aa,ae,ad,af]at xs6;have T0:=hqZ (Fr.transN (T1.out.alloc _) hf);clear T1;have P1:=hqZ (PSt.new (PSt.over (w0:=w) P0.out (Fr.r.alloc _) ltp ltt) hf);clear P0;have B1:=hqZ (Blk.next (B3.out.alloc _) hf id);clear B3;obtain⟨xk2,xl8⟩:=Blk.k1 B1.out;have B3:=hqZ (Blk.next (B2.out.alloc _) hf id);clear B2;obtain⟨xk3,xl9⟩:=Blk.k1 B3.out;have B2:=hqZ (Blk.next (B0.out.alloc _) hf id);clear B0;obtain⟨xk4,xl10⟩:=Blk.k6 B2.out;have B0:=hqZ (Blk.next (Blk.at_ _ _ _ (n:=w3.heap.size) rfl) hf id);obtain⟨xk16,xl11⟩:=Blk.k6 B0.out;have X0:=hqZ (Rep.carry X1.out (Fr.transN (Fr.r.alloc _) hf));clear X1;clear hf;clear xk0 xk1 xk10))
  cases hv:aX (hd (adv ts)).text with
  | none =>
   (go_wp2_with fail;refine(sv (HS.out _ _ _ _ _ _ _ hz1 (by exact(PSt.glob (P1.out)).1)) hv).mono ?_;rintro e w5 ⟨s,t,u,rfl,hf⟩;(have xs8:=Fr.size hf;have T1:=hqZ (Fr.transN T0.out hf);clear T0;have P0:=hqZ (PSt.new (P1.out) hf);clear P1;have B4:=hqZ (Blk.next B1.out hf id);clear B1;obtain⟨xk0,xl12⟩:=Blk.k1 B4.out;have B1:=hqZ (Blk.next B3.out hf id);clear B3;obtain⟨xk1,xl13⟩:=Blk.k1 B1.out;have B3:=hqZ (Blk.next B2.out hf id);clear B2;obtain⟨xk10,xl14⟩:=Blk.k6 B3.out;have B2:=hqZ (Blk.next B0.out hf id);clear B0;obtain⟨xk22,xl15⟩:=Blk.k6 B2.out;have X1:=hqZ (Rep.carry X0.out (Fr.transN Fr.r hf));clear X0;clear hf;clear xk2 xk3 xk4 xk16))
   go_wp2
   refine bodyPost_ret (v:=(.tuple #[.agg #[.nilIface],.bool false,.iface t u])) (by simp only[results,Tryz.results217];go_simp) rfl ?_
   rw[E1.out,hv]
   exact⟨t,u,rfl,by exact(T1.out.set (.inr (by omega)))⟩
  | some s =>
   have E2:=hqZ (show aC E x ts=(ak [93] (adv (adv ts))).bind fun _ ts1=>.ok (Sum.inl (.named 23 s [x])) ts1 from by rw[E1.out,hv];rfl)
   (go_wp2_with fail;refine(sv (HS.out _ _ _ _ _ _ _ hz1 (by exact(PSt.glob (P1.out)).1)) hv).mono ?_;rintro e w5 ⟨rfl,hf⟩;(have xs8:=Fr.size hf;have T1:=hqZ (Fr.transN T0.out hf);clear T0;have P0:=hqZ (PSt.new (P1.out) hf);clear P1;have B4:=hqZ (Blk.next B1.out hf id);clear B1;obtain⟨xk0,xl12⟩:=Blk.k1 B4.out;have B1:=hqZ (Blk.next B3.out hf id);clear B3;obtain⟨xk1,xl13⟩:=Blk.k1 B1.out;have B3:=hqZ (Blk.next B2.out hf id);clear B2;obtain⟨xk10,xl14⟩:=Blk.k6 B3.out;have B2:=hqZ (Blk.next B0.out hf id);clear B0;obtain⟨xk22,xl15⟩:=Blk.k6 B2.out;have X1:=hqZ (Rep.carry X0.out (Fr.transN Fr.r hf));clear X0;clear hf;clear xk2 xk3 xk4 xk16))
   clear hv
   cases he:((hd (adv (adv ts))).text.toList == [93])
   case false =>
    (go_wp2_with fail;refine(bf _ pb tb _ _ ?_ he).mono ?_;(all_goals try exact P0.out);rintro e w6 ⟨⟨t,u,rfl⟩,hf⟩;(have xs10:=Fr.size hf;have T0:=hqZ (Fr.trans T1.out hf);clear T1;clear P0;have B0:=hqZ (Blk.next B4.out hf (by show ¬ _;omega));clear B4;obtain⟨xk2,xl16⟩:=Blk.k1 B0.out;have B4:=hqZ (Blk.next B1.out hf (by show ¬ _;omega));clear B1;obtain⟨xk3,xl17⟩:=Blk.k1 B4.out;have B1:=hqZ (Blk.next B3.out hf (by show ¬ _;omega));clear B3;obtain⟨xk4,xl18⟩:=Blk.k6 B1.out;have B3:=hqZ (Blk.next B2.out hf (by show ¬ _;omega));clear B2;obtain⟨xk16,xl19⟩:=Blk.k6 B3.out;have X0:=hqZ (Rep.carry X1.out (Fr.trans' Fr.r hf (fun k _ hs=>by omega)));clear X1;clear hf;clear xk0 xk1 xk10 xk22))
    go_wp2
    refine bodyPost_ret (v:=(.tuple #[.agg #[.nilIface],.bool false,.iface t u])) (by simp only[results,Tryz.results217];go_simp) rfl ?_
    rw[E2.out,show ak [93] (adv (adv ts)) = .bad from by simp[ak,Tok.is,he]]
    exact⟨t,u,rfl,by exact(T0.out.set (.inr (by omega)))⟩
   case true =>
    have ER:=hqZ (show aC E x ts = .ok (Sum.inl (.named 23 s [x])) (adv (adv (adv ts)))from by rw[E2.out];simp[ak,Tok.is,he,PR.bind])
    (go_wp2_with fail;refine(aQ _ pb tb _ _ ?_ he).mono ?_;(all_goals try exact P0.out);rintro e w6 ⟨rfl,hp,hf⟩;(have xs10:=Fr.size hf;have T0:=hqZ (Fr.trans T1.out hf);clear T1;clear P0;have B0:=hqZ (Blk.next B4.out hf (by show ¬ _;omega));clear B4;obtain⟨xk2,xl16⟩:=Blk.k1 B0.out;have B4:=hqZ (Blk.next B1.out hf (by show ¬ _;omega));clear B1;obtain⟨xk3,xl17⟩:=Blk.k1 B4.out;have B1:=hqZ (Blk.next B3.out hf (by show ¬ _;omega));clear B3;obtain⟨xk4,xl18⟩:=Blk.k6 B1.out;have B3:=hqZ (Blk.next B2.out hf (by show ¬ _;omega));clear B2;obtain⟨xk16,xl19⟩:=Blk.k6 B3.out;have X0:=hqZ (Rep.carry X1.out (Fr.trans' Fr.r hf (fun k _ hs=>by omega)));clear X1;have P0:=hqZ hp;clear hp;clear hf;clear xk0 xk1 xk10 xk22))
    (go_wp2_with fail;refine(di _ _ _ _).mono ?_;rintro e w7 ⟨rfl,hf⟩;(have xs12:=Fr.size hf;have T1:=hqZ (Fr.transN T0.out hf);clear T0;have P1:=hqZ (PSt.new (P0.out) hf);clear P0;have B2:=hqZ (Blk.next B0.out hf id);clear B0;obtain⟨xk0,xl20⟩:=Blk.k1 B2.out;have B0:=hqZ (Blk.next B4.out hf id);clear B4;obtain⟨xk1,xl21⟩:=Blk.k1 B0.out;have B4:=hqZ (Blk.next B1.out hf id);clear B1;obtain⟨xk10,xl22⟩:=Blk.k6 B4.out;have B1:=hqZ (Blk.next B3.out hf id);clear B3;obtain⟨xk22,xl23⟩:=Blk.k6 B1.out;have X1:=hqZ (Rep.carry X0.out (Fr.transN Fr.r hf));clear X0;clear hf;clear xk2 xk3 xk4 xk16))
    go_wp2
    refine bodyPost_ret (v:=(.tuple #[.agg #[.iface 180 (.agg #[.iface tx ux,.string s])],.bool true,.nilIface])) (by simp only[results,Tryz.results217];go_simp) rfl ?_
    rw[ER.out]
    exact⟨_,_,rfl,.nam 23 _ _ _ _ rfl (by exact Rep.mono (h:=(Rep.carry X1.out (Fr.r.set (.inl (by omega))))) (hZ:=fun g _ hg=>by omega)),by exact PSt.over (w0:=w) P1.out (Fr.r.set (.inl (by omega))) ltp ltt,by exact(T1.out.set (.inr (by omega)))⟩
 case true =>
  (go_wp2_with fail;refine(ag _ pb tb ts ?_).mono ?_;(all_goals try exact PSt.over (w0:=w) P1.out (Fr.r.alloc _) ltp ltt);rintro e w2 ⟨⟨o2,l2,c2,rfl⟩,hp,hf⟩;(have xs2:=Fr.size hf;simp only[aa,ae,ad,af]at xs2;have T0:=hqZ (Fr.trans (T1.out.alloc _) hf);clear T1;clear P1;have B2:=hqZ (Blk.next (B0.out.alloc _) hf (by show ¬ _;omega));clear B0;obtain⟨xk2,xl2⟩:=Blk.k1 B2.out;have B0:=hqZ (Blk.next (B1.out.alloc _) hf (by show ¬ _;omega));clear B1;obtain⟨xk3,xl3⟩:=Blk.k1 B0.out;have B1:=hqZ (Blk.next (Blk.at_ _ _ _ (n:=w1.heap.size) rfl) hf (by show ¬ _;omega));obtain⟨xk4,xl4⟩:=Blk.k6 B1.out;have X0:=hqZ (Rep.carry X1.out (Fr.trans' (Fr.r.alloc _) hf (fun k _ hs=>by omega)));clear X1;have P0:=hqZ hp;clear hp;clear hf;clear xk0 xk1))
  (go_wp2_with fail;refine(ag _ pb tb (adv ts) ?_).mono ?_;(all_goals try exact P0.out);rintro e w3 ⟨⟨o3,l3,c3,rfl⟩,hp,hf⟩;(have xs4:=Fr.size hf;have T1:=hqZ (Fr.trans T0.out hf);clear T0;clear P0;have B3:=hqZ (Blk.next B2.out hf (by show ¬ _;omega));clear B2;obtain⟨xk0,xl5⟩:=Blk.k1 B3.out;have B2:=hqZ (Blk.next B0.out hf (by show ¬ _;omega));clear B0;obtain⟨xk1,xl6⟩:=Blk.k1 B2.out;have B0:=hqZ (Blk.next B1.out hf (by show ¬ _;omega));clear B1;obtain⟨xk10,xl7⟩:=Blk.k6 B0.out;have X1:=hqZ (Rep.carry X0.out (Fr.trans' Fr.r hf (fun k _ hs=>by omega)));clear X0;have P0:=hqZ hp;clear hp;clear hf;clear xk2 xk3 xk4))
  cases hj:(((hd (adv ts)).kind:Int) == 1)
  case false =>
   have hj':¬ (hd (adv ts)).kind=1:=by simp at hj;omega
   have ER:=hqZ (show aC E x ts = .bad from by simp[aC,Tok.is,hq,hj'])
   (go_wp2_with fail;refine(aD _ _ _ _ _ _ _).mono ?_;rintro e w4 ⟨rfl,hf⟩;(have xs6:=Fr.size hf;simp only[aa,ae,ad,af]at xs6;have T0:=hqZ (Fr.transN (T1.out.alloc _) hf);clear T1;have P1:=hqZ (PSt.new (PSt.over (w0:=w) P0.out (Fr.r.alloc _) ltp ltt) hf);clear P0;have B1:=hqZ (Blk.next (B3.out.alloc _) hf id);clear B3;obtain⟨xk2,xl8⟩:=Blk.k1 B1.out;have B3:=hqZ (Blk.next (B2.out.alloc _) hf id);clear B2;obtain⟨xk3,xl9⟩:=Blk.k1 B3.out;have B2:=hqZ (Blk.next (B0.out.alloc _) hf id);clear B0;obtain⟨xk4,xl10⟩:=Blk.k6 B2.out;have B0:=hqZ (Blk.next (Blk.at_ _ _ _ (n:=w3.heap.size) rfl) hf id);obtain⟨xk16,xl11⟩:=Blk.k6 B0.out;have X0:=hqZ (Rep.carry X1.out (Fr.transN (Fr.r.alloc _) hf));clear X1;clear hf;clear xk0 xk1 xk10))
   (go_wp2_with fail;refine(ax _ pb tb (adv (adv ts)) _ _ ?_).mono ?_;(all_goals try exact P1.out);rintro e w5 ⟨⟨t,u,rfl⟩,hf⟩;(have xs8:=Fr.size hf;have T1:=hqZ (Fr.transN T0.out hf);clear T0;have P0:=hqZ (PSt.new (P1.out) hf);clear P1;have B4:=hqZ (Blk.next B1.out hf id);clear B1;obtain⟨xk0,xl12⟩:=Blk.k1 B4.out;have B1:=hqZ (Blk.next B3.out hf id);clear B3;obtain⟨xk1,xl13⟩:=Blk.k1 B1.out;have B3:=hqZ (Blk.next B2.out hf id);clear B2;obtain⟨xk10,xl14⟩:=Blk.k6 B3.out;have B2:=hqZ (Blk.next B0.out hf id);clear B0;obtain⟨xk22,xl15⟩:=Blk.k6 B2.out;have X1:=hqZ (Rep.carry X0.out (Fr.transN Fr.r hf));clear X0;clear hf;clear xk2 xk3 xk4 xk16))
   go_wp2
   refine bodyPost_ret (v:=(.tuple #[.agg #[.nilIface],.bool false,.iface t u])) (by simp only[results,Tryz.results217];go_simp) rfl ?_
   rw[ER.out]
   exact⟨t,u,rfl,by exact(T1.out.set (.inr (by omega)))⟩
  have hj':(hd (adv ts)).kind=1:=by simp at hj;omega
  (go_wp2_with fail;refine(aD _ _ _ _ _ _ _).mono ?_;rintro e w4 ⟨rfl,hf⟩;(have xs6:=Fr.size hf;simp only[aa,ae,ad,af]at xs6;have T0:=hqZ (Fr.transN (T1.out.alloc _) hf);clear T1;have P1:=hqZ (PSt.new (PSt.over (w0:=w) P0.out (Fr.r.alloc _) ltp ltt) hf);clear P0;have B1:=hqZ (Blk.next (B3.out.alloc _) hf id);clear B3;obtain⟨xk2,xl8⟩:=Blk.k1 B1.out;have B3:=hqZ (Blk.next (B2.out.alloc _) hf id);clear B2;obtain⟨xk3,xl9⟩:=Blk.k1 B3.out;have B2:=hqZ (Blk.next (B0.out.alloc _) hf id);clear B0;obtain⟨xk4,xl10⟩:=Blk.k6 B2.out;have B0:=hqZ (Blk.next (Blk.at_ _ _ _ (n:=w3.heap.size) rfl) hf id);obtain⟨xk16,xl11⟩:=Blk.k6 B0.out;have X0:=hqZ (Rep.carry X1.out (Fr.transN (Fr.r.alloc _) hf));clear X1;clear hf;clear xk0 xk1 xk10))
  (go_wp2_with fail;refine(ay _ pb tb (adv (adv ts)) ?_).mono ?_;(all_goals try exact P1.out);rintro e w5 ⟨⟨o4,l4,c4,rfl⟩,hf⟩;(have xs8:=Fr.size hf;have T1:=hqZ (Fr.transN T0.out hf);clear T0;have P0:=hqZ (PSt.new (P1.out) hf);clear P1;have B4:=hqZ (Blk.next B1.out hf id);clear B1;obtain⟨xk0,xl12⟩:=Blk.k1 B4.out;have B1:=hqZ (Blk.next B3.out hf id);clear B3;obtain⟨xk1,xl13⟩:=Blk.k1 B1.out;have B3:=hqZ (Blk.next B2.out hf id);clear B2;obtain⟨xk10,xl14⟩:=Blk.k6 B3.out;have B2:=hqZ (Blk.next B0.out hf id);clear B0;obtain⟨xk22,xl15⟩:=Blk.k6 B2.out;have X1:=hqZ (Rep.carry X0.out (Fr.transN Fr.r hf));clear X0;clear hf;clear xk2 xk3 xk4 xk16))
  cases hr:((hd (adv (adv ts))).text.toList == [40])
  case false =>
   have ER:=hqZ (show aC E x ts = .ok (Sum.inl (.named 23 (hd (adv ts)).text [x])) (adv (adv ts))from by simp[aC,Tok.is,hq,hj',hr])
   (go_wp2_with fail;refine(di _ _ _ _).mono ?_;rintro e w6 ⟨rfl,hf⟩;(have xs10:=Fr.size hf;have T0:=hqZ (Fr.transN T1.out hf);clear T1;have P1:=hqZ (PSt.new (P0.out) hf);clear P0;have B0:=hqZ (Blk.next B4.out hf id);clear B4;obtain⟨xk2,xl16⟩:=Blk.k1 B0.out;have B4:=hqZ (Blk.next B1.out hf id);clear B1;obtain⟨xk3,xl17⟩:=Blk.k1 B4.out;have B1:=hqZ (Blk.next B3.out hf id);clear B3;obtain⟨xk4,xl18⟩:=Blk.k6 B1.out;have B3:=hqZ (Blk.next B2.out hf id);clear B2;obtain⟨xk16,xl19⟩:=Blk.k6 B3.out;have X0:=hqZ (Rep.carry X1.out (Fr.transN Fr.r hf));clear X1;clear hf;clear xk0 xk1 xk10 xk22))
   go_wp2
   refine bodyPost_ret (v:=(.tuple #[.agg #[.iface 180 (.agg #[.iface tx ux,.string (hd (adv ts)).text])],.bool true,.nilIface])) (by simp only[results,Tryz.results217];go_simp) rfl ?_
   rw[ER.out]
   exact⟨_,_,rfl,.nam 23 _ _ _ _ rfl (by exact Rep.mono (h:=(Rep.carry X0.out (Fr.r.set (.inl (by omega))))) (hZ:=fun g _ hg=>by omega)),by exact PSt.over (w0:=w) P1.out (Fr.r.set (.inl (by omega))) ltp ltt,by exact(T0.out.set (.inr (by omega)))⟩
  have E1:=hqZ (show aC E x ts=(bk E [41] (adv (adv (adv ts)))).bind fun l ts1=>bw (bx x (hd (adv ts)).text l) fun y=>.ok (Sum.inl y) (adv ts1)from by simp[aC,Tok.is,hq,hj',hr])
  (go_wp2_with fail;refine(ag _ pb tb (adv (adv ts)) ?_).mono ?_;(all_goals try exact P0.out);rintro e w6 ⟨⟨o5,l5,c5,rfl⟩,hp,hf⟩;(have xs10:=Fr.size hf;have T0:=hqZ (Fr.trans T1.out hf);clear T1;clear P0;have B0:=hqZ (Blk.next B4.out hf (by show ¬ _;omega));clear B4;obtain⟨xk2,xl16⟩:=Blk.k1 B0.out;have B4:=hqZ (Blk.next B1.out hf (by show ¬ _;omega));clear B1;obtain⟨xk3,xl17⟩:=Blk.k1 B4.out;have B1:=hqZ (Blk.next B3.out hf (by show ¬ _;omega));clear B3;obtain⟨xk4,xl18⟩:=Blk.k6 B1.out;have B3:=hqZ (Blk.next B2.out hf (by show ¬ _;omega));clear B2;obtain⟨xk16,xl19⟩:=Blk.k6 B3.out;have X0:=hqZ (Rep.carry X1.out (Fr.trans' Fr.r hf (fun k _ hs=>by omega)));clear X1;have P0:=hqZ hp;clear hp;clear hf;clear xk0 xk1 xk10 xk22))
  cases hs:bk E [41] (adv (adv (adv ts)))with
  | out=>exact absurd (by rw[E1.out,hs];rfl) HN.out
  | bad =>
   (go_wp2_with fail;refine(got (GotL pb tb) (gR E HE.out _ pb tb (adv (adv (adv ts))) [41] ?_ (by rw[hs];intro e;cases e)) hs).mono ?_;(all_goals try exact P0.out);rintro e w7 ⟨v,t,u,rfl,hf⟩;(have xs12:=Fr.size hf;have T1:=hqZ (Fr.trans T0.out hf);clear T0;clear P0;have B2:=hqZ (Blk.next B0.out hf (by show ¬ _;omega));clear B0;obtain⟨xk0,xl20⟩:=Blk.k1 B2.out;have B0:=hqZ (Blk.next B4.out hf (by show ¬ _;omega));clear B4;obtain⟨xk1,xl21⟩:=Blk.k1 B0.out;have B4:=hqZ (Blk.next B1.out hf (by show ¬ _;omega));clear B1;obtain⟨xk10,xl22⟩:=Blk.k6 B4.out;have B1:=hqZ (Blk.next B3.out hf (by show ¬ _;omega));clear B3;obtain⟨xk22,xl23⟩:=Blk.k6 B1.out;have X1:=hqZ (Rep.carry X0.out (Fr.trans' Fr.r hf (fun k _ hs=>by omega)));clear X0;clear hf;clear xk2 xk3 xk4 xk16))
   go_wp2
   refine bodyPost_ret (v:=(.tuple #[.agg #[.nilIface],.bool false,.iface t u])) (by simp only[results,Tryz.results217];go_simp) rfl ?_
   rw[E1.out,hs]
   exact⟨t,u,rfl,by exact(T1.out.set (.inr (by omega)))⟩
  | ok L ts1 =>
   (go_wp2_with fail;refine(got (GotL pb tb) (gR E HE.out _ pb tb (adv (adv (adv ts))) [41] ?_ (by rw[hs];intro e;cases e)) hs).mono ?_;(all_goals try exact P0.out);rintro e w7 ⟨v,rfl,hacc,hll,hp,hf⟩;(have xs12:=Fr.size hf;have T1:=hqZ (Fr.trans T0.out hf);clear T0;clear P0;have B2:=hqZ (Blk.next B0.out hf (by show ¬ _;omega));clear B0;obtain⟨xk0,xl20⟩:=Blk.k1 B2.out;have B0:=hqZ (Blk.next B4.out hf (by show ¬ _;omega));clear B4;obtain⟨xk1,xl21⟩:=Blk.k1 B0.out;have B4:=hqZ (Blk.next B1.out hf (by show ¬ _;omega));clear B1;obtain⟨xk10,xl22⟩:=Blk.k6 B4.out;have B1:=hqZ (Blk.next B3.out hf (by show ¬ _;omega));clear B3;obtain⟨xk22,xl23⟩:=Blk.k6 B1.out;have X1:=hqZ (Rep.carry X0.out (Fr.trans' Fr.r hf (fun k _ hs=>by omega)));clear X0;have X0:=hqZ (Acc.mono (Z':=fun g=>w6.heap.size<=g/\g < w7.heap.size) (hZ:=fun g h1 h2=>⟨h2,h1⟩) (h:=hacc));clear hacc;have P0:=hqZ hp;clear hp;clear hf;clear xk2 xk3 xk4 xk16))
   have E2:=hqZ (show aC E x ts=bw (bx x (hd (adv ts)).text L) fun y=>.ok (Sum.inl y) (adv ts1)from by rw[E1.out,hs];rfl)
   clear hs
   (go_wp2_with fail;refine(ag _ pb tb ts1 ?_).mono ?_;(all_goals try exact P0.out);rintro e w8 ⟨⟨o6,l6,c6,rfl⟩,hp,hf⟩;(have xs14:=Fr.size hf;have T0:=hqZ (Fr.trans T1.out hf);clear T1;clear P0;have B3:=hqZ (Blk.next B2.out hf (by show ¬ _;omega));clear B2;obtain⟨xk2,xl24⟩:=Blk.k1 B3.out;have B2:=hqZ (Blk.next B0.out hf (by show ¬ _;omega));clear B0;obtain⟨xk3,xl25⟩:=Blk.k1 B2.out;have B0:=hqZ (Blk.next B4.out hf (by show ¬ _;omega));clear B4;obtain⟨xk4,xl26⟩:=Blk.k6 B0.out;have B4:=hqZ (Blk.next B1.out hf (by show ¬ _;omega));clear B1;obtain⟨xk16,xl27⟩:=Blk.k6 B4.out;have X2:=hqZ (Rep.carry X1.out (Fr.trans' Fr.r hf (fun k _ hs=>by omega)));clear X1;have X1:=hqZ (Acc.carry X0.out (Fr.trans' Fr.r hf (fun k _ hs=>by omega)));clear X0;have P0:=hqZ hp;clear hp;clear hf;clear xk0 xk1 xk10 xk22))
   have hacc:Acc gZ w8 (fun g=>w6.heap.size<=g/\g < w7.heap.size) v L 246 1:=by exact X1.out
   obtain⟨vs,hrow,hel⟩:=hacc.row hll
   have HR:=hqZ hrow
   have HRL:=hqZ (jn hel)
   obtain⟨hvl,-,A,cap,rfl,hcell⟩:=hrow
   have HCE:=hqZ hcell
   clear hacc hel hcell
   cases m0:((hd (adv ts)).text.toList == [99,111,110,116,97,105,110,115])
   case true =>
    have hm:(hd (adv ts)).text.toList = [99,111,110,116,97,105,110,115]:=by simpa using m0
    have hone:da (hd (adv ts)).text.toList=some 26:=by rw[hm];rfl
    have HO:=hqZ hone
    clear hm hone
    by_cases hL:L.length=1
    .obtain⟨y,rfl⟩:∃ y,L = [y]:=List.length_eq_one_iff.1 hL
     have ER:=hqZ (show aC E x ts = .ok (Sum.inl (.opn 26 [x,y])) (adv ts1)from by rw[E2.out,dD HO.out];rfl)
     obtain⟨t2,u2,rfl,hy⟩:∃ t2 u2,vs = [.iface t2 u2]/\Rep w8 (fun g=>w6.heap.size<=g/\g < w7.heap.size) y (.iface t2 u2):=by
      have:=HRL.out
      cases this with|cons _ _ v vs h1 h2=>cases h2;obtain⟨t,cs,rfl⟩:=h1.cell;exact⟨_,_,rfl,h1⟩
     have HY:=hqZ hy
     clear hy
     obtain⟨g,rfl,-,hg2,hg3⟩:=HCE.out (by simp)
     have hc:=hg3 0 _ rfl
     clear hg3
     (go_wp2_with fail;refine(lz _ pb _ tx ux g cap t2 u2 (dm hc (by((repeat' (with_reducible(first|exact Fr.refl _ _|apply Fr.drew|apply Fr.drewN|apply Fr.alloc|apply Fr.set))) <;> first|exact .inl rfl|exact .inr (Nat.le_refl _)|exact .inr (by omega)|(refine .inl ?_;show ¬ _;omega)))) (by simp only[aa];omega)).mono ?_;rintro e w9 ⟨rfl,hf⟩;(have xs16:=Fr.size hf;simp only[aa,ae,ad,af]at xs16;have T1:=hqZ (Fr.transN (T0.out.alloc _) hf);clear T0;have P1:=hqZ (PSt.new (PSt.over (w0:=w) P0.out (Fr.r.alloc _) ltp ltt) hf);clear P0;have B1:=hqZ (Blk.next (B3.out.alloc _) hf id);clear B3;obtain⟨xk0,xl28⟩:=Blk.k1 B1.out;have B3:=hqZ (Blk.next (B2.out.alloc _) hf id);clear B2;obtain⟨xk1,xl29⟩:=Blk.k1 B3.out;have B2:=hqZ (Blk.next (B0.out.alloc _) hf id);clear B0;obtain⟨xk10,xl30⟩:=Blk.k6 B2.out;have B0:=hqZ (Blk.next (B4.out.alloc _) hf id);clear B4;obtain⟨xk22,xl31⟩:=Blk.k6 B0.out;have B4:=hqZ (Blk.next (Blk.at_ _ _ _ (n:=w8.heap.size) rfl) hf id);obtain⟨xk28,xl32⟩:=Blk.k1 B4.out;have X0:=hqZ (Rep.carry X2.out (Fr.transN (Fr.r.alloc _) hf));clear X2;have X2:=hqZ (Rep.carry HY.out (Fr.transN (Fr.r.alloc _) hf));clear HY;have X3:=hqZ (RepL.carry HRL.out (Fr.transN (Fr.r.alloc _) hf));clear HRL;have X4:=hqZ (Row.carry HR.out (Fr.transN (Fr.r.alloc _) hf));clear HR;have X5:=hqZ (Acc.carry X1.out (Fr.transN (Fr.r.alloc _) hf));clear X1;clear hf;clear xk2 xk3 xk4 xk16))
     go_wp2
     refine bodyPost_ret (v:=(.tuple #[.agg #[.iface 276 (.agg #[.iface tx ux,.iface t2 u2])],.bool true,.nilIface])) (by simp only[results,Tryz.results217];go_simp) rfl ?_
     rw[ER.out]
     exact⟨_,_,rfl,.bin 26 _ _ _ _ _ rfl (by exact Rep.mono (h:=(Rep.carry X0.out ((Fr.r.set (.inl (by omega))).set (.inl (by omega))))) (hZ:=fun g _ hg=>by omega)) (by exact Rep.mono (h:=(Rep.carry X2.out ((Fr.r.set (.inl (by omega))).set (.inl (by omega))))) (hZ:=fun g _ hg=>by omega)),by exact PSt.over (w0:=w) P1.out ((Fr.r.set (.inl (by omega))).set (.inl (by omega))) ltp ltt,by exact((T1.out.set (.inr (by omega))).set (.inr (by omega)))⟩
    .have ER:=hqZ (show aC E x ts = .bad from by rw[E2.out,dC HO.out hL];rfl)
     (go_wp2_with fail;refine(jl _ pb tb (adv ts1) _ _ _ _ _ ?_ hL).mono ?_;(all_goals try exact PSt.over (w0:=w) P0.out (Fr.r.alloc _) ltp ltt);rintro e w9 ⟨⟨t,u,rfl⟩,hf⟩;(have xs16:=Fr.size hf;simp only[aa,ae,ad,af]at xs16;have T1:=hqZ (Fr.transN (T0.out.alloc _) hf);clear T0;have P1:=hqZ (PSt.new (PSt.over (w0:=w) P0.out (Fr.r.alloc _) ltp ltt) hf);clear P0;have B1:=hqZ (Blk.next (B3.out.alloc _) hf id);clear B3;obtain⟨xk0,xl28⟩:=Blk.k1 B1.out;have B3:=hqZ (Blk.next (B2.out.alloc _) hf id);clear B2;obtain⟨xk1,xl29⟩:=Blk.k1 B3.out;have B2:=hqZ (Blk.next (B0.out.alloc _) hf id);clear B0;obtain⟨xk10,xl30⟩:=Blk.k6 B2.out;have B0:=hqZ (Blk.next (B4.out.alloc _) hf id);clear B4;obtain⟨xk22,xl31⟩:=Blk.k6 B0.out;have B4:=hqZ (Blk.next (Blk.at_ _ _ _ (n:=w8.heap.size) rfl) hf id);obtain⟨xk28,xl32⟩:=Blk.k1 B4.out;have X0:=hqZ (Rep.carry X2.out (Fr.transN (Fr.r.alloc _) hf));clear X2;have X2:=hqZ (RepL.carry HRL.out (Fr.transN (Fr.r.alloc _) hf));clear HRL;have X3:=hqZ (Row.carry HR.out (Fr.transN (Fr.r.alloc _) hf));clear HR;have X4:=hqZ (Acc.carry X1.out (Fr.transN (Fr.r.alloc _) hf));clear X1;clear hf;clear xk2 xk3 xk4 xk16))
     go_wp2
     refine bodyPost_ret (v:=(.tuple #[.agg #[.nilIface],.bool false,.iface t u])) (by simp only[results,Tryz.results217];go_simp) rfl ?_
     rw[ER.out]
     exact⟨t,u,rfl,by exact((T1.out.set (.inr (by omega))).set (.inr (by omega)))⟩
   cases m1:((hd (adv ts)).text.toList == [99,111,110,116,97,105,110,115,65,108,108])
   case true =>
    have hm:(hd (adv ts)).text.toList = [99,111,110,116,97,105,110,115,65,108,108]:=by simpa using m1
    have hone:da (hd (adv ts)).text.toList=some 27:=by rw[hm];rfl
    have HO:=hqZ hone
    clear hm hone
    by_cases hL:L.length=1
    .obtain⟨y,rfl⟩:∃ y,L = [y]:=List.length_eq_one_iff.1 hL
     have ER:=hqZ (show aC E x ts = .ok (Sum.inl (.opn 27 [x,y])) (adv ts1)from by rw[E2.out,dD HO.out];rfl)
     obtain⟨t2,u2,rfl,hy⟩:∃ t2 u2,vs = [.iface t2 u2]/\Rep w8 (fun g=>w6.heap.size<=g/\g < w7.heap.size) y (.iface t2 u2):=by
      have:=HRL.out
      cases this with|cons _ _ v vs h1 h2=>cases h2;obtain⟨t,cs,rfl⟩:=h1.cell;exact⟨_,_,rfl,h1⟩
     have HY:=hqZ hy
     clear hy
     obtain⟨g,rfl,-,hg2,hg3⟩:=HCE.out (by simp)
     have hc:=hg3 0 _ rfl
     clear hg3
     (go_wp2_with fail;refine(ir _ pb _ tx ux g cap t2 u2 (dm hc (by((repeat' (with_reducible(first|exact Fr.refl _ _|apply Fr.drew|apply Fr.drewN|apply Fr.alloc|apply Fr.set))) <;> first|exact .inl rfl|exact .inr (Nat.le_refl _)|exact .inr (by omega)|(refine .inl ?_;show ¬ _;omega)))) (by simp only[aa];omega)).mono ?_;rintro e w9 ⟨rfl,hf⟩;(have xs16:=Fr.size hf;simp only[aa,ae,ad,af]at xs16;have T1:=hqZ (Fr.transN (T0.out.alloc _) hf);clear T0;have P1:=hqZ (PSt.new (PSt.over (w0:=w) P0.out (Fr.r.alloc _) ltp ltt) hf);clear P0;have B1:=hqZ (Blk.next (B3.out.alloc _) hf id);clear B3;obtain⟨xk0,xl28⟩:=Blk.k1 B1.out;have B3:=hqZ (Blk.next (B2.out.alloc _) hf id);clear B2;obtain⟨xk1,xl29⟩:=Blk.k1 B3.out;have B2:=hqZ (Blk.next (B0.out.alloc _) hf id);clear B0;obtain⟨xk10,xl30⟩:=Blk.k6 B2.out;have B0:=hqZ (Blk.next (B4.out.alloc _) hf id);clear B4;obtain⟨xk22,xl31⟩:=Blk.k6 B0.out;have B4:=hqZ (Blk.next (Blk.at_ _ _ _ (n:=w8.heap.size) rfl) hf id);obtain⟨xk28,xl32⟩:=Blk.k1 B4.out;have X0:=hqZ (Rep.carry X2.out (Fr.transN (Fr.r.alloc _) hf));clear X2;have X2:=hqZ (Rep.carry HY.out (Fr.transN (Fr.r.alloc _) hf));clear HY;have X3:=hqZ (RepL.carry HRL.out (Fr.transN (Fr.r.alloc _) hf));clear HRL;have X4:=hqZ (Row.carry HR.out (Fr.transN (Fr.r.alloc _) hf));clear HR;have X5:=hqZ (Acc.carry X1.out (Fr.transN (Fr.r.alloc _) hf));clear X1;clear hf;clear xk2 xk3 xk4 xk16))
     go_wp2
     refine bodyPost_ret (v:=(.tuple #[.agg #[.iface 277 (.agg #[.iface tx ux,.iface t2 u2])],.bool true,.nilIface])) (by simp only[results,Tryz.results217];go_simp) rfl ?_
     rw[ER.out]
     exact⟨_,_,rfl,.bin 27 _ _ _ _ _ rfl (by exact Rep.mono (h:=(Rep.carry X0.out ((Fr.r.set (.inl (by omega))).set (.inl (by omega))))) (hZ:=fun g _ hg=>by omega)) (by exact Rep.mono (h:=(Rep.carry X2.out ((Fr.r.set (.inl (by omega))).set (.inl (by omega))))) (hZ:=fun g _ hg=>by omega)),by exact PSt.over (w0:=w) P1.out ((Fr.r.set (.inl (by omega))).set (.inl (by omega))) ltp ltt,by exact((T1.out.set (.inr (by omega))).set (.inr (by omega)))⟩
    .have ER:=hqZ (show aC E x ts = .bad from by rw[E2.out,dC HO.out hL];rfl)
     (go_wp2_with fail;refine(jl _ pb tb (adv ts1) _ _ _ _ _ ?_ hL).mono ?_;(all_goals try exact PSt.over (w0:=w) P0.out (Fr.r.alloc _) ltp ltt);rintro e w9 ⟨⟨t,u,rfl⟩,hf⟩;(have xs16:=Fr.size hf;simp only[aa,ae,ad,af]at xs16;have T1:=hqZ (Fr.transN (T0.out.alloc _) hf);clear T0;have P1:=hqZ (PSt.new (PSt.over (w0:=w) P0.out (Fr.r.alloc _) ltp ltt) hf);clear P0;have B1:=hqZ (Blk.next (B3.out.alloc _) hf id);clear B3;obtain⟨xk0,xl28⟩:=Blk.k1 B1.out;have B3:=hqZ (Blk.next (B2.out.alloc _) hf id);clear B2;obtain⟨xk1,xl29⟩:=Blk.k1 B3.out;have B2:=hqZ (Blk.next (B0.out.alloc _) hf id);clear B0;obtain⟨xk10,xl30⟩:=Blk.k6 B2.out;have B0:=hqZ (Blk.next (B4.out.alloc _) hf id);clear B4;obtain⟨xk22,xl31⟩:=Blk.k6 B0.out;have B4:=hqZ (Blk.next (Blk.at_ _ _ _ (n:=w8.heap.size) rfl) hf id);obtain⟨xk28,xl32⟩:=Blk.k1 B4.out;have X0:=hqZ (Rep.carry X2.out (Fr.transN (Fr.r.alloc _) hf));clear X2;have X2:=hqZ (RepL.carry HRL.out (Fr.transN (Fr.r.alloc _) hf));clear HRL;have X3:=hqZ (Row.carry HR.out (Fr.transN (Fr.r.alloc _) hf));clear HR;have X4:=hqZ (Acc.carry X1.out (Fr.transN (Fr.r.alloc _) hf));clear X1;clear hf;clear xk2 xk3 xk4 xk16))
     go_wp2
     refine bodyPost_ret (v:=(.tuple #[.agg #[.nilIface],.bool false,.iface t u])) (by simp only[results,Tryz.results217];go_simp) rfl ?_
     rw[ER.out]
     exact⟨t,u,rfl,by exact((T1.out.set (.inr (by omega))).set (.inr (by omega)))⟩
   cases m2:((hd (adv ts)).text.toList == [99,111,110,116,97,105,110,115,65,110,121])
   case true =>
    have hm:(hd (adv ts)).text.toList = [99,111,110,116,97,105,110,115,65,110,121]:=by simpa using m2
    have hone:da (hd (adv ts)).text.toList=some 28:=by rw[hm];rfl
    have HO:=hqZ hone
    clear hm hone
    by_cases hL:L.length=1
    .obtain⟨y,rfl⟩:∃ y,L = [y]:=List.length_eq_one_iff.1 hL
     have ER:=hqZ (show aC E x ts = .ok (Sum.inl (.opn 28 [x,y])) (adv ts1)from by rw[E2.out,dD HO.out];rfl)
     obtain⟨t2,u2,rfl,hy⟩:∃ t2 u2,vs = [.iface t2 u2]/\Rep w8 (fun g=>w6.heap.size<=g/\g < w7.heap.size) y (.iface t2 u2):=by
      have:=HRL.out
      cases this with|cons _ _ v vs h1 h2=>cases h2;obtain⟨t,cs,rfl⟩:=h1.cell;exact⟨_,_,rfl,h1⟩
     have HY:=hqZ hy
     clear hy
     obtain⟨g,rfl,-,hg2,hg3⟩:=HCE.out (by simp)
     have hc:=hg3 0 _ rfl
     clear hg3
     (go_wp2_with fail;refine(ip _ pb _ tx ux g cap t2 u2 (dm hc (by((repeat' (with_reducible(first|exact Fr.refl _ _|apply Fr.drew|apply Fr.drewN|apply Fr.alloc|apply Fr.set))) <;> first|exact .inl rfl|exact .inr (Nat.le_refl _)|exact .inr (by omega)|(refine .inl ?_;show ¬ _;omega)))) (by simp only[aa];omega)).mono ?_;rintro e w9 ⟨rfl,hf⟩;(have xs16:=Fr.size hf;simp only[aa,ae,ad,af]at xs16;have T1:=hqZ (Fr.transN (T0.out.alloc _) hf);clear T0;have P1:=hqZ (PSt.new (PSt.over (w0:=w) P0.out (Fr.r.alloc _) ltp ltt) hf);clear P0;have B1:=hqZ (Blk.next (B3.out.alloc _) hf id);clear B3;obtain⟨xk0,xl28⟩:=Blk.k1 B1.out;have B3:=hqZ (Blk.next (B2.out.alloc _) hf id);clear B2;obtain⟨xk1,xl29⟩:=Blk.k1 B3.out;have B2:=hqZ (Blk.next (B0.out.alloc _) hf id);clear B0;obtain⟨xk10,xl30⟩:=Blk.k6 B2.out;have B0:=hqZ (Blk.next (B4.out.alloc _) hf id);clear B4;obtain⟨xk22,xl31⟩:=Blk.k6 B0.out;have B4:=hqZ (Blk.next (Blk.at_ _ _ _ (n:=w8.heap.size) rfl) hf id);obtain⟨xk28,xl32⟩:=Blk.k1 B4.out;have X0:=hqZ (Rep.carry X2.out (Fr.transN (Fr.r.alloc _) hf));clear X2;have X2:=hqZ (Rep.carry HY.out (Fr.transN (Fr.r.alloc _) hf));clear HY;have X3:=hqZ (RepL.carry HRL.out (Fr.transN (Fr.r.alloc _) hf));clear HRL;have X4:=hqZ (Row.carry HR.out (Fr.transN (Fr.r.alloc _) hf));clear HR;have X5:=hqZ (Acc.carry X1.out (Fr.transN (Fr.r.alloc _) hf));clear X1;clear hf;clear xk2 xk3 xk4 xk16))
     go_wp2
     refine bodyPost_ret (v:=(.tuple #[.agg #[.iface 278 (.agg #[.iface tx ux,.iface t2 u2])],.bool true,.nilIface])) (by simp only[results,Tryz.results217];go_simp) rfl ?_
     rw[ER.out]
     exact⟨_,_,rfl,.bin 28 _ _ _ _ _ rfl (by exact Rep.mono (h:=(Rep.carry X0.out ((Fr.r.set (.inl (by omega))).set (.inl (by omega))))) (hZ:=fun g _ hg=>by omega)) (by exact Rep.mono (h:=(Rep.carry X2.out ((Fr.r.set (.inl (by omega))).set (.inl (by omega))))) (hZ:=fun g _ hg=>by omega)),by exact PSt.over (w0:=w) P1.out ((Fr.r.set (.inl (by omega))).set (.inl (by omega))) ltp ltt,by exact((T1.out.set (.inr (by omega))).set (.inr (by omega)))⟩
    .have ER:=hqZ (show aC E x ts = .bad from by rw[E2.out,dC HO.out hL];rfl)
     (go_wp2_with fail;refine(jl _ pb tb (adv ts1) _ _ _ _ _ ?_ hL).mono ?_;(all_goals try exact PSt.over (w0:=w) P0.out (Fr.r.alloc _) ltp ltt);rintro e w9 ⟨⟨t,u,rfl⟩,hf⟩;(have xs16:=Fr.size hf;simp only[aa,ae,ad,af]at xs16;have T1:=hqZ (Fr.transN (T0.out.alloc _) hf);clear T0;have P1:=hqZ (PSt.new (PSt.over (w0:=w) P0.out (Fr.r.alloc _) ltp ltt) hf);clear P0;have B1:=hqZ (Blk.next (B3.out.alloc _) hf id);clear B3;obtain⟨xk0,xl28⟩:=Blk.k1 B1.out;have B3:=hqZ (Blk.next (B2.out.alloc _) hf id);clear B2;obtain⟨xk1,xl29⟩:=Blk.k1 B3.out;have B2:=hqZ (Blk.next (B0.out.alloc _) hf id);clear B0;obtain⟨xk10,xl30⟩:=Blk.k6 B2.out;have B0:=hqZ (Blk.next (B4.out.alloc _) hf id);clear B4;obtain⟨xk22,xl31⟩:=Blk.k6 B0.out;have B4:=hqZ (Blk.next (Blk.at_ _ _ _ (n:=w8.heap.size) rfl) hf id);obtain⟨xk28,xl32⟩:=Blk.k1 B4.out;have X0:=hqZ (Rep.carry X2.out (Fr.transN (Fr.r.alloc _) hf));clear X2;have X2:=hqZ (RepL.carry HRL.out (Fr.transN (Fr.r.alloc _) hf));clear HRL;have X3:=hqZ (Row.carry HR.out (Fr.transN (Fr.r.alloc _) hf));clear HR;have X4:=hqZ (Acc.carry X1.out (Fr.transN (Fr.r.alloc _) hf));clear X1;clear hf;clear xk2 xk3 xk4 xk16))
     go_wp2
     refine bodyPost_ret (v:=(.tuple #[.agg #[.nilIface],.bool false,.iface t u])) (by simp only[results,Tryz.results217];go_simp) rfl ?_
     rw[ER.out]
     exact⟨t,u,rfl,by exact((T1.out.set (.inr (by omega))).set (.inr (by omega)))⟩
   cases m3:((hd (adv ts)).text.toList == [104,97,115,84,97,103])
   case true =>
    have hm:(hd (adv ts)).text.toList = [104,97,115,84,97,103]:=by simpa using m3
    have hone:da (hd (adv ts)).text.toList=some 14:=by rw[hm];rfl
    have HO:=hqZ hone
    clear hm hone
    by_cases hL:L.length=1
    .obtain⟨y,rfl⟩:∃ y,L = [y]:=List.length_eq_one_iff.1 hL
     have ER:=hqZ (show aC E x ts = .ok (Sum.inl (.opn 14 [x,y])) (adv ts1)from by rw[E2.out,dD HO.out];rfl)
     obtain⟨t2,u2,rfl,hy⟩:∃ t2 u2,vs = [.iface t2 u2]/\Rep w8 (fun g=>w6.heap.size<=g/\g < w7.heap.size) y (.iface t2 u2):=by
      have:=HRL.out
      cases this with|cons _ _ v vs h1 h2=>cases h2;obtain⟨t,cs,rfl⟩:=h1.cell;exact⟨_,_,rfl,h1⟩
     have HY:=hqZ hy
     clear hy
     obtain⟨g,rfl,-,hg2,hg3⟩:=HCE.out (by simp)
     have hc:=hg3 0 _ rfl
     clear hg3
     (go_wp2_with fail;refine(nY _ pb _ tx ux g cap t2 u2 (dm hc (by((repeat' (with_reducible(first|exact Fr.refl _ _|apply Fr.drew|apply Fr.drewN|apply Fr.alloc|apply Fr.set))) <;> first|exact .inl rfl|exact .inr (Nat.le_refl _)|exact .inr (by omega)|(refine .inl ?_;show ¬ _;omega)))) (by simp only[aa];omega)).mono ?_;rintro e w9 ⟨rfl,hf⟩;(have xs16:=Fr.size hf;simp only[aa,ae,ad,af]at xs16;have T1:=hqZ (Fr.transN (T0.out.alloc _) hf);clear T0;have P1:=hqZ (PSt.new (PSt.over (w0:=w) P0.out (Fr.r.alloc _) ltp ltt) hf);clear P0;have B1:=hqZ (Blk.next (B3.out.alloc _) hf id);clear B3;obtain⟨xk0,xl28⟩:=Blk.k1 B1.out;have B3:=hqZ (Blk.next (B2.out.alloc _) hf id);clear B2;obtain⟨xk1,xl29⟩:=Blk.k1 B3.out;have B2:=hqZ (Blk.next (B0.out.alloc _) hf id);clear B0;obtain⟨xk10,xl30⟩:=Blk.k6 B2.out;have B0:=hqZ (Blk.next (B4.out.alloc _) hf id);clear B4;obtain⟨xk22,xl31⟩:=Blk.k6 B0.out;have B4:=hqZ (Blk.next (Blk.at_ _ _ _ (n:=w8.heap.size) rfl) hf id);obtain⟨xk28,xl32⟩:=Blk.k1 B4.out;have X0:=hqZ (Rep.carry X2.out (Fr.transN (Fr.r.alloc _) hf));clear X2;have X2:=hqZ (Rep.carry HY.out (Fr.transN (Fr.r.alloc _) hf));clear HY;have X3:=hqZ (RepL.carry HRL.out (Fr.transN (Fr.r.alloc _) hf));clear HRL;have X4:=hqZ (Row.carry HR.out (Fr.transN (Fr.r.alloc _) hf));clear HR;have X5:=hqZ (Acc.carry X1.out (Fr.transN (Fr.r.alloc _) hf));clear X1;clear hf;clear xk2 xk3 xk4 xk16))
     go_wp2
     refine bodyPost_ret (v:=(.tuple #[.agg #[.iface 268 (.agg #[.iface tx ux,.iface t2 u2])],.bool true,.nilIface])) (by simp only[results,Tryz.results217];go_simp) rfl ?_
     rw[ER.out]
     exact⟨_,_,rfl,.bin 14 _ _ _ _ _ rfl (by exact Rep.mono (h:=(Rep.carry X0.out ((Fr.r.set (.inl (by omega))).set (.inl (by omega))))) (hZ:=fun g _ hg=>by omega)) (by exact Rep.mono (h:=(Rep.carry X2.out ((Fr.r.set (.inl (by omega))).set (.inl (by omega))))) (hZ:=fun g _ hg=>by omega)),by exact PSt.over (w0:=w) P1.out ((Fr.r.set (.inl (by omega))).set (.inl (by omega))) ltp ltt,by exact((T1.out.set (.inr (by omega))).set (.inr (by omega)))⟩
    .have ER:=hqZ (show aC E x ts = .bad from by rw[E2.out,dC HO.out hL];rfl)
     (go_wp2_with fail;refine(jl _ pb tb (adv ts1) _ _ _ _ _ ?_ hL).mono ?_;(all_goals try exact PSt.over (w0:=w) P0.out (Fr.r.alloc _) ltp ltt);rintro e w9 ⟨⟨t,u,rfl⟩,hf⟩;(have xs16:=Fr.size hf;simp only[aa,ae,ad,af]at xs16;have T1:=hqZ (Fr.transN (T0.out.alloc _) hf);clear T0;have P1:=hqZ (PSt.new (PSt.over (w0:=w) P0.out (Fr.r.alloc _) ltp ltt) hf);clear P0;have B1:=hqZ (Blk.next (B3.out.alloc _) hf id);clear B3;obtain⟨xk0,xl28⟩:=Blk.k1 B1.out;have B3:=hqZ (Blk.next (B2.out.alloc _) hf id);clear B2;obtain⟨xk1,xl29⟩:=Blk.k1 B3.out;have B2:=hqZ (Blk.next (B0.out.alloc _) hf id);clear B0;obtain⟨xk10,xl30⟩:=Blk.k6 B2.out;have B0:=hqZ (Blk.next (B4.out.alloc _) hf id);clear B4;obtain⟨xk22,xl31⟩:=Blk.k6 B0.out;have B4:=hqZ (Blk.next (Blk.at_ _ _ _ (n:=w8.heap.size) rfl) hf id);obtain⟨xk28,xl32⟩:=Blk.k1 B4.out;have X0:=hqZ (Rep.carry X2.out (Fr.transN (Fr.r.alloc _) hf));clear X2;have X2:=hqZ (RepL.carry HRL.out (Fr.transN (Fr.r.alloc _) hf));clear HRL;have X3:=hqZ (Row.carry HR.out (Fr.transN (Fr.r.alloc _) hf));clear HR;have X4:=hqZ (Acc.carry X1.out (Fr.transN (Fr.r.alloc _) hf));clear X1;clear hf;clear xk2 xk3 xk4 xk16))
     go_wp2
     refine bodyPost_ret (v:=(.tuple #[.agg #[.nilIface],.bool false,.iface t u])) (by simp only[results,Tryz.results217];go_simp) rfl ?_
     rw[ER.out]
     exact⟨t,u,rfl,by exact((T1.out.set (.inr (by omega))).set (.inr (by omega)))⟩
   cases m4:((hd (adv ts)).text.toList == [103,101,116,84,97,103])
   case true =>
    have hm:(hd (adv ts)).text.toList = [103,101,116,84,97,103]:=by simpa using m4
    have hone:da (hd (adv ts)).text.toList=some 24:=by rw[hm];rfl
    have HO:=hqZ hone
    clear hm hone
    by_cases hL:L.length=1
    .obtain⟨y,rfl⟩:∃ y,L = [y]:=List.length_eq_one_iff.1 hL
     have ER:=hqZ (show aC E x ts = .ok (Sum.inl (.opn 24 [x,y])) (adv ts1)from by rw[E2.out,dD HO.out];rfl)
     obtain⟨t2,u2,rfl,hy⟩:∃ t2 u2,vs = [.iface t2 u2]/\Rep w8 (fun g=>w6.heap.size<=g/\g < w7.heap.size) y (.iface t2 u2):=by
      have:=HRL.out
      cases this with|cons _ _ v vs h1 h2=>cases h2;obtain⟨t,cs,rfl⟩:=h1.cell;exact⟨_,_,rfl,h1⟩
     have HY:=hqZ hy
     clear hy
     obtain⟨g,rfl,-,hg2,hg3⟩:=HCE.out (by simp)
     have hc:=hg3 0 _ rfl
     clear hg3
     (go_wp2_with fail;refine(nZ _ pb _ tx ux g cap t2 u2 (dm hc (by((repeat' (with_reducible(first|exact Fr.refl _ _|apply Fr.drew|apply Fr.drewN|apply Fr.alloc|apply Fr.set))) <;> first|exact .inl rfl|exact .inr (Nat.le_refl _)|exact .inr (by omega)|(refine .inl ?_;show ¬ _;omega)))) (by simp only[aa];omega)).mono ?_;rintro e w9 ⟨rfl,hf⟩;(have xs16:=Fr.size hf;simp only[aa,ae,ad,af]at xs16;have T1:=hqZ (Fr.transN (T0.out.alloc _) hf);clear T0;have P1:=hqZ (PSt.new (PSt.over (w0:=w) P0.out (Fr.r.alloc _) ltp ltt) hf);clear P0;have B1:=hqZ (Blk.next (B3.out.alloc _) hf id);clear B3;obtain⟨xk0,xl28⟩:=Blk.k1 B1.out;have B3:=hqZ (Blk.next (B2.out.alloc _) hf id);clear B2;obtain⟨xk1,xl29⟩:=Blk.k1 B3.out;have B2:=hqZ (Blk.next (B0.out.alloc _) hf id);clear B0;obtain⟨xk10,xl30⟩:=Blk.k6 B2.out;have B0:=hqZ (Blk.next (B4.out.alloc _) hf id);clear B4;obtain⟨xk22,xl31⟩:=Blk.k6 B0.out;have B4:=hqZ (Blk.next (Blk.at_ _ _ _ (n:=w8.heap.size) rfl) hf id);obtain⟨xk28,xl32⟩:=Blk.k1 B4.out;have X0:=hqZ (Rep.carry X2.out (Fr.transN (Fr.r.alloc _) hf));clear X2;have X2:=hqZ (Rep.carry HY.out (Fr.transN (Fr.r.alloc _) hf));clear HY;have X3:=hqZ (RepL.carry HRL.out (Fr.transN (Fr.r.alloc _) hf));clear HRL;have X4:=hqZ (Row.carry HR.out (Fr.transN (Fr.r.alloc _) hf));clear HR;have X5:=hqZ (Acc.carry X1.out (Fr.transN (Fr.r.alloc _) hf));clear X1;clear hf;clear xk2 xk3 xk4 xk16))
     go_wp2
     refine bodyPost_ret (v:=(.tuple #[.agg #[.iface 269 (.agg #[.iface tx ux,.iface t2 u2])],.bool true,.nilIface])) (by simp only[results,Tryz.results217];go_simp) rfl ?_
     rw[ER.out]
     exact⟨_,_,rfl,.bin 24 _ _ _ _ _ rfl (by exact Rep.mono (h:=(Rep.carry X0.out ((Fr.r.set (.inl (by omega))).set (.inl (by omega))))) (hZ:=fun g _ hg=>by omega)) (by exact Rep.mono (h:=(Rep.carry X2.out ((Fr.r.set (.inl (by omega))).set (.inl (by omega))))) (hZ:=fun g _ hg=>by omega)),by exact PSt.over (w0:=w) P1.out ((Fr.r.set (.inl (by omega))).set (.inl (by omega))) ltp ltt,by exact((T1.out.set (.inr (by omega))).set (.inr (by omega)))⟩
    .have ER:=hqZ (show aC E x ts = .bad from by rw[E2.out,dC HO.out hL];rfl)
     (go_wp2_with fail;refine(jl _ pb tb (adv ts1) _ _ _ _ _ ?_ hL).mono ?_;(all_goals try exact PSt.over (w0:=w) P0.out (Fr.r.alloc _) ltp ltt);rintro e w9 ⟨⟨t,u,rfl⟩,hf⟩;(have xs16:=Fr.size hf;simp only[aa,ae,ad,af]at xs16;have T1:=hqZ (Fr.transN (T0.out.alloc _) hf);clear T0;have P1:=hqZ (PSt.new (PSt.over (w0:=w) P0.out (Fr.r.alloc _) ltp ltt) hf);clear P0;have B1:=hqZ (Blk.next (B3.out.alloc _) hf id);clear B3;obtain⟨xk0,xl28⟩:=Blk.k1 B1.out;have B3:=hqZ (Blk.next (B2.out.alloc _) hf id);clear B2;obtain⟨xk1,xl29⟩:=Blk.k1 B3.out;have B2:=hqZ (Blk.next (B0.out.alloc _) hf id);clear B0;obtain⟨xk10,xl30⟩:=Blk.k6 B2.out;have B0:=hqZ (Blk.next (B4.out.alloc _) hf id);clear B4;obtain⟨xk22,xl31⟩:=Blk.k6 B0.out;have B4:=hqZ (Blk.next (Blk.at_ _ _ _ (n:=w8.heap.size) rfl) hf id);obtain⟨xk28,xl32⟩:=Blk.k1 B4.out;have X0:=hqZ (Rep.carry X2.out (Fr.transN (Fr.r.alloc _) hf));clear X2;have X2:=hqZ (RepL.carry HRL.out (Fr.transN (Fr.r.alloc _) hf));clear HRL;have X3:=hqZ (Row.carry HR.out (Fr.transN (Fr.r.alloc _) hf));clear HR;have X4:=hqZ (Acc.carry X1.out (Fr.transN (Fr.r.alloc _) hf));clear X1;clear hf;clear xk2 xk3 xk4 xk16))
     go_wp2
     refine bodyPost_ret (v:=(.tuple #[.agg #[.nilIface],.bool false,.iface t u])) (by simp only[results,Tryz.results217];go_simp) rfl ?_
     rw[ER.out]
     exact⟨t,u,rfl,by exact((T1.out.set (.inr (by omega))).set (.inr (by omega)))⟩
   have hone:da (hd (adv ts)).text.toList=none:=by
    simp only[beq_eq_false_iff_ne,ne_eq]at m0 m1 m2 m3 m4
    simp[da,m0,m1,m2,m3,m4]
   have HO:=hqZ hone
   clear hone
   cases m5:((hd (adv ts)).text.toList == [105,115,69,109,112,116,121])
   case true =>
    have hm:(hd (adv ts)).text.toList = [105,115,69,109,112,116,121]:=by simpa using m5
    have HM:=hqZ hm
    clear hm
    by_cases hL:L.length=0
    .obtain rfl:L = []:=List.length_eq_zero_iff.1 hL
     have ER:=hqZ (show aC E x ts = .ok (Sum.inl (.opn 29 [x])) (adv ts1)from by rw[E2.out,oi HO.out HM.out];rfl)
     (go_wp2_with fail;refine(kS _ pb _ tx ux _ cap).mono ?_;rintro e w9 ⟨rfl,hf⟩;(have xs16:=Fr.size hf;simp only[aa,ae,ad,af]at xs16;have T1:=hqZ (Fr.transN (T0.out.alloc _) hf);clear T0;have P1:=hqZ (PSt.new (PSt.over (w0:=w) P0.out (Fr.r.alloc _) ltp ltt) hf);clear P0;have B1:=hqZ (Blk.next (B3.out.alloc _) hf id);clear B3;obtain⟨xk0,xl28⟩:=Blk.k1 B1.out;have B3:=hqZ (Blk.next (B2.out.alloc _) hf id);clear B2;obtain⟨xk1,xl29⟩:=Blk.k1 B3.out;have B2:=hqZ (Blk.next (B0.out.alloc _) hf id);clear B0;obtain⟨xk10,xl30⟩:=Blk.k6 B2.out;have B0:=hqZ (Blk.next (B4.out.alloc _) hf id);clear B4;obtain⟨xk22,xl31⟩:=Blk.k6 B0.out;have B4:=hqZ (Blk.next (Blk.at_ _ _ _ (n:=w8.heap.size) rfl) hf id);obtain⟨xk28,xl32⟩:=Blk.k1 B4.out;have X0:=hqZ (Rep.carry X2.out (Fr.transN (Fr.r.alloc _) hf));clear X2;have X2:=hqZ (RepL.carry HRL.out (Fr.transN (Fr.r.alloc _) hf));clear HRL;have X3:=hqZ (Row.carry HR.out (Fr.transN (Fr.r.alloc _) hf));clear HR;have X4:=hqZ (Acc.carry X1.out (Fr.transN (Fr.r.alloc _) hf));clear X1;clear hf;clear xk2 xk3 xk4 xk16))
     go_wp2
     refine bodyPost_ret (v:=(.tuple #[.agg #[.iface 196 (.agg #[.iface tx ux])],.bool true,.nilIface])) (by simp only[results,Tryz.results217];go_simp) rfl ?_
     rw[ER.out]
     exact⟨_,_,rfl,.una 29 _ _ _ rfl (by exact Rep.mono (h:=(Rep.carry X0.out ((Fr.r.set (.inl (by omega))).set (.inl (by omega))))) (hZ:=fun g _ hg=>by omega)),by exact PSt.over (w0:=w) P1.out ((Fr.r.set (.inl (by omega))).set (.inl (by omega))) ltp ltt,by exact((T1.out.set (.inr (by omega))).set (.inr (by omega)))⟩
    .have ER:=hqZ (show aC E x ts = .bad from by rw[E2.out,mP HO.out HM.out hL];rfl)
     (go_wp2_with fail;refine(zero_no _ pb tb (adv ts1) _ _ _ _ _ ?_ hL).mono ?_;(all_goals try exact PSt.over (w0:=w) P0.out (Fr.r.alloc _) ltp ltt);rintro e w9 ⟨⟨t,u,rfl⟩,hf⟩;(have xs16:=Fr.size hf;simp only[aa,ae,ad,af]at xs16;have T1:=hqZ (Fr.transN (T0.out.alloc _) hf);clear T0;have P1:=hqZ (PSt.new (PSt.over (w0:=w) P0.out (Fr.r.alloc _) ltp ltt) hf);clear P0;have B1:=hqZ (Blk.next (B3.out.alloc _) hf id);clear B3;obtain⟨xk0,xl28⟩:=Blk.k1 B1.out;have B3:=hqZ (Blk.next (B2.out.alloc _) hf id);clear B2;obtain⟨xk1,xl29⟩:=Blk.k1 B3.out;have B2:=hqZ (Blk.next (B0.out.alloc _) hf id);clear B0;obtain⟨xk10,xl30⟩:=Blk.k6 B2.out;have B0:=hqZ (Blk.next (B4.out.alloc _) hf id);clear B4;obtain⟨xk22,xl31⟩:=Blk.k6 B0.out;have B4:=hqZ (Blk.next (Blk.at_ _ _ _ (n:=w8.heap.size) rfl) hf id);obtain⟨xk28,xl32⟩:=Blk.k1 B4.out;have X0:=hqZ (Rep.carry X2.out (Fr.transN (Fr.r.alloc _) hf));clear X2;have X2:=hqZ (RepL.carry HRL.out (Fr.transN (Fr.r.alloc _) hf));clear HRL;have X3:=hqZ (Row.carry HR.out (Fr.transN (Fr.r.alloc _) hf));clear HR;have X4:=hqZ (Acc.carry X1.out (Fr.transN (Fr.r.alloc _) hf));clear X1;clear hf;clear xk2 xk3 xk4 xk16))
     go_wp2
     refine bodyPost_ret (v:=(.tuple #[.agg #[.nilIface],.bool false,.iface t u])) (by simp only[results,Tryz.results217];go_simp) rfl ?_
     rw[ER.out]
     exact⟨t,u,rfl,by exact((T1.out.set (.inr (by omega))).set (.inr (by omega)))⟩
   have hm5:¬ (hd (adv ts)).text.toList = [105,115,69,109,112,116,121]:=by simpa using m5
   have E3:=hqZ (show aC E x ts=bw (match eK (hd (adv ts)).text.toList with|some true=>some (.named 25 (hd (adv ts)).text (x::L))|_=>none) fun y=>.ok (Sum.inl y) (adv ts1)from by rw[E2.out,oh HO.out hm5])
   clear hm5
   (go_wp2_with fail;refine(pD _).mono ?_;rintro e w9 ⟨rfl,hmm,hf⟩;(have xs16:=Fr.size hf;simp only[aa,ae,ad,af]at xs16;have T1:=hqZ (Fr.transN (T0.out.alloc _) hf);clear T0;have P1:=hqZ (PSt.new (PSt.over (w0:=w) P0.out (Fr.r.alloc _) ltp ltt) hf);clear P0;have B1:=hqZ (Blk.next (B3.out.alloc _) hf id);clear B3;obtain⟨xk0,xl28⟩:=Blk.k1 B1.out;have B3:=hqZ (Blk.next (B2.out.alloc _) hf id);clear B2;obtain⟨xk1,xl29⟩:=Blk.k1 B3.out;have B2:=hqZ (Blk.next (B0.out.alloc _) hf id);clear B0;obtain⟨xk10,xl30⟩:=Blk.k6 B2.out;have B0:=hqZ (Blk.next (B4.out.alloc _) hf id);clear B4;obtain⟨xk22,xl31⟩:=Blk.k6 B0.out;have B4:=hqZ (Blk.next (Blk.at_ _ _ _ (n:=w8.heap.size) rfl) hf id);obtain⟨xk28,xl32⟩:=Blk.k1 B4.out;have X0:=hqZ (Rep.carry X2.out (Fr.transN (Fr.r.alloc _) hf));clear X2;have X2:=hqZ (RepL.carry HRL.out (Fr.transN (Fr.r.alloc _) hf));clear HRL;have X3:=hqZ (Row.carry HR.out (Fr.transN (Fr.r.alloc _) hf));clear HR;have X4:=hqZ (Acc.carry X1.out (Fr.transN (Fr.r.alloc _) hf));clear X1;clear hf;clear xk2 xk3 xk4 xk16))
   (try simp only[aa,ae,af]at hmm)
   have HM:=hqZ hmm
   have HX:=hqZ (ni (hd (adv ts)).text)
   clear hmm
   cases hx:eK (hd (adv ts)).text.toList with
   | none =>
    have hl:look extL (hd (adv ts)).text=none:=by have:=HX.out;rw[hx]at this;exact this
    have ER:=hqZ (show aC E x ts = .bad from by rw[E3.out,hx];rfl)
    have HL:=hqZ hl
    clear hl hx
    go_wp2_with (at_lookup;refine bu ?_)
    unfold Stop
    refine cM _ rfl _ _ _ rfl extT mD (extZ _) rfl (HM.out.next (S:=fun _=>False) ?_ id) rfl ?_
    .repeat' (with_reducible(first|exact Fr.refl _ _|apply Fr.drew|apply Fr.alloc))
    rw[HL.out]
    simp only[Option.getD_none,Option.isSome_none]
    (go_wp2_with fail;refine(ax _ pb tb (adv ts1) _ _ ?_).mono ?_;(all_goals try exact PSt.over (w0:=w) P1.out ((Fr.r.alloc _).alloc _) ltp ltt);rintro e w10 ⟨⟨t,u,rfl⟩,hf⟩;(have xs18:=Fr.size hf;simp only[aa,ae,ad,af]at xs18;have T0:=hqZ (Fr.transN ((T1.out.alloc _).alloc _) hf);clear T1;have P0:=hqZ (PSt.new (PSt.over (w0:=w) P1.out ((Fr.r.alloc _).alloc _) ltp ltt) hf);clear P1;have B5:=hqZ (Blk.next ((B1.out.alloc _).alloc _) hf id);clear B1;obtain⟨xk2,xl33⟩:=Blk.k1 B5.out;have B1:=hqZ (Blk.next ((B3.out.alloc _).alloc _) hf id);clear B3;obtain⟨xk3,xl34⟩:=Blk.k1 B1.out;have B3:=hqZ (Blk.next ((B2.out.alloc _).alloc _) hf id);clear B2;obtain⟨xk4,xl35⟩:=Blk.k6 B3.out;have B2:=hqZ (Blk.next ((B0.out.alloc _).alloc _) hf id);clear B0;obtain⟨xk16,xl36⟩:=Blk.k6 B2.out;have B0:=hqZ (Blk.next ((B4.out.alloc _).alloc _) hf id);clear B4;obtain⟨xk29,xl37⟩:=Blk.k1 B0.out;have B4:=hqZ (Blk.next ((Blk.at_ _ _ _ (n:=w9.heap.size) rfl).alloc _) hf id);obtain⟨xk30,xl38⟩:=Blk.k2 B4.out;have B6:=hqZ (Blk.next (Blk.at_ _ _ _ (n:=w9.heap.size+1) (by simp only[aa,ae,ad,af])) hf id);obtain⟨xk32,xl39⟩:=Blk.k1 B6.out;have X1:=hqZ (Rep.carry X0.out (Fr.transN ((Fr.r.alloc _).alloc _) hf));clear X0;have X0:=hqZ (RepL.carry X2.out (Fr.transN ((Fr.r.alloc _).alloc _) hf));clear X2;have X2:=hqZ (Row.carry X3.out (Fr.transN ((Fr.r.alloc _).alloc _) hf));clear X3;have X3:=hqZ (Acc.carry X4.out (Fr.transN ((Fr.r.alloc _).alloc _) hf));clear X4;clear hf;clear xk0 xk1 xk10 xk22 xk28))
    go_wp2
    refine bodyPost_ret (v:=(.tuple #[.agg #[.nilIface],.bool false,.iface t u])) (by simp only[results,Tryz.results217];go_simp) rfl ?_
    rw[ER.out]
    exact⟨t,u,rfl,by exact(T0.out.set (.inr (by omega)))⟩
   | some bb =>
    obtain⟨ar,hl⟩:∃ n:Int,look extL (hd (adv ts)).text=some (.agg #[.int .i64 n,.bool bb]):=by have:=HX.out;rw[hx]at this;exact this
    have HL:=hqZ hl
    clear hl
    go_wp2_with (at_lookup;refine bu ?_)
    unfold Stop
    refine cM _ rfl _ _ _ rfl extT mD (extZ _) rfl (HM.out.next (S:=fun _=>False) ?_ id) rfl ?_
    .repeat' (with_reducible(first|exact Fr.refl _ _|apply Fr.drew|apply Fr.alloc))
    rw[HL.out]
    simp only[Option.getD_some,Option.isSome_some]
    cases bb with
    | false =>
     have ER:=hqZ (show aC E x ts = .bad from by rw[E3.out,hx];rfl)
     clear hx
     (go_wp2_with fail;refine(ax _ pb tb (adv ts1) _ _ ?_).mono ?_;(all_goals try exact PSt.over (w0:=w) P1.out ((Fr.r.alloc _).alloc _) ltp ltt);rintro e w10 ⟨⟨t,u,rfl⟩,hf⟩;(have xs18:=Fr.size hf;simp only[aa,ae,ad,af]at xs18;have T0:=hqZ (Fr.transN ((T1.out.alloc _).alloc _) hf);clear T1;have P0:=hqZ (PSt.new (PSt.over (w0:=w) P1.out ((Fr.r.alloc _).alloc _) ltp ltt) hf);clear P1;have B5:=hqZ (Blk.next ((B1.out.alloc _).alloc _) hf id);clear B1;obtain⟨xk2,xl33⟩:=Blk.k1 B5.out;have B1:=hqZ (Blk.next ((B3.out.alloc _).alloc _) hf id);clear B3;obtain⟨xk3,xl34⟩:=Blk.k1 B1.out;have B3:=hqZ (Blk.next ((B2.out.alloc _).alloc _) hf id);clear B2;obtain⟨xk4,xl35⟩:=Blk.k6 B3.out;have B2:=hqZ (Blk.next ((B0.out.alloc _).alloc _) hf id);clear B0;obtain⟨xk16,xl36⟩:=Blk.k6 B2.out;have B0:=hqZ (Blk.next ((B4.out.alloc _).alloc _) hf id);clear B4;obtain⟨xk29,xl37⟩:=Blk.k1 B0.out;have B4:=hqZ (Blk.next ((Blk.at_ _ _ _ (n:=w9.heap.size) rfl).alloc _) hf id);obtain⟨xk30,xl38⟩:=Blk.k2 B4.out;have B6:=hqZ (Blk.next (Blk.at_ _ _ _ (n:=w9.heap.size+1) (by simp only[aa,ae,ad,af])) hf id);obtain⟨xk32,xl39⟩:=Blk.k1 B6.out;have X1:=hqZ (Rep.carry X0.out (Fr.transN ((Fr.r.alloc _).alloc _) hf));clear X0;have X0:=hqZ (RepL.carry X2.out (Fr.transN ((Fr.r.alloc _).alloc _) hf));clear X2;have X2:=hqZ (Row.carry X3.out (Fr.transN ((Fr.r.alloc _).alloc _) hf));clear X3;have X3:=hqZ (Acc.carry X4.out (Fr.transN ((Fr.r.alloc _).alloc _) hf));clear X4;clear hf;clear xk0 xk1 xk10 xk22 xk28))
     go_wp2
     refine bodyPost_ret (v:=(.tuple #[.agg #[.nilIface],.bool false,.iface t u])) (by simp only[results,Tryz.results217];go_simp) rfl ?_
     rw[ER.out]
     exact⟨t,u,rfl,by exact(T0.out.set (.inr (by omega)))⟩
    | true =>
     have ER:=hqZ (show aC E x ts = .ok (Sum.inl (.named 25 (hd (adv ts)).text (x::L))) (adv ts1)from by rw[E3.out,hx];rfl)
     clear hx
     (go_wp2_with fail;refine(HC.out _ (fun g=>w6.heap.size<=g/\g < w7.heap.size) _ _ _ _ L vs (by omega) (by exact(Row.carry X3.out (Fr.r.alloc _))) (by exact(RepL.carry X2.out (Fr.r.alloc _)))).mono ?_;rintro e w10 ⟨sv,rfl,hrow2,hf⟩;(have xs18:=Fr.size hf;simp only[aa,ae,ad,af]at xs18;have T0:=hqZ (Fr.transN (T1.out.alloc _) hf);clear T1;have P0:=hqZ (PSt.new (PSt.over (w0:=w) P1.out (Fr.r.alloc _) ltp ltt) hf);clear P1;have B5:=hqZ (Blk.next (B1.out.alloc _) hf id);clear B1;obtain⟨xk2,xl33⟩:=Blk.k1 B5.out;have B1:=hqZ (Blk.next (B3.out.alloc _) hf id);clear B3;obtain⟨xk3,xl34⟩:=Blk.k1 B1.out;have B3:=hqZ (Blk.next (B2.out.alloc _) hf id);clear B2;obtain⟨xk4,xl35⟩:=Blk.k6 B3.out;have B2:=hqZ (Blk.next (B0.out.alloc _) hf id);clear B0;obtain⟨xk16,xl36⟩:=Blk.k6 B2.out;have B0:=hqZ (Blk.next (B4.out.alloc _) hf id);clear B4;obtain⟨xk29,xl37⟩:=Blk.k1 B0.out;have B4:=hqZ (Blk.next (Blk.at_ _ _ _ (n:=w9.heap.size) rfl) hf id);obtain⟨xk30,xl38⟩:=Blk.k2 B4.out;have X1:=hqZ (Rep.carry X0.out (Fr.transN (Fr.r.alloc _) hf));clear X0;have X0:=hqZ (RepL.carry X2.out (Fr.transN (Fr.r.alloc _) hf));clear X2;have X2:=hqZ (Row.carry X3.out (Fr.transN (Fr.r.alloc _) hf));clear X3;have X3:=hqZ (Row.mono (Z':=fun g=>w9.heap.size+1<=g/\g < w10.heap.size) (hZ:=fun g h1 h2=>by simp only[aa,ae,ad,af]at h2;omega) (h:=hrow2));clear hrow2;have X5:=hqZ (Acc.carry X4.out (Fr.transN (Fr.r.alloc _) hf));clear X4;clear hf;clear xk0 xk1 xk10 xk22 xk28))
     go_wp2
     refine bodyPost_ret (v:=(.tuple #[.agg #[.iface 200 (.agg #[.string (hd (adv ts)).text,sv])],.bool true,.nilIface])) (by simp only[results,Tryz.results217];go_simp) rfl ?_
     rw[ER.out]
     exact⟨_,_,rfl,.call _ _ (.iface tx ux::vs) _ (.cons _ _ _ _ (by exact Rep.mono (h:=(Rep.carry X1.out ((Fr.r.set (.inl (by omega))).set (.inl (by omega))))) (hZ:=fun g _ hg=>by omega)) (by exact RepL.mono (h:=(RepL.carry X0.out ((Fr.r.set (.inl (by omega))).set (.inl (by omega))))) (hZ:=fun g _ hg=>by omega))) (by exact Row.mono (h:=(Row.carry X3.out ((Fr.r.set (.inl (by omega))).set (.inl (by omega))))) (hZ:=fun g _ hg=>by omega)),by exact PSt.over (w0:=w) P0.out ((Fr.r.set (.inl (by omega))).set (.inl (by omega))) ltp ltt,by exact((T0.out.set (.inr (by omega))).set (.inr (by omega)))⟩
end Go.Proofs.YtbdhlpeckennjaaGreatDoor
