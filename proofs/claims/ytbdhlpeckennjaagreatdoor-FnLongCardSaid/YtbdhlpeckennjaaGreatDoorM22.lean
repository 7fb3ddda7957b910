/- FnLong (the proof that the law returns true for every input), part 22 of 52; the last part says what is proved, and its condition. -/
import Derived.Test.YtbdhlpeckennjaaGreatDoorM01
import Derived.Test.YtbdhlpeckennjaaGreatDoorM03
import Derived.Test.YtbdhlpeckennjaaGreatDoorM06
import Derived.Test.YtbdhlpeckennjaaGreatDoorM11
import Derived.Test.YtbdhlpeckennjaaGreatDoorM18
import Derived.Test.YtbdhlpeckennjaaGreatDoorM19
import Derived.Test.YtbdhlpeckennjaaGreatDoorM20
import Derived.Test.YtbdhlpeckennjaaGreatDoorM21
set_option linter.unusedVariables false
set_option linter.unusedSimpArgs false
set_option maxHeartbeats 80000000
set_option maxRecDepth 1000000
namespace Go.Proofs.YtbdhlpeckennjaaGreatDoor
open Go Go.RowKit
theorem iw(E:List Tok->PR Ex)(hE:Does 135 E)(hO:Does 153 (orP E)):Does 135 (cA E):=by
 intro w pb tb ts h hne
 have ltp:=h.lt
 have ltt:=h.lt2
 have P0:=hqZ h
 have HE:=hqZ hE
 have HO:=hqZ hO
 have HN:=hqZ hne
 clear h hE hO hne
 go_enter Tryz.func135,Tryz.ntmps135
 go_wp2_with fail
 refine(ay _ pb tb ts ?_).mono ?_
 .exact(P0.out.over (w0:=w) (by(repeat' (with_reducible(first|exact Fr.refl _ _|apply Fr.drew|apply Fr.alloc|apply Fr.set))) <;> exact .inl (by simp;try omega)) ltp ltt)
 rintro e w1 ⟨⟨o,l,c,rfl⟩,hf⟩
 have T1:=hqZ (Fr.trans (by(repeat' (with_reducible(first|exact Fr.refl _ _|apply Fr.drew|apply Fr.alloc|apply Fr.set))) <;> first|exact .inl rfl|exact .inr (by omega)) hf.ofNew:Fr (· = pb) w w1)
 have s1:=T1.out.size
 have Br1:=hqZ (Box.next (pb:=pb) (by repeat' (first|exact Box.at_ _ _ _ (by simp)|with_reducible apply Box.alloc|with_reducible apply Box.drew)) hf.ofNew (by omega):Box w1 (w.heap.size) 246 (.nilIface))
 have P1:=hqZ (P0.out.over (w0:=w) (Fr.trans (by(repeat' (with_reducible(first|exact Fr.refl _ _|apply Fr.drew|apply Fr.alloc|apply Fr.set))) <;> exact .inl (by simp;try omega)) hf.ofNew) ltp ltt)
 have lr1:=Br1.out.lt
 clear hf
 cases hq:((hd ts).text.toList == [105,102])
 .have er:cA E ts=orP E ts:=by simp[cA,Tok.is,hq]
  have ER:=hqZ er
  clear er
  cases hr:orP E ts with
  | out=>exact absurd (by rw[ER.out,hr]) HN.out
  | bad =>
   have HR:=hqZ hr
   clear hr
   go_wp2_with fail
   refine(HO.out.bad (tb:=tb) ?_ HR.out).mono ?_
   .exact(P1.out.over (w0:=w) (by(repeat' (with_reducible(first|exact Fr.refl _ _|apply Fr.drew|apply Fr.alloc|apply Fr.set))) <;> exact .inl (by simp;try omega)) ltp ltt)
   rintro e w2 ⟨t,u,rfl,hf⟩
   have T2:=hqZ (Fr.trans (by(repeat' (with_reducible(first|exact T1.out|apply Fr.drew|apply Fr.alloc|apply Fr.set))) <;> first|exact .inl rfl|exact .inr (by omega)) hf:Fr (· = pb) w w2)
   have s2:=T2.out.size
   have Br2:=hqZ (Box.next (pb:=pb) (by repeat' (with_reducible(first|exact Br1.out|apply Box.alloc|apply Box.drew))) hf (by omega):Box w2 (w.heap.size) 246 (.nilIface))
   have lr2:=Br2.out.lt
   clear hf
   have cr:=Br2.out.cell
   have fr:=Br2.out.free
   go_wp2
   refine bodyPost_ret (v:=.tuple #[.agg #[.nilIface],.iface t u]) (by simp only[results,Tryz.results135];go_simp) rfl ?_
   rw[ER.out,HR.out]
   exact⟨t,u,rfl,(by(repeat' (with_reducible(first|exact T2.out|apply Fr.drew|apply Fr.alloc|apply Fr.set))) <;> first|exact .inl rfl|exact .inr (by omega))⟩
  | ok x ts1 =>
   have HR:=hqZ hr
   clear hr
   go_wp2_with fail
   refine(HO.out.ok (tb:=tb) ?_ HR.out).mono ?_
   .exact(P1.out.over (w0:=w) (by(repeat' (with_reducible(first|exact Fr.refl _ _|apply Fr.drew|apply Fr.alloc|apply Fr.set))) <;> exact .inl (by simp;try omega)) ltp ltt)
   rintro e w2 ⟨t,u,rfl,hx,hp,hf⟩
   have T2:=hqZ (Fr.trans (by(repeat' (with_reducible(first|exact T1.out|apply Fr.drew|apply Fr.alloc|apply Fr.set))) <;> first|exact .inl rfl|exact .inr (by omega)) hf:Fr (· = pb) w w2)
   have s2:=T2.out.size
   have Br2:=hqZ (Box.next (pb:=pb) (by repeat' (with_reducible(first|exact Br1.out|apply Box.alloc|apply Box.drew))) hf (by omega):Box w2 (w.heap.size) 246 (.nilIface))
   have P2:=hqZ hp
   have lr2:=Br2.out.lt
   have Xx2:=hqZ (hx.mono (Z':=fun g=>w1.heap.size+1<=g/\g < w2.heap.size) (fun g h1 h2=>by(try simp at h2);omega))
   clear hf hx hp
   have cr:=Br2.out.cell
   have fr:=Br2.out.free
   go_wp2
   refine bodyPost_ret (v:=.tuple #[.agg #[.iface t u],.nilIface]) (by simp only[results,Tryz.results135];go_simp) rfl ?_
   rw[ER.out,HR.out]
   refine⟨t,u,rfl,(Xx2.out.frame (S:=(· = w.heap.size)) (by(repeat' (with_reducible(first|exact Fr.refl _ _|apply Fr.drew|apply Fr.alloc|apply Fr.set))) <;> exact .inl rfl) (fun g hg _ e=>by omega)).mono (fun g _ hg=>by omega),P2.out.over (w0:=w) (by(repeat' (with_reducible(first|exact Fr.refl _ _|apply Fr.drew|apply Fr.alloc|apply Fr.set))) <;> exact .inl (by simp;try omega)) ltp ltt,(by(repeat' (with_reducible(first|exact T2.out|apply Fr.drew|apply Fr.alloc|apply Fr.set))) <;> first|exact .inl rfl|exact .inr (by omega))⟩
 .have E0:=hqZ (show cA E ts=(E (adv ts)).bind fun c ts1=>(ak [116,104,101,110] ts1).bind fun _ ts2=>(E ts2).bind fun t ts3=>(ak [101,108,115,101] ts3).bind fun _ ts4=>(E ts4).bind fun e ts5=>.ok (.opn 3 [c,t,e]) ts5 from by simp[cA,Tok.is,hq])
  go_wp2_with fail
  refine(ag _ pb tb ts ?_).mono ?_
  .exact(P1.out.over (w0:=w) (by(repeat' (with_reducible(first|exact Fr.refl _ _|apply Fr.drew|apply Fr.alloc|apply Fr.set))) <;> exact .inl (by simp;try omega)) ltp ltt)
  rintro e w2 ⟨⟨o2,l2,c2,rfl⟩,hp,hf⟩
  have T2:=hqZ (Fr.trans (by(repeat' (with_reducible(first|exact T1.out|apply Fr.drew|apply Fr.alloc|apply Fr.set))) <;> first|exact .inl rfl|exact .inr (by omega)) hf:Fr (· = pb) w w2)
  have s2:=T2.out.size
  have Br2:=hqZ (Box.next (pb:=pb) (by repeat' (with_reducible(first|exact Br1.out|apply Box.alloc|apply Box.drew))) hf (by omega):Box w2 (w.heap.size) 246 (.nilIface))
  have P2:=hqZ hp
  have lr2:=Br2.out.lt
  clear hf hp
  cases hrx1:E (adv ts)with
  | out=>exact absurd (by rw[E0.out,hrx1];rfl) HN.out
  | bad =>
   have HR:=hqZ (show cA E ts = .bad from by rw[E0.out,hrx1];rfl)
   have HS:=hqZ hrx1
   clear hrx1
   go_wp2_with fail
   refine(HE.out.bad (tb:=tb) ?_ HS.out).mono ?_
   .exact(P2.out.over (w0:=w) (by(repeat' (with_reducible(first|exact Fr.refl _ _|apply Fr.drew|apply Fr.alloc|apply Fr.set))) <;> exact .inl (by simp;try omega)) ltp ltt)
   rintro e w3 ⟨t,u,rfl,hf⟩
   have T3:=hqZ (Fr.trans (by(repeat' (with_reducible(first|exact T2.out|apply Fr.drew|apply Fr.alloc|apply Fr.set))) <;> first|exact .inl rfl|exact .inr (by omega)) hf:Fr (· = pb) w w3)
   have s3:=T3.out.size
   have Br3:=hqZ (Box.next (pb:=pb) (by repeat' (with_reducible(first|exact Br2.out|apply Box.alloc|apply Box.drew))) hf (by omega):Box w3 (w.heap.size) 246 (.nilIface))
   have lr3:=Br3.out.lt
   clear hf
   have cr:=Br3.out.cell
   have fr:=Br3.out.free
   go_wp2
   refine bodyPost_ret (v:=.tuple #[.agg #[.nilIface],.iface t u]) (by simp only[results,Tryz.results135];go_simp) rfl ?_
   rw[HR.out]
   exact⟨t,u,rfl,(by(repeat' (with_reducible(first|exact T3.out|apply Fr.drew|apply Fr.alloc|apply Fr.set))) <;> first|exact .inl rfl|exact .inr (by omega))⟩
  | ok x1 ts1 =>
   have Rx1:=hqZ hrx1
   clear hrx1
   have E1:=hqZ (show cA E ts=(ak [116,104,101,110] ts1).bind fun _ ts2=>(E ts2).bind fun t ts3=>(ak [101,108,115,101] ts3).bind fun _ ts4=>(E ts4).bind fun e ts5=>.ok (.opn 3 [x1,t,e]) ts5 from by rw[E0.out,Rx1.out];rfl)
   go_wp2_with fail
   refine(HE.out.ok (tb:=tb) ?_ Rx1.out).mono ?_
   .exact(P2.out.over (w0:=w) (by(repeat' (with_reducible(first|exact Fr.refl _ _|apply Fr.drew|apply Fr.alloc|apply Fr.set))) <;> exact .inl (by simp;try omega)) ltp ltt)
   rintro e w3 ⟨t1,u1,rfl,hx,hp,hf⟩
   have T3:=hqZ (Fr.trans (by(repeat' (with_reducible(first|exact T2.out|apply Fr.drew|apply Fr.alloc|apply Fr.set))) <;> first|exact .inl rfl|exact .inr (by omega)) hf:Fr (· = pb) w w3)
   have s3:=T3.out.size
   have Br3:=hqZ (Box.next (pb:=pb) (by repeat' (with_reducible(first|exact Br2.out|apply Box.alloc|apply Box.drew))) hf (by omega):Box w3 (w.heap.size) 246 (.nilIface))
   have P3:=hqZ hp
   have lr3:=Br3.out.lt
   have Xa3:=hqZ (hx.mono (Z':=fun g=>w2.heap.size+0<=g/\g < w3.heap.size) (fun g h1 h2=>by(try simp at h2);omega))
   clear hf hx hp
   cases he1:((hd ts1).text.toList == [116,104,101,110])
   .have HR:=hqZ (show cA E ts = .bad from by rw[E1.out];simp[PR.bind,ak,Tok.is,he1])
    go_wp2_with fail
    refine(bf _ pb tb _ _ ?_ he1).mono ?_
    .exact(P3.out.over (w0:=w) (by(repeat' (with_reducible(first|exact Fr.refl _ _|apply Fr.drew|apply Fr.alloc|apply Fr.set))) <;> exact .inl (by simp;try omega)) ltp ltt)
    rintro e w4 ⟨⟨t,u,rfl⟩,hf⟩
    have T4:=hqZ (Fr.trans (by(repeat' (with_reducible(first|exact T3.out|apply Fr.drew|apply Fr.alloc|apply Fr.set))) <;> first|exact .inl rfl|exact .inr (by omega)) hf:Fr (· = pb) w w4)
    have s4:=T4.out.size
    have Br4:=hqZ (Box.next (pb:=pb) (by repeat' (with_reducible(first|exact Br3.out|apply Box.alloc|apply Box.drew))) hf (by omega):Box w4 (w.heap.size) 246 (.nilIface))
    have Bc4:=hqZ (Box.next (pb:=pb) (by repeat' (first|exact Box.at_ _ _ _ (by simp)|with_reducible apply Box.alloc|with_reducible apply Box.drew)) hf (by omega):Box w4 (w3.heap.size) 246 (.iface t1 u1))
    have Xa4:=hqZ (Xa3.out.frame (Fr.trans (by repeat' (with_reducible(first|exact Fr.refl _ _|apply Fr.drew|apply Fr.alloc))) hf:Fr (· = pb) w3 w4) (fun g hg _ e=>by omega))
    have lr4:=Br4.out.lt
    have lc4:=Bc4.out.lt
    clear hf
    have cr:=Br4.out.cell
    have fr:=Br4.out.free
    go_wp2
    refine bodyPost_ret (v:=.tuple #[.agg #[.nilIface],.iface t u]) (by simp only[results,Tryz.results135];go_simp) rfl ?_
    rw[HR.out]
    exact⟨t,u,rfl,(by(repeat' (with_reducible(first|exact T4.out|apply Fr.drew|apply Fr.alloc|apply Fr.set))) <;> first|exact .inl rfl|exact .inr (by omega))⟩
   .go_wp2_with fail
    refine(aQ _ pb tb _ _ ?_ he1).mono ?_
    .exact(P3.out.over (w0:=w) (by(repeat' (with_reducible(first|exact Fr.refl _ _|apply Fr.drew|apply Fr.alloc|apply Fr.set))) <;> exact .inl (by simp;try omega)) ltp ltt)
    rintro e w4 ⟨rfl,hp,hf⟩
    have T4:=hqZ (Fr.trans (by(repeat' (with_reducible(first|exact T3.out|apply Fr.drew|apply Fr.alloc|apply Fr.set))) <;> first|exact .inl rfl|exact .inr (by omega)) hf:Fr (· = pb) w w4)
    have s4:=T4.out.size
    have Br4:=hqZ (Box.next (pb:=pb) (by repeat' (with_reducible(first|exact Br3.out|apply Box.alloc|apply Box.drew))) hf (by omega):Box w4 (w.heap.size) 246 (.nilIface))
    have Bc4:=hqZ (Box.next (pb:=pb) (by repeat' (first|exact Box.at_ _ _ _ (by simp)|with_reducible apply Box.alloc|with_reducible apply Box.drew)) hf (by omega):Box w4 (w3.heap.size) 246 (.iface t1 u1))
    have Xa4:=hqZ (Xa3.out.frame (Fr.trans (by repeat' (with_reducible(first|exact Fr.refl _ _|apply Fr.drew|apply Fr.alloc))) hf:Fr (· = pb) w3 w4) (fun g hg _ e=>by omega))
    have P4:=hqZ hp
    have lr4:=Br4.out.lt
    have lc4:=Bc4.out.lt
    clear hf hp
    have E2:=hqZ (show cA E ts=(E (adv ts1)).bind fun t ts3=>(ak [101,108,115,101] ts3).bind fun _ ts4=>(E ts4).bind fun e ts5=>.ok (.opn 3 [x1,t,e]) ts5 from by rw[E1.out];simp[PR.bind,ak,Tok.is,he1])
    cases hrx2:E (adv ts1)with
    | out=>exact absurd (by rw[E2.out,hrx2];rfl) HN.out
    | bad =>
     have HR:=hqZ (show cA E ts = .bad from by rw[E2.out,hrx2];rfl)
     have HS:=hqZ hrx2
     clear hrx2
     go_wp2_with fail
     refine(HE.out.bad (tb:=tb) ?_ HS.out).mono ?_
     .exact(P4.out.over (w0:=w) (by(repeat' (with_reducible(first|exact Fr.refl _ _|apply Fr.drew|apply Fr.alloc|apply Fr.set))) <;> exact .inl (by simp;try omega)) ltp ltt)
     rintro e w5 ⟨t,u,rfl,hf⟩
     have T5:=hqZ (Fr.trans (by(repeat' (with_reducible(first|exact T4.out|apply Fr.drew|apply Fr.alloc|apply Fr.set))) <;> first|exact .inl rfl|exact .inr (by omega)) hf:Fr (· = pb) w w5)
     have s5:=T5.out.size
     have Br5:=hqZ (Box.next (pb:=pb) (by repeat' (with_reducible(first|exact Br4.out|apply Box.alloc|apply Box.drew))) hf (by omega):Box w5 (w.heap.size) 246 (.nilIface))
     have Bc5:=hqZ (Box.next (pb:=pb) (by repeat' (with_reducible(first|exact Bc4.out|apply Box.alloc|apply Box.drew))) hf (by omega):Box w5 (w3.heap.size) 246 (.iface t1 u1))
     have Xa5:=hqZ (Xa4.out.frame (Fr.trans (by repeat' (with_reducible(first|exact Fr.refl _ _|apply Fr.drew|apply Fr.alloc))) hf:Fr (· = pb) w4 w5) (fun g hg _ e=>by omega))
     have lr5:=Br5.out.lt
     have lc5:=Bc5.out.lt
     clear hf
     have cr:=Br5.out.cell
     have fr:=Br5.out.free
     go_wp2
     refine bodyPost_ret (v:=.tuple #[.agg #[.nilIface],.iface t u]) (by simp only[results,Tryz.results135];go_simp) rfl ?_
     rw[HR.out]
     exact⟨t,u,rfl,(by(repeat' (with_reducible(first|exact T5.out|apply Fr.drew|apply Fr.alloc|apply Fr.set))) <;> first|exact .inl rfl|exact .inr (by omega))⟩
    | ok x2 ts2 =>
     have Rx2:=hqZ hrx2
     clear hrx2
     have E3:=hqZ (show cA E ts=(ak [101,108,115,101] ts2).bind fun _ ts4=>(E ts4).bind fun e ts5=>.ok (.opn 3 [x1,x2,e]) ts5 from by rw[E2.out,Rx2.out];rfl)
     go_wp2_with fail
     refine(HE.out.ok (tb:=tb) ?_ Rx2.out).mono ?_
     .exact(P4.out.over (w0:=w) (by(repeat' (with_reducible(first|exact Fr.refl _ _|apply Fr.drew|apply Fr.alloc|apply Fr.set))) <;> exact .inl (by simp;try omega)) ltp ltt)
     rintro e w5 ⟨t2,u2,rfl,hx,hp,hf⟩
     have T5:=hqZ (Fr.trans (by(repeat' (with_reducible(first|exact T4.out|apply Fr.drew|apply Fr.alloc|apply Fr.set))) <;> first|exact .inl rfl|exact .inr (by omega)) hf:Fr (· = pb) w w5)
     have s5:=T5.out.size
     have Br5:=hqZ (Box.next (pb:=pb) (by repeat' (with_reducible(first|exact Br4.out|apply Box.alloc|apply Box.drew))) hf (by omega):Box w5 (w.heap.size) 246 (.nilIface))
     have Bc5:=hqZ (Box.next (pb:=pb) (by repeat' (with_reducible(first|exact Bc4.out|apply Box.alloc|apply Box.drew))) hf (by omega):Box w5 (w3.heap.size) 246 (.iface t1 u1))
     have Xa5:=hqZ (Xa4.out.frame (Fr.trans (by repeat' (with_reducible(first|exact Fr.refl _ _|apply Fr.drew|apply Fr.alloc))) hf:Fr (· = pb) w4 w5) (fun g hg _ e=>by omega))
     have P5:=hqZ hp
     have lr5:=Br5.out.lt
     have lc5:=Bc5.out.lt
     have Xb5:=hqZ (hx.mono (Z':=fun g=>w4.heap.size+0<=g/\g < w5.heap.size) (fun g h1 h2=>by(try simp at h2);omega))
     clear hf hx hp
     cases he2:((hd ts2).text.toList == [101,108,115,101])
     .have HR:=hqZ (show cA E ts = .bad from by rw[E3.out];simp[PR.bind,ak,Tok.is,he2])
      go_wp2_with fail
      refine(bf _ pb tb _ _ ?_ he2).mono ?_
      .exact(P5.out.over (w0:=w) (by(repeat' (with_reducible(first|exact Fr.refl _ _|apply Fr.drew|apply Fr.alloc|apply Fr.set))) <;> exact .inl (by simp;try omega)) ltp ltt)
      rintro e w6 ⟨⟨t,u,rfl⟩,hf⟩
      have T6:=hqZ (Fr.trans (by(repeat' (with_reducible(first|exact T5.out|apply Fr.drew|apply Fr.alloc|apply Fr.set))) <;> first|exact .inl rfl|exact .inr (by omega)) hf:Fr (· = pb) w w6)
      have s6:=T6.out.size
      have Br6:=hqZ (Box.next (pb:=pb) (by repeat' (with_reducible(first|exact Br5.out|apply Box.alloc|apply Box.drew))) hf (by omega):Box w6 (w.heap.size) 246 (.nilIface))
      have Bc6:=hqZ (Box.next (pb:=pb) (by repeat' (with_reducible(first|exact Bc5.out|apply Box.alloc|apply Box.drew))) hf (by omega):Box w6 (w3.heap.size) 246 (.iface t1 u1))
      have Bd6:=hqZ (Box.next (pb:=pb) (by repeat' (first|exact Box.at_ _ _ _ (by simp)|with_reducible apply Box.alloc|with_reducible apply Box.drew)) hf (by omega):Box w6 (w5.heap.size) 246 (.iface t2 u2))
      have Xa6:=hqZ (Xa5.out.frame (Fr.trans (by repeat' (with_reducible(first|exact Fr.refl _ _|apply Fr.drew|apply Fr.alloc))) hf:Fr (· = pb) w5 w6) (fun g hg _ e=>by omega))
      have Xb6:=hqZ (Xb5.out.frame (Fr.trans (by repeat' (with_reducible(first|exact Fr.refl _ _|apply Fr.drew|apply Fr.alloc))) hf:Fr (· = pb) w5 w6) (fun g hg _ e=>by omega))
      have lr6:=Br6.out.lt
      have lc6:=Bc6.out.lt
      have ld6:=Bd6.out.lt
      clear hf
      have cr:=Br6.out.cell
      have fr:=Br6.out.free
      go_wp2
      refine bodyPost_ret (v:=.tuple #[.agg #[.nilIface],.iface t u]) (by simp only[results,Tryz.results135];go_simp) rfl ?_
      rw[HR.out]
      exact⟨t,u,rfl,(by(repeat' (with_reducible(first|exact T6.out|apply Fr.drew|apply Fr.alloc|apply Fr.set))) <;> first|exact .inl rfl|exact .inr (by omega))⟩
     .go_wp2_with fail
      refine(aQ _ pb tb _ _ ?_ he2).mono ?_
      .exact(P5.out.over (w0:=w) (by(repeat' (with_reducible(first|exact Fr.refl _ _|apply Fr.drew|apply Fr.alloc|apply Fr.set))) <;> exact .inl (by simp;try omega)) ltp ltt)
      rintro e w6 ⟨rfl,hp,hf⟩
      have T6:=hqZ (Fr.trans (by(repeat' (with_reducible(first|exact T5.out|apply Fr.drew|apply Fr.alloc|apply Fr.set))) <;> first|exact .inl rfl|exact .inr (by omega)) hf:Fr (· = pb) w w6)
      have s6:=T6.out.size
      have Br6:=hqZ (Box.next (pb:=pb) (by repeat' (with_reducible(first|exact Br5.out|apply Box.alloc|apply Box.drew))) hf (by omega):Box w6 (w.heap.size) 246 (.nilIface))
      have Bc6:=hqZ (Box.next (pb:=pb) (by repeat' (with_reducible(first|exact Bc5.out|apply Box.alloc|apply Box.drew))) hf (by omega):Box w6 (w3.heap.size) 246 (.iface t1 u1))
      have Bd6:=hqZ (Box.next (pb:=pb) (by repeat' (first|exact Box.at_ _ _ _ (by simp)|with_reducible apply Box.alloc|with_reducible apply Box.drew)) hf (by omega):Box w6 (w5.heap.size) 246 (.iface t2 u2))
      have Xa6:=hqZ (Xa5.out.frame (Fr.trans (by repeat' (with_reducible(first|exact Fr.refl _ _|apply Fr.drew|apply Fr.alloc))) hf:Fr (· = pb) w5 w6) (fun g hg _ e=>by omega))
      have Xb6:=hqZ (Xb5.out.frame (Fr.trans (by repeat' (with_reducible(first|exact Fr.refl _ _|apply Fr.drew|apply Fr.alloc))) hf:Fr (· = pb) w5 w6) (fun g hg _ e=>by omega))
      have P6:=hqZ hp
      have lr6:=Br6.out.lt
      have lc6:=Bc6.out.lt
      have ld6:=Bd6.out.lt
      clear hf hp
      have E4:=hqZ (show cA E ts=(E (adv ts2)).bind fun e ts5=>.ok (.opn 3 [x1,x2,e]) ts5 from by rw[E3.out];simp[PR.bind,ak,Tok.is,he2])
      cases hrx3:E (adv ts2)with
      | out=>exact absurd (by rw[E4.out,hrx3];rfl) HN.out
      | bad =>
       have HR:=hqZ (show cA E ts = .bad from by rw[E4.out,hrx3];rfl)
       have HS:=hqZ hrx3
       clear hrx3
       go_wp2_with fail
       refine(HE.out.bad (tb:=tb) ?_ HS.out).mono ?_
       .exact(P6.out.over (w0:=w) (by(repeat' (with_reducible(first|exact Fr.refl _ _|apply Fr.drew|apply Fr.alloc|apply Fr.set))) <;> exact .inl (by simp;try omega)) ltp ltt)
       rintro e w7 ⟨t,u,rfl,hf⟩
       have T7:=hqZ (Fr.trans (by(repeat' (with_reducible(first|exact T6.out|apply Fr.drew|apply Fr.alloc|apply Fr.set))) <;> first|exact .inl rfl|exact .inr (by omega)) hf:Fr (· = pb) w w7)
       have s7:=T7.out.size
       have Br7:=hqZ (Box.next (pb:=pb) (by repeat' (with_reducible(first|exact Br6.out|apply Box.alloc|apply Box.drew))) hf (by omega):Box w7 (w.heap.size) 246 (.nilIface))
       have Bc7:=hqZ (Box.next (pb:=pb) (by repeat' (with_reducible(first|exact Bc6.out|apply Box.alloc|apply Box.drew))) hf (by omega):Box w7 (w3.heap.size) 246 (.iface t1 u1))
       have Bd7:=hqZ (Box.next (pb:=pb) (by repeat' (with_reducible(first|exact Bd6.out|apply Box.alloc|apply Box.drew))) hf (by omega):Box w7 (w5.heap.size) 246 (.iface t2 u2))
       have Xa7:=hqZ (Xa6.out.frame (Fr.trans (by repeat' (with_reducible(first|exact Fr.refl _ _|apply Fr.drew|apply Fr.alloc))) hf:Fr (· = pb) w6 w7) (fun g hg _ e=>by omega))
       have Xb7:=hqZ (Xb6.out.frame (Fr.trans (by repeat' (with_reducible(first|exact Fr.refl _ _|apply Fr.drew|apply Fr.alloc))) hf:Fr (· = pb) w6 w7) (fun g hg _ e=>by omega))
       have lr7:=Br7.out.lt
       have lc7:=Bc7.out.lt
       have ld7:=Bd7.out.lt
       clear hf
       have cr:=Br7.out.cell
       have fr:=Br7.out.free
       go_wp2
       refine bodyPost_ret (v:=.tuple #[.agg #[.nilIface],.iface t u]) (by simp only[results,Tryz.results135];go_simp) rfl ?_
       rw[HR.out]
       exact⟨t,u,rfl,(by(repeat' (with_reducible(first|exact T7.out|apply Fr.drew|apply Fr.alloc|apply Fr.set))) <;> first|exact .inl rfl|exact .inr (by omega))⟩
      | ok x3 ts3 =>
       have Rx3:=hqZ hrx3
       clear hrx3
       have E5:=hqZ (show cA E ts = .ok (.opn 3 [x1,x2,x3]) ts3 from by rw[E4.out,Rx3.out];rfl)
       go_wp2_with fail
       refine(HE.out.ok (tb:=tb) ?_ Rx3.out).mono ?_
       .exact(P6.out.over (w0:=w) (by(repeat' (with_reducible(first|exact Fr.refl _ _|apply Fr.drew|apply Fr.alloc|apply Fr.set))) <;> exact .inl (by simp;try omega)) ltp ltt)
       rintro e w7 ⟨t3,u3,rfl,hx,hp,hf⟩
       have T7:=hqZ (Fr.trans (by(repeat' (with_reducible(first|exact T6.out|apply Fr.drew|apply Fr.alloc|apply Fr.set))) <;> first|exact .inl rfl|exact .inr (by omega)) hf:Fr (· = pb) w w7)
       have s7:=T7.out.size
       have Br7:=hqZ (Box.next (pb:=pb) (by repeat' (with_reducible(first|exact Br6.out|apply Box.alloc|apply Box.drew))) hf (by omega):Box w7 (w.heap.size) 246 (.nilIface))
       have Bc7:=hqZ (Box.next (pb:=pb) (by repeat' (with_reducible(first|exact Bc6.out|apply Box.alloc|apply Box.drew))) hf (by omega):Box w7 (w3.heap.size) 246 (.iface t1 u1))
       have Bd7:=hqZ (Box.next (pb:=pb) (by repeat' (with_reducible(first|exact Bd6.out|apply Box.alloc|apply Box.drew))) hf (by omega):Box w7 (w5.heap.size) 246 (.iface t2 u2))
       have Xa7:=hqZ (Xa6.out.frame (Fr.trans (by repeat' (with_reducible(first|exact Fr.refl _ _|apply Fr.drew|apply Fr.alloc))) hf:Fr (· = pb) w6 w7) (fun g hg _ e=>by omega))
       have Xb7:=hqZ (Xb6.out.frame (Fr.trans (by repeat' (with_reducible(first|exact Fr.refl _ _|apply Fr.drew|apply Fr.alloc))) hf:Fr (· = pb) w6 w7) (fun g hg _ e=>by omega))
       have P7:=hqZ hp
       have lr7:=Br7.out.lt
       have lc7:=Bc7.out.lt
       have ld7:=Bd7.out.lt
       have Xz7:=hqZ (hx.mono (Z':=fun g=>w6.heap.size+0<=g/\g < w7.heap.size) (fun g h1 h2=>by(try simp at h2);omega))
       clear hf hx hp
       have cc:=Bc7.out.cell
       have fc:=Bc7.out.free
       have cd:=Bd7.out.cell
       have fd:=Bd7.out.free
       go_wp2_with fail
       refine(gD _ _ _ _ _ _ _).mono ?_
       rintro e w8 ⟨rfl,hf⟩
       have T8:=hqZ (Fr.trans (by(repeat' (with_reducible(first|exact T7.out|apply Fr.drew|apply Fr.alloc|apply Fr.set))) <;> first|exact .inl rfl|exact .inr (by omega)) hf.ofNew:Fr (· = pb) w w8)
       have s8:=T8.out.size
       have Br8:=hqZ (Box.next (pb:=pb) (by repeat' (with_reducible(first|exact Br7.out|apply Box.alloc|apply Box.drew))) hf.ofNew (by omega):Box w8 (w.heap.size) 246 (.nilIface))
       have Bc8:=hqZ (Box.next (pb:=pb) (by repeat' (with_reducible(first|exact Bc7.out|apply Box.alloc|apply Box.drew))) hf.ofNew (by omega):Box w8 (w3.heap.size) 246 (.iface t1 u1))
       have Bd8:=hqZ (Box.next (pb:=pb) (by repeat' (with_reducible(first|exact Bd7.out|apply Box.alloc|apply Box.drew))) hf.ofNew (by omega):Box w8 (w5.heap.size) 246 (.iface t2 u2))
       have Bf8:=hqZ (Box.next (pb:=pb) (by repeat' (first|exact Box.at_ _ _ _ (by simp)|with_reducible apply Box.alloc|with_reducible apply Box.drew)) hf.ofNew (by omega):Box w8 (w7.heap.size) 246 (.iface t3 u3))
       have Xa8:=hqZ (Xa7.out.frame (Fr.trans (by repeat' (with_reducible(first|exact Fr.refl _ _|apply Fr.drew|apply Fr.alloc))) hf.ofNew:Fr (· = pb) w7 w8) (fun g hg _ e=>by omega))
       have Xb8:=hqZ (Xb7.out.frame (Fr.trans (by repeat' (with_reducible(first|exact Fr.refl _ _|apply Fr.drew|apply Fr.alloc))) hf.ofNew:Fr (· = pb) w7 w8) (fun g hg _ e=>by omega))
       have Xz8:=hqZ (Xz7.out.frame (Fr.trans (by repeat' (with_reducible(first|exact Fr.refl _ _|apply Fr.drew|apply Fr.alloc))) hf.ofNew:Fr (· = pb) w7 w8) (fun g hg _ e=>by omega))
       have P8:=hqZ (P7.out.over (w0:=w) (Fr.trans (by(repeat' (with_reducible(first|exact Fr.refl _ _|apply Fr.drew|apply Fr.alloc|apply Fr.set))) <;> exact .inl (by simp;try omega)) hf.ofNew) ltp ltt)
       have lr8:=Br8.out.lt
       have lc8:=Bc8.out.lt
       have ld8:=Bd8.out.lt
       have lf8:=Bf8.out.lt
       clear hf
       have cr:=Br8.out.cell
       have fr:=Br8.out.free
       go_wp2
       refine bodyPost_ret (v:=.tuple #[.agg #[.iface 174 (.agg #[.iface t1 u1,.iface t2 u2,.iface t3 u3])],.nilIface]) (by simp only[results,Tryz.results135];go_simp) rfl ?_
       rw[E5.out]
       refine⟨_,_,rfl,?_,P8.out.over (w0:=w) (by(repeat' (with_reducible(first|exact Fr.refl _ _|apply Fr.drew|apply Fr.alloc|apply Fr.set))) <;> exact .inl (by simp;try omega)) ltp ltt,(by(repeat' (with_reducible(first|exact T8.out|apply Fr.drew|apply Fr.alloc|apply Fr.set))) <;> first|exact .inl rfl|exact .inr (by omega))⟩
       refine .ite _ _ _ _ _ _ ?_ ?_ ?_
       .exact(Xa8.out.frame (S:=(· = w.heap.size)) (by(repeat' (with_reducible(first|exact Fr.refl _ _|apply Fr.drew|apply Fr.alloc|apply Fr.set))) <;> exact .inl rfl) (fun g hg _ e=>by omega)).mono (fun g _ hg=>by omega)
       .exact(Xb8.out.frame (S:=(· = w.heap.size)) (by(repeat' (with_reducible(first|exact Fr.refl _ _|apply Fr.drew|apply Fr.alloc|apply Fr.set))) <;> exact .inl rfl) (fun g hg _ e=>by omega)).mono (fun g _ hg=>by omega)
       .exact(Xz8.out.frame (S:=(· = w.heap.size)) (by(repeat' (with_reducible(first|exact Fr.refl _ _|apply Fr.drew|apply Fr.alloc|apply Fr.set))) <;> exact .inl rfl) (fun g hg _ e=>by omega)).mono (fun g _ hg=>by omega)
def eO (s:ByteArray):ByteArray:=if s.data.toList.head? = some 34 then s.extract 1 s.size else s
def gf (a:ByteArray):ByteArray:=if a.data.toList.getLast? = some 34 then a.extract 0 (a.size - 1)else a
theorem md(s:ByteArray):pp s=gf (eO s):=rfl
theorem fJ(s:ByteArray):(eO s).size<=s.size:=by unfold eO;split <;> simp[ByteArray.size_extract]
theorem iV(s:ByteArray):(gf s).size<=s.size:=by unfold gf;split <;> simp[ByteArray.size_extract]
def rZ:Prop:=∀ (w:World) (s:ByteArray),Calls Tryz.prog 147 #[.string s,.string ⟨#[34]⟩] w fun e w'=>e = .returned (.string (eO s))/\New w w'
def rY:Prop:=∀ (w:World) (s:ByteArray),s.size<=1000000->Calls Tryz.prog 148 #[.string s,.string ⟨#[34]⟩] w fun e w'=>e = .returned (.string (gf s))/\New w w'
def PV (w:World)(r:Option (List (Bool × List UInt8)))(e:Ending)(w':World):Prop :=
 match r with
 | some l=>∃ (A:Option Addr) (n cap:Nat),e = .returned (.tuple #[.agg #[.slice A n cap],.nilIface])/\Row w' (w.heap.size <= ·) (.slice A n cap) l.length 2 (bH l)/\New w w'
 | none=>∃ (A:Option Addr) (n cap:Nat) (t:TypeId) (u:Value),e = .returned (.tuple #[.agg #[.slice A n cap],.iface t u])/\New w w'
def PatC:Prop:=∀ (w:World) (s:ByteArray),s.size<=150000->Glob w->Calls Tryz.prog 200 #[.string s] w (PV w (bU s))
theorem PatC.call(h:PatC){w:World}{s:ByteArray}(h1:s.size<=150000)(h2:Glob w){r:Option (List (Bool × List UInt8))}(e:bU s=r):Calls Tryz.prog 200 #[.string s] w (PV w r):=e ▸ h w s h1 h2
theorem pY(hPC:PatC)(hTP:rZ)(hTS:rY):ij 186 eW:=by
 intro w pb tb ts a b m x tx ux h hpa hb hx hne
 have hft:=aq
 have hz9:=h.fine.hd2
 have ltp:=h.lt
 have ltt:=h.lt2
 have P0:=hqZ h
 have T0:=hqZ (Fr.refl (· = pb) w)
 have HC:=hqZ hPC
 have HTP:=hqZ hTP
 have HTS:=hqZ hTS
 have X0:=hqZ hx
 clear h hne hPC hTP hTS hx
 go_enter Tryz.func186,Tryz.ntmps186
 have hz1:=PSt.fine P0.out |>.hd
 (go_wp2_with fail;refine(ag _ pb tb ts ?_).mono ?_;(all_goals try exact PSt.over (w0:=w) P0.out ((Fr.r.alloc _).alloc _) ltp ltt);rintro e w1 ⟨⟨o,l,c,rfl⟩,hp,hf⟩;(have xs0:=Fr.size hf;simp only[aa,ae,ad,af]at xs0;have T1:=hqZ (Fr.trans ((T0.out.alloc _).alloc _) hf);clear T0;clear P0;have B0:=hqZ (Blk.next ((Blk.at_ _ _ _ (n:=w.heap.size) rfl).alloc _) hf (by show ¬ _;omega));obtain⟨xk0,xl0⟩:=Blk.k1 B0.out;have B1:=hqZ (Blk.next (Blk.at_ _ _ _ (n:=w.heap.size+1) (by simp only[aa,ae,ad,af])) hf (by show ¬ _;omega));obtain⟨xk1,xl1⟩:=Blk.k1 B1.out;have X1:=hqZ (Rep.carry X0.out (Fr.trans' ((Fr.r.alloc _).alloc _) hf (fun k _ hs=>by omega)));clear X0;have P0:=hqZ hp;clear hp;clear hf))
 cases hj:(((hd ts).kind:Int) == 4)
 case false =>
  have hj':¬ (hd ts).kind=4:=by simp at hj;omega
  have ER:=hqZ (show eW x ts = .bad from by simp[eW,hj'])
  (go_wp2_with fail;refine(aG _ _ _ _ _ _ _).mono ?_;rintro e w2 ⟨rfl,hf⟩;(have xs2:=Fr.size hf;simp only[aa,ae,ad,af]at xs2;have T0:=hqZ (Fr.transN (T1.out.alloc _) hf);clear T1;have P1:=hqZ (PSt.new (PSt.over (w0:=w) P0.out (Fr.r.alloc _) ltp ltt) hf);clear P0;have B2:=hqZ (Blk.next (B0.out.alloc _) hf id);clear B0;obtain⟨xk2,xl2⟩:=Blk.k1 B2.out;have B0:=hqZ (Blk.next (B1.out.alloc _) hf id);clear B1;obtain⟨xk3,xl3⟩:=Blk.k1 B0.out;have B1:=hqZ (Blk.next (Blk.at_ _ _ _ (n:=w1.heap.size) rfl) hf id);obtain⟨xk4,xl4⟩:=Blk.k6 B1.out;have X0:=hqZ (Rep.carry X1.out (Fr.transN (Fr.r.alloc _) hf));clear X1;clear hf;clear xk0 xk1))
  (go_wp2_with fail;refine(ax _ pb tb (adv ts) _ _ ?_).mono ?_;(all_goals try exact P1.out);rintro e w3 ⟨⟨t,u,rfl⟩,hf⟩;(have xs4:=Fr.size hf;have T1:=hqZ (Fr.transN T0.out hf);clear T0;have P0:=hqZ (PSt.new (P1.out) hf);clear P1;have B3:=hqZ (Blk.next B2.out hf id);clear B2;obtain⟨xk0,xl5⟩:=Blk.k1 B3.out;have B2:=hqZ (Blk.next B0.out hf id);clear B0;obtain⟨xk1,xl6⟩:=Blk.k1 B2.out;have B0:=hqZ (Blk.next B1.out hf id);clear B1;obtain⟨xk10,xl7⟩:=Blk.k6 B0.out;have X1:=hqZ (Rep.carry X0.out (Fr.transN Fr.r hf));clear X0;clear hf;clear xk2 xk3 xk4))
  go_wp2
  refine bodyPost_ret (v:=(.tuple #[.agg #[.nilIface],.iface t u])) (by simp only[results,Tryz.results186];go_simp) rfl ?_
  rw[ER.out]
  exact⟨t,u,rfl,by exact(T1.out.set (.inr (by omega)))⟩
 have hj':(hd ts).kind=4:=by simp at hj;omega
 have E1:=hqZ (show eW x ts=(bw (bU (gf (eO (hd ts).text))) fun l=>.ok (.like (gq l) x) (adv ts))from by simp[eW,hj',md])
 (go_wp2_with fail;refine(aG _ _ _ _ _ _ _).mono ?_;rintro e w2 ⟨rfl,hf⟩;(have xs2:=Fr.size hf;simp only[aa,ae,ad,af]at xs2;have T0:=hqZ (Fr.transN (T1.out.alloc _) hf);clear T1;have P1:=hqZ (PSt.new (PSt.over (w0:=w) P0.out (Fr.r.alloc _) ltp ltt) hf);clear P0;have B2:=hqZ (Blk.next (B0.out.alloc _) hf id);clear B0;obtain⟨xk2,xl2⟩:=Blk.k1 B2.out;have B0:=hqZ (Blk.next (B1.out.alloc _) hf id);clear B1;obtain⟨xk3,xl3⟩:=Blk.k1 B0.out;have B1:=hqZ (Blk.next (Blk.at_ _ _ _ (n:=w1.heap.size) rfl) hf id);obtain⟨xk4,xl4⟩:=Blk.k6 B1.out;have X0:=hqZ (Rep.carry X1.out (Fr.transN (Fr.r.alloc _) hf));clear X1;clear hf;clear xk0 xk1))
 (go_wp2_with fail;refine(HTP.out _ _).mono ?_;rintro e w3 ⟨rfl,hf⟩;(have xs4:=Fr.size hf;have T1:=hqZ (Fr.transN T0.out hf);clear T0;have P0:=hqZ (PSt.new (P1.out) hf);clear P1;have B3:=hqZ (Blk.next B2.out hf id);clear B2;obtain⟨xk0,xl5⟩:=Blk.k1 B3.out;have B2:=hqZ (Blk.next B0.out hf id);clear B0;obtain⟨xk1,xl6⟩:=Blk.k1 B2.out;have B0:=hqZ (Blk.next B1.out hf id);clear B1;obtain⟨xk10,xl7⟩:=Blk.k6 B0.out;have X1:=hqZ (Rep.carry X0.out (Fr.transN Fr.r hf));clear X0;clear hf;clear xk2 xk3 xk4))
 (go_wp2_with fail;refine(HTS.out _ _ (Nat.le_trans (fJ _) hz1)).mono ?_;rintro e w4 ⟨rfl,hf⟩;(have xs6:=Fr.size hf;have T0:=hqZ (Fr.transN T1.out hf);clear T1;have P1:=hqZ (PSt.new (P0.out) hf);clear P0;have B1:=hqZ (Blk.next B3.out hf id);clear B3;obtain⟨xk2,xl8⟩:=Blk.k1 B1.out;have B3:=hqZ (Blk.next B2.out hf id);clear B2;obtain⟨xk3,xl9⟩:=Blk.k1 B3.out;have B2:=hqZ (Blk.next B0.out hf id);clear B0;obtain⟨xk4,xl10⟩:=Blk.k6 B2.out;have X0:=hqZ (Rep.carry X1.out (Fr.transN Fr.r hf));clear X1;clear hf;clear xk0 xk1 xk10))
 have hz2:(gf (eO (hd ts).text)).size<=150000:=Nat.le_trans (iV _) (Nat.le_trans (fJ _) hz9)
 cases hv:bU (gf (eO (hd ts).text))with
 | none =>
  (go_wp2_with fail;refine(HC.out.call hz2 (by exact(PSt.glob (P1.out)).1) hv).mono ?_;rintro e w5 ⟨A,n,cap,t,u,rfl,hf⟩;(have xs8:=Fr.size hf;have T1:=hqZ (Fr.transN T0.out hf);clear T0;have P0:=hqZ (PSt.new (P1.out) hf);clear P1;have B0:=hqZ (Blk.next B1.out hf id);clear B1;obtain⟨xk0,xl11⟩:=Blk.k1 B0.out;have B1:=hqZ (Blk.next B3.out hf id);clear B3;obtain⟨xk1,xl12⟩:=Blk.k1 B1.out;have B3:=hqZ (Blk.next B2.out hf id);clear B2;obtain⟨xk10,xl13⟩:=Blk.k6 B3.out;have X1:=hqZ (Rep.carry X0.out (Fr.transN Fr.r hf));clear X0;clear hf;clear xk2 xk3 xk4))
  go_wp2
  refine bodyPost_ret (v:=(.tuple #[.agg #[.nilIface],.iface t u])) (by simp only[results,Tryz.results186];go_simp) rfl ?_
  rw[E1.out,hv]
  exact⟨t,u,rfl,by exact((T1.out.set (.inr (by omega))).alloc _)⟩
 | some cs =>
  (go_wp2_with fail;refine(HC.out.call hz2 (by exact(PSt.glob (P1.out)).1) hv).mono ?_;rintro e w5 ⟨A,n,cap,rfl,hrow,hf⟩;(have xs8:=Fr.size hf;have T1:=hqZ (Fr.transN T0.out hf);clear T0;have P0:=hqZ (PSt.new (P1.out) hf);clear P1;have B0:=hqZ (Blk.next B1.out hf id);clear B1;obtain⟨xk0,xl11⟩:=Blk.k1 B0.out;have B1:=hqZ (Blk.next B3.out hf id);clear B3;obtain⟨xk1,xl12⟩:=Blk.k1 B1.out;have B3:=hqZ (Blk.next B2.out hf id);clear B2;obtain⟨xk10,xl13⟩:=Blk.k6 B3.out;have X1:=hqZ (Rep.carry X0.out (Fr.transN Fr.r hf));clear X0;have X0:=hqZ (Row.mono (Z':=fun g=>w4.heap.size<=g/\g < w5.heap.size) (hZ:=fun g h1 h2=>⟨h2,h1⟩) (h:=hrow));clear hrow;clear hf;clear xk2 xk3 xk4))
  (go_wp2_with fail;refine(nE _ _ _ _ _ _).mono ?_;rintro e w6 ⟨rfl,hf⟩;(have xs10:=Fr.size hf;simp only[aa,ae,ad,af]at xs10;have T0:=hqZ (Fr.transN (T1.out.alloc _) hf);clear T1;have P1:=hqZ (PSt.new (PSt.over (w0:=w) P0.out (Fr.r.alloc _) ltp ltt) hf);clear P0;have B2:=hqZ (Blk.next (B0.out.alloc _) hf id);clear B0;obtain⟨xk2,xl14⟩:=Blk.k1 B2.out;have B0:=hqZ (Blk.next (B1.out.alloc _) hf id);clear B1;obtain⟨xk3,xl15⟩:=Blk.k1 B0.out;have B1:=hqZ (Blk.next (B3.out.alloc _) hf id);clear B3;obtain⟨xk4,xl16⟩:=Blk.k6 B1.out;have B3:=hqZ (Blk.next (Blk.at_ _ _ _ (n:=w5.heap.size) rfl) hf id);obtain⟨xk16,xl17⟩:=Blk.k1 B3.out;have X2:=hqZ (Rep.carry X1.out (Fr.transN (Fr.r.alloc _) hf));clear X1;have X1:=hqZ (Row.carry X0.out (Fr.transN (Fr.r.alloc _) hf));clear X0;clear hf;clear xk0 xk1 xk10))
  go_wp2
  refine bodyPost_ret (v:=(.tuple #[.agg #[.iface 185 (.agg #[.iface tx ux,.slice A n cap])],.nilIface])) (by simp only[results,Tryz.results186];go_simp) rfl ?_
  rw[E1.out,hv]
  exact⟨_,_,rfl,.like cs _ _ _ (by exact Rep.mono (h:=(Rep.carry X2.out (Fr.r.set (.inl (by omega))))) (hZ:=fun g _ hg=>by omega)) (by exact Row.mono (h:=(Row.carry X1.out (Fr.r.set (.inl (by omega))))) (hZ:=fun g _ hg=>by omega)),by exact PSt.over (w0:=w) P1.out (Fr.r.set (.inl (by omega))) ltp ltt,by exact(T0.out.set (.inr (by omega)))⟩
structure jR:Prop where
 sv:cC
 iv:pi
 sc:SetC
 rc:lR
 cc:sk
 mc:sd
 pc:jP
 pat:PatC
 tp:rZ
 ts:rY
theorem qK(B:jR)(E:List Tok->PR Ex)(hE:Does 135 E):Does 135 (cA E):=by
 have hR:=mu B.sv B.rc E hE
 have hP:=li B.sv B.iv B.sc E hE hR (fun w pb tb ts s h hs hne=>rK B.sv B.cc E hE w pb tb ts s h hs hne)
 have hM:=mQ E hP (nH B.sv B.mc E hE)
 have hU:=nK B.pc E hM
 have hA:Does 184 (addP E):=rX _ (pV _ hU)
 have hL:=jV E hA (rC B.sv) (pY B.pat B.tp B.ts) (is_does E hA)
 exact iw E hE (or_does _ (rW _ hL))
theorem gS(B:jR):∀ n,Does 135 (expr n)
 | 0=>fun _ _ _ _ _ h=>absurd rfl h
 | n+1=>qK B _ (gS B n)
end Go.Proofs.YtbdhlpeckennjaaGreatDoor
namespace Go.Proofs.YtbdhlpeckennjaaGreatDoor
open Go
def chr (v:List UInt8):Int:=if v = []then -1 else((Utf8.decode ⟨v.toArray⟩ 0).1:Nat)
def clen (v:List UInt8):Nat:=if v = []then 0 else(Utf8.decode ⟨v.toArray⟩ 0).2
def nxt (v:List UInt8):List UInt8:=v.drop (clen v)
def badc (v:List UInt8):Bool:=!v.isEmpty && ((chr v == 65533 && clen v == 1) || chr v == 0)
def gv (c:Int):Bool:=(decide (65<=c) && decide (c<=90)) ||(decide (97<=c) && decide (c<=122))
def decB (c:Int):Bool:=decide (48<=c) && decide (c<=57)
def bh (c:Int)(first:Bool):Bool:=c == 95 || gv c ||(decB c && !first)
def wsB (c:Int):Bool:=c == 9 || c == 10 || c == 13 || c == 32
def hexB (c:Int):Bool:=decB c ||(decide (65<=c) && decide (c<=70)) ||(decide (97<=c) && decide (c<=102))
def gj (p:Int->Bool):Nat->List UInt8->List UInt8
 | 0,v=>v
 | k+1,v=>if p (chr v)then gj p k (nxt v)else v
def skip (p:Int->Bool)(v:List UInt8):List UInt8:=gj p v.length v
def aY (min:Nat):Nat->Nat->List UInt8->List UInt8 × Bool
 | 0,n,v=>(v,decide (min<=n))
 | k+1,n,v=>if hexB (chr v)then aY min k (n+1) (nxt v)else(v,decide (min<=n))
def aF (v:List UInt8):List UInt8 × Bool :=
 let c:=chr v
 if c=110\/c=114\/c=116\/c=92\/c=48\/c=39\/c=34\/c=42 then(nxt v,true)
 else if c=120 then aY 2 2 0 (nxt v)
 else if c=117 then
  if chr (nxt v)=123 then
   let r:=aY 1 6 0 (nxt (nxt v))
   if chr r.1=125 then(nxt r.1,r.2)else(r.1,false)
  else(nxt v,false)
 else(v,false)
def aI:Nat->List UInt8->List UInt8 × Bool
 | 0,v=>(v,false)
 | k+1,v =>
  if chr v=34 then(v,true)
  else if chr v=10\/chr v < 0 then(v,false)
  else if chr v=92 then
   let r:=aF (nxt v)
   let s:=aI k r.1
   (s.1,r.2 && s.2)
  else aI k (nxt v)
def bN:Nat->List UInt8->List UInt8 × Bool
 | 0,v=>(v,false)
 | k+1,v =>
  if chr v < 0 then(v,false)
  else if chr v=42/\chr (nxt v)=47 then(nxt (nxt v),true)
  else bN k (nxt v)
def az (c:Int)(v:List UInt8):Nat × List UInt8 :=
 if c=64\/c=46\/c=44\/c=59\/c=40\/c=41\/c=123\/c=125\/c=91\/c=93\/c=43\/c=45\/c=42 then(5,v)
 else if c=58 then(5,if chr v=58 then nxt v else v)
 else if c=33\/c=60\/c=62 then(5,if chr v=61 then nxt v else v)
 else if c=61 then(if chr v=61 then(5,nxt v)else(6,v))
 else if c=124 then(if chr v=124 then(5,nxt v)else(6,v))
 else if c=38 then(if chr v=38 then(5,nxt v)else(6,v))
 else(6,v)
def bW (s:List UInt8):Bool :=
 s == [116,114,117,101] || s == [102,97,108,115,101] || s == [105,102] || s == [116,104,101,110] || s == [101,108,115,101] || s == [105,110] || s == [108,105,107,101] || s == [104,97,115] || s == [105,115] || s == [95,95,99,101,100,97,114]
def am:Nat->List UInt8->Nat × List UInt8 × List UInt8 × Bool
 | 0,v=>(0,v,v,false)
 | k+1,v0 =>
  let v:=skip wsB v0
  let c:=chr v
  if c = -1 then(0,v,v,true)
  else if bh c true then
   let r:=skip (bh · false) (nxt v)
   (if bW (v.take (v.length - r.length))then 3 else 1,v,r,true)
  else if decB c then(2,v,skip decB v,true)
  else if c=34 then
   let r:=aI (v.length+1) (nxt v)
   (4,v,nxt r.1,r.2)
  else if c=47 then
   if chr (nxt v)=47 then am k (skip (fun c=>!(c == 10) && decide (0<=c)) (nxt (nxt v)))
   else if chr (nxt v)=42 then
    let r:=bN (v.length+1) (nxt (nxt v))
    let s:=am k r.1
    (s.1,s.2.1,s.2.2.1,r.2 && s.2.2.2)
   else(6,v,nxt v,true)
  else
   let r:=az c (nxt v)
   (r.1,v,r.2,true)
def co:Nat->List UInt8->Option (List (Tok × Nat))
 | 0,_=>none
 | k+1,v =>
  let r:=am (v.length+1) v
  if r.2.2.2=false then none
  else if r.1=0 then some [(⟨0,an⟩,r.2.1.length)]
  else(co k r.2.2.1).map fun l=>(⟨r.1,⟨(r.2.1.take (r.2.1.length - r.2.2.1.length)).toArray⟩⟩,r.2.1.length)::l
def dK:Nat->List UInt8->Bool
 | 0,_=>false
 | k+1,v=>badc v ||(if v.isEmpty then false else dK k (nxt v))
def ce (t:List UInt8):Option (List (Tok × Nat)) :=
 if dK (t.length+1) t then none else(co (t.length+1) t).map fun l=>l.map fun x=>(x.1,t.length - x.2)
def bL (t:List UInt8):Option (List Tok):=(ce t).map fun l=>l.map (·.1)
end Go.Proofs.YtbdhlpeckennjaaGreatDoor
