/- FnLong (the proof that the law returns true for every input), part 13 of 52; the last part says what is proved, and its condition. -/
import Derived.Test.YtbdhlpeckennjaaGreatDoorM12
set_option linter.unusedVariables false
set_option linter.unusedSimpArgs false
set_option maxHeartbeats 80000000
set_option maxRecDepth 1000000
namespace Go.Proofs.YtbdhlpeckennjaaGreatDoor
open Go Go.RowKit
def lS (pb tb ab kb mb:Nat)(known:List (ByteArray × ByteArray))(w:World)(r:PR (ByteArray × ByteArray))(e:Ending)(w':World):Prop :=
 match r with
 | .ok n ts=>∃ (A':Option Addr) (n' cap':Nat) (mv:Value) (mb':Nat),e = .returned .nilIface/\Blk w' ab #[.slice A' n' cap'] 140/\Blk w' kb #[mv] 230/\Acc dP w' (fun g=>kb < g/\g ≠ mb') (.slice A' n' cap') (known ++ [n]) 125 2 /\
   KM w' (fun g=>g=mb') mv ((known ++ [n]).map (·.1))/\(mb'=mb\/(w.heap.size<=mb'/\mb' < w'.heap.size))/\PSt w' pb tb ts/\Fr (fun g=>g=pb\/ab<=g) w w'
 | .bad=>∃ (t:TypeId) (u:Value) (A:Option Addr) (n cap:Nat),e = .returned (.iface t u)/\Blk w' ab #[.slice A n cap] 140/\Fr (fun g=>g=pb\/ab<=g) w w'
 | .out=>True
theorem kA(hSV:cC)(w:World)(pb tb ab kb mb:Nat)(ts:List Tok)(A0:Option Addr)(n0 cap0:Nat)(mv:Value)(known:List (ByteArray × ByteArray))(h:PSt w pb tb ts)(hb1:Blk w ab #[.slice A0 n0 cap0] 140)(hb2:Blk w kb #[mv] 230)
  (hacc:Acc dP w (fun g=>kb < g/\g ≠ mb) (.slice A0 n0 cap0) known 125 2) (hkm:KM w (fun g=>g=mb) mv (known.map (·.1))) (hpa:pb < ab) (hta:tb < ab) (hak:ab < kb) (hmb:kb<=mb/\mb < w.heap.size) (hlen:known.length<=100000) :
  Calls Tryz.prog 81 #[.pointer (some ⟨pb,0,none⟩),.pointer (some ⟨ab,0,none⟩),.pointer (some ⟨kb,0,none⟩)] w (lS pb tb ab kb mb known w (bC known ts)):=by
 have hft:=aq
 have ltp:=h.lt
 have ltt:=h.lt2
 have lta:=hb1.lt
 have ltk:=hb2.lt
 have P0:=hqZ h
 have T0:=hqZ (Fr.refl (fun g=>g=pb\/ab<=g) w)
 have B1:=hqZ hb1
 have B2:=hqZ hb2
 have A1:=hqZ (Acc.mono (Z':=fun g=>(kb < g/\g ≠ mb)/\g < w.heap.size) (hZ:=fun g h1 h2=>⟨h2,h1⟩) (h:=hacc))
 have K1:=hqZ hkm
 have HS:=hqZ hSV
 have xc0:=hb1.cell 0 _ rfl
 have xf0:=hb1.free 0
 have xc1:=hb2.cell 0 _ rfl
 have xf1:=hb2.free 0
 clear h hb1 hb2 hacc hkm hSV
 go_enter Tryz.func81,Tryz.ntmps81
 (go_wp2_with fail;refine(ag _ pb tb ts ?_).mono ?_;(all_goals try exact P0.out);rintro e w1 ⟨⟨o,l,c,rfl⟩,hp,hf⟩;(have xs0:=Fr.size hf;have T1:=hqZ (Fr.trans' T0.out hf (fun k hk hs=>by omega));clear T0;clear P0;have B0:=hqZ (Blk.next B1.out hf (by show ¬ _;omega));clear B1;obtain⟨xk2,xl0⟩:=Blk.k1 B0.out;have B1:=hqZ (Blk.next B2.out hf (by show ¬ _;omega));clear B2;obtain⟨xk3,xl1⟩:=Blk.k1 B1.out;have X0:=hqZ (Acc.carry A1.out (Fr.trans' Fr.r hf (fun k _ hs=>by omega)));clear A1;have X1:=hqZ (KM.carry K1.out (Fr.trans' Fr.r hf (fun k _ hs=>by omega)));clear K1;have P0:=hqZ hp;clear hp;clear hf;clear xc0 xf0 xc1 xf1))
 cases k1:(((hd ts).kind:Int) == 1)
 case true =>
  have hkind:(hd ts).kind=1\/(hd ts).kind=3:=by simp at k1;omega
  (go_wp2_with fail;refine(aD _ _ _ _ _ _ _).mono ?_;rintro e w2 ⟨rfl,hf⟩;(have xs2:=Fr.size hf;simp only[aa,ae,ad,af]at xs2;have T0:=hqZ (Fr.transN (T1.out.alloc _) hf);clear T1;have P1:=hqZ (PSt.new (PSt.over (w0:=w) P0.out (Fr.r.alloc _) ltp ltt) hf);clear P0;have B2:=hqZ (Blk.next (B0.out.alloc _) hf id);clear B0;obtain⟨xk0,xl2⟩:=Blk.k1 B2.out;have B0:=hqZ (Blk.next (B1.out.alloc _) hf id);clear B1;obtain⟨xk1,xl3⟩:=Blk.k1 B0.out;have B1:=hqZ (Blk.next (Blk.at_ _ _ _ (n:=w1.heap.size) rfl) hf id);obtain⟨xk4,xl4⟩:=Blk.k6 B1.out;have X2:=hqZ (Acc.carry X0.out (Fr.transN (Fr.r.alloc _) hf));clear X0;have X0:=hqZ (KM.carry X1.out (Fr.transN (Fr.r.alloc _) hf));clear X1;clear hf;clear xk2 xk3))
  (go_wp2_with fail;refine(eH _ (fun g=>g=mb) mv (known.map (·.1)) (hd ts).text (by exact X0.out)).mono ?_;rintro e w5 ⟨rfl,hf⟩;(have xs4:=Fr.size hf;have T1:=hqZ (Fr.transN T0.out hf);clear T0;have P0:=hqZ (PSt.new (P1.out) hf);clear P1;have B3:=hqZ (Blk.next B2.out hf id);clear B2;obtain⟨xk2,xl5⟩:=Blk.k1 B3.out;have B2:=hqZ (Blk.next B0.out hf id);clear B0;obtain⟨xk3,xl6⟩:=Blk.k1 B2.out;have B0:=hqZ (Blk.next B1.out hf id);clear B1;obtain⟨xk10,xl7⟩:=Blk.k6 B0.out;have X1:=hqZ (Acc.carry X2.out (Fr.transN Fr.r hf));clear X2;have X2:=hqZ (KM.carry X0.out (Fr.transN Fr.r hf));clear X0;clear hf;clear xk0 xk1 xk4))
  cases h0:((known.map (·.1)).any fun k=>k.toList ==(hd ts).text.toList)
  case true =>
   have ER:=hqZ (show bC known ts = .bad from by unfold bC;rw[if_pos hkind,if_pos (by simpa[List.any_map] using h0)])
   (go_wp2_with fail;refine(ax _ pb tb (adv ts) _ _ ?_).mono ?_;(all_goals try exact PSt.over (w0:=w) P0.out (Fr.r.alloc _) ltp ltt);rintro e w6 ⟨⟨t,u,rfl⟩,hf⟩;(have xs6:=Fr.size hf;simp only[aa,ae,ad,af]at xs6;have T0:=hqZ (Fr.transN (T1.out.alloc _) hf);clear T1;have P1:=hqZ (PSt.new (PSt.over (w0:=w) P0.out (Fr.r.alloc _) ltp ltt) hf);clear P0;have B1:=hqZ (Blk.next (B3.out.alloc _) hf id);clear B3;obtain⟨xk0,xl8⟩:=Blk.k1 B1.out;have B3:=hqZ (Blk.next (B2.out.alloc _) hf id);clear B2;obtain⟨xk1,xl9⟩:=Blk.k1 B3.out;have B2:=hqZ (Blk.next (B0.out.alloc _) hf id);clear B0;obtain⟨xk4,xl10⟩:=Blk.k6 B2.out;have B0:=hqZ (Blk.next (Blk.at_ _ _ _ (n:=w5.heap.size) rfl) hf id);obtain⟨xk16,xl11⟩:=Blk.k1 B0.out;have X0:=hqZ (Acc.carry X1.out (Fr.transN (Fr.r.alloc _) hf));clear X1;have X1:=hqZ (KM.carry X2.out (Fr.transN (Fr.r.alloc _) hf));clear X2;clear hf;clear xk2 xk3 xk10))
   go_wp2
   go_ret
   rw[ER.out]
   exact⟨t,u,_,_,_,rfl,by exact B1.out,by exact T0.out⟩
  case false =>
   have h0':(known.any fun x=>x.1.toList ==(hd ts).text.toList)=false:=by simpa[List.any_map] using h0
   have E1:=hqZ (show bC known ts=cS (hd ts).text (adv ts)from by unfold bC;rw[if_pos hkind,if_neg (by simp[h0'])])
   (go_wp2_with fail;refine(lP _ mb kb mv (known.map (·.1)) (hd ts).text (by exact B2.out) (by exact X2.out) h0).mono ?_;rintro e w6 ⟨rfl,mv',mb',hb,hkm,hmb2,hf⟩;(have xs6:=Fr.size hf;have T0:=hqZ (Fr.trans' T1.out hf (fun k hk hs=>by omega));clear T1;have P1:=hqZ (PSt.frame (P0.out) hf (by show ¬ _;omega) (by show ¬ _;omega));clear P0;have B1:=hqZ (Blk.next B3.out hf (by show ¬ _;omega));clear B3;obtain⟨xk0,xl8⟩:=Blk.k1 B1.out;clear B2;have B2:=hqZ (Blk.next B0.out hf (by show ¬ _;omega));clear B0;obtain⟨xk1,xl9⟩:=Blk.k6 B2.out;have B0:=hqZ hb;obtain⟨xk9,xl10⟩:=Blk.k1 B0.out;clear hb;have X0:=hqZ (Acc.carry X1.out (Fr.trans' Fr.r hf (fun k _ hs=>by omega)));clear X1;clear X2;have X1:=hqZ (KM.mono (Z':=fun g=>g=mb'/\g < w6.heap.size) (hZ:=fun g h1 h2=>⟨h2,h1⟩) (h:=hkm));clear hkm;clear hf;clear xk2 xk3 xk10))
   (try simp only[aa,ae,af]at hmb2)
   (go_wp2_with fail;refine(ay _ pb tb (adv ts) ?_).mono ?_;(all_goals try exact P1.out);rintro e w7 ⟨⟨o7,l7,c7,rfl⟩,hf⟩;(have xs8:=Fr.size hf;have T1:=hqZ (Fr.transN T0.out hf);clear T0;have P0:=hqZ (PSt.new (P1.out) hf);clear P1;have B3:=hqZ (Blk.next B1.out hf id);clear B1;obtain⟨xk2,xl11⟩:=Blk.k1 B3.out;have B1:=hqZ (Blk.next B2.out hf id);clear B2;obtain⟨xk3,xl12⟩:=Blk.k6 B1.out;have B2:=hqZ (Blk.next B0.out hf id);clear B0;obtain⟨xk15,xl13⟩:=Blk.k1 B2.out;have X2:=hqZ (Acc.carry X0.out (Fr.transN Fr.r hf));clear X0;have X0:=hqZ (KM.carry X1.out (Fr.transN Fr.r hf));clear X1;clear hf;clear xk0 xk1 xk9))
   cases q1:((hd (adv ts)).text.toList == [40])
   case false =>
    have E4:=hqZ (show bC known ts = .ok ((hd ts).text,an) (adv ts)from by rw[E1.out];unfold cS Tok.is;rw[if_neg (by simp[q1])])
    (go_wp2_with fail;refine(fB _ ab (fun g=>kb < g/\g ≠ mb') (.slice A0 n0 cap0) known _ _ (by exact B3.out) (by exact Acc.mono (h:=X2.out) (hZ:=fun g _ hg=>by omega)) h0' (by omega) (fun g hg=>by(try simp only[aa,ae,ad,af]at hg);omega) (by omega)).mono ?_;rintro e w20 ⟨rfl,A',n',cap',hb,hacc,hf⟩;(have xs10:=Fr.size hf;have T0:=hqZ (Fr.trans' T1.out hf (fun k hk hs=>by omega));clear T1;have P1:=hqZ (PSt.frame (P0.out) hf (by show ¬ _;omega) (by show ¬ _;omega));clear P0;clear B3;clear B1;have B0:=hqZ (Blk.next B2.out hf (by show ¬ _;omega));clear B2;obtain⟨xk0,xl14⟩:=Blk.k1 B0.out;have B1:=hqZ hb;obtain⟨xk1,xl15⟩:=Blk.k1 B1.out;clear hb;clear X2;have X1:=hqZ (Acc.mono (Z':=fun g=>(kb < g/\g ≠ mb')/\g < w20.heap.size) (hZ:=fun g h1 h2=>⟨h2,h1⟩) (h:=hacc));clear hacc;have X2:=hqZ (KM.carry X0.out (Fr.trans' Fr.r hf (fun k _ hs=>by omega)));clear X0;clear hf;clear xk2 xk3 xk15))
    go_wp2
    go_ret
    rw[E4.out]
    exact⟨A',n',cap',mv',mb',rfl,by exact B1.out,by exact B0.out,by exact Acc.mono (h:=X1.out) (hZ:=fun g _ hg=>by omega),by rw[List.map_append];exact KM.mono (h:=X2.out) (hZ:=fun g _ hg=>by omega),by omega,by exact P1.out,by exact T0.out⟩
   case true =>
    have E2:=hqZ (show bC known ts=if(hd (adv (adv ts))).kind=4 then bw (aX (hd (adv (adv ts))).text) fun s=>(ak [41] (adv (adv (adv ts)))).bind fun _ ts1=>.ok ((hd ts).text,s) ts1 else .bad from by rw[E1.out];unfold cS;rw[if_pos (by simpa[Tok.is] using q1)])
    (go_wp2_with fail;refine(ag _ pb tb (adv ts) ?_).mono ?_;(all_goals try exact P0.out);rintro e w8 ⟨⟨o8,l8,c8,rfl⟩,hp,hf⟩;(have xs10:=Fr.size hf;have T0:=hqZ (Fr.trans' T1.out hf (fun k hk hs=>by omega));clear T1;clear P0;have B0:=hqZ (Blk.next B3.out hf (by show ¬ _;omega));clear B3;obtain⟨xk0,xl14⟩:=Blk.k1 B0.out;have B3:=hqZ (Blk.next B1.out hf (by show ¬ _;omega));clear B1;obtain⟨xk1,xl15⟩:=Blk.k6 B3.out;have B1:=hqZ (Blk.next B2.out hf (by show ¬ _;omega));clear B2;obtain⟨xk9,xl16⟩:=Blk.k1 B1.out;have X1:=hqZ (Acc.carry X2.out (Fr.trans' Fr.r hf (fun k _ hs=>by omega)));clear X2;have X2:=hqZ (KM.carry X0.out (Fr.trans' Fr.r hf (fun k _ hs=>by omega)));clear X0;have P0:=hqZ hp;clear hp;clear hf;clear xk2 xk3 xk15))
    have hz1:=PSt.fine P0.out |>.hd
    (go_wp2_with fail;refine(ag _ pb tb (adv (adv ts)) ?_).mono ?_;(all_goals try exact P0.out);rintro e w9 ⟨⟨o9,l9,c9,rfl⟩,hp,hf⟩;(have xs12:=Fr.size hf;have T1:=hqZ (Fr.trans' T0.out hf (fun k hk hs=>by omega));clear T0;clear P0;have B2:=hqZ (Blk.next B0.out hf (by show ¬ _;omega));clear B0;obtain⟨xk2,xl17⟩:=Blk.k1 B2.out;have B0:=hqZ (Blk.next B3.out hf (by show ¬ _;omega));clear B3;obtain⟨xk3,xl18⟩:=Blk.k6 B0.out;have B3:=hqZ (Blk.next B1.out hf (by show ¬ _;omega));clear B1;obtain⟨xk15,xl19⟩:=Blk.k1 B3.out;have X0:=hqZ (Acc.carry X1.out (Fr.trans' Fr.r hf (fun k _ hs=>by omega)));clear X1;have X1:=hqZ (KM.carry X2.out (Fr.trans' Fr.r hf (fun k _ hs=>by omega)));clear X2;have P0:=hqZ hp;clear hp;clear hf;clear xk0 xk1 xk9))
    cases k4:(((hd (adv (adv ts))).kind:Int) == 4)
    case false =>
     have k4':¬ (hd (adv (adv ts))).kind=4:=by simp at k4;omega
     have ER:=hqZ (show bC known ts = .bad from by rw[E2.out,if_neg k4'])
     (go_wp2_with fail;refine(aG _ _ _ _ _ _ _).mono ?_;rintro e w10 ⟨rfl,hf⟩;(have xs14:=Fr.size hf;simp only[aa,ae,ad,af]at xs14;have T0:=hqZ (Fr.transN ((((((T1.out.set (.inr (by omega))).set (.inr (by omega))).set (.inr (by omega))).set (.inr (by omega))).set (.inr (by omega))).set (.inr (by omega))) hf);clear T1;have P1:=hqZ (PSt.new (PSt.over (w0:=w) P0.out ((((((Fr.r.set (.inl (by omega))).set (.inl (by omega))).set (.inl (by omega))).set (.inl (by omega))).set (.inl (by omega))).set (.inl (by omega))) ltp ltt) hf);clear P0;have B1:=hqZ (Blk.next (Blk.far (Blk.far (Blk.far (Blk.far (Blk.far (Blk.far B2.out (by omega)) (by omega)) (by omega)) (by omega)) (by omega)) (by omega)) hf id);clear B2;obtain⟨xk0,xl20⟩:=Blk.k1 B1.out;have B2:=hqZ (Blk.next (Blk.set (Blk.set (Blk.set (Blk.set (Blk.set (Blk.set B0.out 0 _ rfl) 1 _ rfl) 2 _ rfl) 3 _ rfl) 4 _ rfl) 5 _ (cs':=#[.int .i64 ↑(hd (adv (adv ts))).kind,.string ⟨#[]⟩,.int .i64 o9,.int .i64 l9,.int .i64 c9,.string (hd (adv (adv ts))).text]) rfl) hf id);clear B0;obtain⟨xk1,xl21⟩:=Blk.k6 B2.out;have B0:=hqZ (Blk.next (Blk.far (Blk.far (Blk.far (Blk.far (Blk.far (Blk.far B3.out (by omega)) (by omega)) (by omega)) (by omega)) (by omega)) (by omega)) hf id);clear B3;obtain⟨xk9,xl22⟩:=Blk.k1 B0.out;have X2:=hqZ (Acc.carry X0.out (Fr.transN ((((((Fr.r.set (.inl (by omega))).set (.inl (by omega))).set (.inl (by omega))).set (.inl (by omega))).set (.inl (by omega))).set (.inl (by omega))) hf));clear X0;have X0:=hqZ (KM.carry X1.out (Fr.transN ((((((Fr.r.set (.inl (by omega))).set (.inl (by omega))).set (.inl (by omega))).set (.inl (by omega))).set (.inl (by omega))).set (.inl (by omega))) hf));clear X1;clear hf;clear xk2 xk3 xk15))
     (go_wp2_with fail;refine(ax _ pb tb (adv (adv (adv ts))) _ _ ?_).mono ?_;(all_goals try exact P1.out);rintro e w11 ⟨⟨t,u,rfl⟩,hf⟩;(have xs16:=Fr.size hf;have T1:=hqZ (Fr.transN T0.out hf);clear T0;have P0:=hqZ (PSt.new (P1.out) hf);clear P1;have B3:=hqZ (Blk.next B1.out hf id);clear B1;obtain⟨xk2,xl23⟩:=Blk.k1 B3.out;have B1:=hqZ (Blk.next B2.out hf id);clear B2;obtain⟨xk3,xl24⟩:=Blk.k6 B1.out;have B2:=hqZ (Blk.next B0.out hf id);clear B0;obtain⟨xk15,xl25⟩:=Blk.k1 B2.out;have X1:=hqZ (Acc.carry X2.out (Fr.transN Fr.r hf));clear X2;have X2:=hqZ (KM.carry X0.out (Fr.transN Fr.r hf));clear X0;clear hf;clear xk0 xk1 xk9))
     go_wp2
     go_ret
     rw[ER.out]
     exact⟨t,u,_,_,_,rfl,by exact B3.out,by exact T1.out⟩
    have k4':(hd (adv (adv ts))).kind=4:=by simp at k4;omega
    (go_wp2_with fail;refine(aG _ _ _ _ _ _ _).mono ?_;rintro e w10 ⟨rfl,hf⟩;(have xs14:=Fr.size hf;simp only[aa,ae,ad,af]at xs14;have T0:=hqZ (Fr.transN ((((((T1.out.set (.inr (by omega))).set (.inr (by omega))).set (.inr (by omega))).set (.inr (by omega))).set (.inr (by omega))).set (.inr (by omega))) hf);clear T1;have P1:=hqZ (PSt.new (PSt.over (w0:=w) P0.out ((((((Fr.r.set (.inl (by omega))).set (.inl (by omega))).set (.inl (by omega))).set (.inl (by omega))).set (.inl (by omega))).set (.inl (by omega))) ltp ltt) hf);clear P0;have B1:=hqZ (Blk.next (Blk.far (Blk.far (Blk.far (Blk.far (Blk.far (Blk.far B2.out (by omega)) (by omega)) (by omega)) (by omega)) (by omega)) (by omega)) hf id);clear B2;obtain⟨xk0,xl20⟩:=Blk.k1 B1.out;have B2:=hqZ (Blk.next (Blk.set (Blk.set (Blk.set (Blk.set (Blk.set (Blk.set B0.out 0 _ rfl) 1 _ rfl) 2 _ rfl) 3 _ rfl) 4 _ rfl) 5 _ (cs':=#[.int .i64 4,.string ⟨#[]⟩,.int .i64 o9,.int .i64 l9,.int .i64 c9,.string (hd (adv (adv ts))).text]) rfl) hf id);clear B0;obtain⟨xk1,xl21⟩:=Blk.k6 B2.out;have B0:=hqZ (Blk.next (Blk.far (Blk.far (Blk.far (Blk.far (Blk.far (Blk.far B3.out (by omega)) (by omega)) (by omega)) (by omega)) (by omega)) (by omega)) hf id);clear B3;obtain⟨xk9,xl22⟩:=Blk.k1 B0.out;have X2:=hqZ (Acc.carry X0.out (Fr.transN ((((((Fr.r.set (.inl (by omega))).set (.inl (by omega))).set (.inl (by omega))).set (.inl (by omega))).set (.inl (by omega))).set (.inl (by omega))) hf));clear X0;have X0:=hqZ (KM.carry X1.out (Fr.transN ((((((Fr.r.set (.inl (by omega))).set (.inl (by omega))).set (.inl (by omega))).set (.inl (by omega))).set (.inl (by omega))).set (.inl (by omega))) hf));clear X1;clear hf;clear xk2 xk3 xk15))
    cases hv:aX (hd (adv (adv ts))).text with
    | none =>
     have ER:=hqZ (show bC known ts = .bad from by rw[E2.out,if_pos k4',hv];rfl)
     (go_wp2_with fail;refine(sv (HS.out _ _ _ _ _ _ _ hz1 (by exact(PSt.glob (P1.out)).1)) hv).mono ?_;rintro e w11 ⟨x,t,u,rfl,hf⟩;(have xs16:=Fr.size hf;have T1:=hqZ (Fr.transN T0.out hf);clear T0;have P0:=hqZ (PSt.new (P1.out) hf);clear P1;have B3:=hqZ (Blk.next B1.out hf id);clear B1;obtain⟨xk2,xl23⟩:=Blk.k1 B3.out;have B1:=hqZ (Blk.next B2.out hf id);clear B2;obtain⟨xk3,xl24⟩:=Blk.k6 B1.out;have B2:=hqZ (Blk.next B0.out hf id);clear B0;obtain⟨xk15,xl25⟩:=Blk.k1 B2.out;have X1:=hqZ (Acc.carry X2.out (Fr.transN Fr.r hf));clear X2;have X2:=hqZ (KM.carry X0.out (Fr.transN Fr.r hf));clear X0;clear hf;clear xk0 xk1 xk9))
     go_wp2
     go_ret
     rw[ER.out]
     exact⟨t,u,_,_,_,rfl,by exact B3.out,by exact T1.out⟩
    | some s =>
     have E3:=hqZ (show bC known ts=(ak [41] (adv (adv (adv ts)))).bind fun _ ts1=>.ok ((hd ts).text,s) ts1 from by rw[E2.out,if_pos k4',hv];rfl)
     (go_wp2_with fail;refine(sv (HS.out _ _ _ _ _ _ _ hz1 (by exact(PSt.glob (P1.out)).1)) hv).mono ?_;rintro e w11 ⟨rfl,hf⟩;(have xs16:=Fr.size hf;have T1:=hqZ (Fr.transN T0.out hf);clear T0;have P0:=hqZ (PSt.new (P1.out) hf);clear P1;have B3:=hqZ (Blk.next B1.out hf id);clear B1;obtain⟨xk2,xl23⟩:=Blk.k1 B3.out;have B1:=hqZ (Blk.next B2.out hf id);clear B2;obtain⟨xk3,xl24⟩:=Blk.k6 B1.out;have B2:=hqZ (Blk.next B0.out hf id);clear B0;obtain⟨xk15,xl25⟩:=Blk.k1 B2.out;have X1:=hqZ (Acc.carry X2.out (Fr.transN Fr.r hf));clear X2;have X2:=hqZ (KM.carry X0.out (Fr.transN Fr.r hf));clear X0;clear hf;clear xk0 xk1 xk9))
     clear hv
     cases q2:((hd (adv (adv (adv ts)))).text.toList == [41])
     case false =>
      have ER:=hqZ (show bC known ts = .bad from by rw[E3.out];unfold ak Tok.is;rw[if_neg (by simp[q2])];rfl)
      (go_wp2_with fail;refine(bf _ pb tb (adv (adv (adv ts))) [41] ?_ q2).mono ?_;(all_goals try exact P0.out);rintro e w12 ⟨⟨t,u,rfl⟩,hf⟩;(have xs18:=Fr.size hf;have T0:=hqZ (Fr.trans' T1.out hf (fun k hk hs=>by omega));clear T1;clear P0;have B0:=hqZ (Blk.next B3.out hf (by show ¬ _;omega));clear B3;obtain⟨xk0,xl26⟩:=Blk.k1 B0.out;have B3:=hqZ (Blk.next B1.out hf (by show ¬ _;omega));clear B1;obtain⟨xk1,xl27⟩:=Blk.k6 B3.out;have B1:=hqZ (Blk.next B2.out hf (by show ¬ _;omega));clear B2;obtain⟨xk9,xl28⟩:=Blk.k1 B1.out;have X0:=hqZ (Acc.carry X1.out (Fr.trans' Fr.r hf (fun k _ hs=>by omega)));clear X1;have X1:=hqZ (KM.carry X2.out (Fr.trans' Fr.r hf (fun k _ hs=>by omega)));clear X2;clear hf;clear xk2 xk3 xk15))
      go_wp2
      go_ret
      rw[ER.out]
      exact⟨t,u,_,_,_,rfl,by exact B0.out,by exact T0.out⟩
     case true =>
      have E4:=hqZ (show bC known ts = .ok ((hd ts).text,s) (adv (adv (adv (adv ts))))from by rw[E3.out];unfold ak Tok.is;rw[if_pos q2];rfl)
      (go_wp2_with fail;refine(aQ _ pb tb (adv (adv (adv ts))) [41] ?_ q2).mono ?_;(all_goals try exact P0.out);rintro e w12 ⟨rfl,hp,hf⟩;(have xs18:=Fr.size hf;have T0:=hqZ (Fr.trans' T1.out hf (fun k hk hs=>by omega));clear T1;clear P0;have B0:=hqZ (Blk.next B3.out hf (by show ¬ _;omega));clear B3;obtain⟨xk0,xl26⟩:=Blk.k1 B0.out;have B3:=hqZ (Blk.next B1.out hf (by show ¬ _;omega));clear B1;obtain⟨xk1,xl27⟩:=Blk.k6 B3.out;have B1:=hqZ (Blk.next B2.out hf (by show ¬ _;omega));clear B2;obtain⟨xk9,xl28⟩:=Blk.k1 B1.out;have X0:=hqZ (Acc.carry X1.out (Fr.trans' Fr.r hf (fun k _ hs=>by omega)));clear X1;have X1:=hqZ (KM.carry X2.out (Fr.trans' Fr.r hf (fun k _ hs=>by omega)));clear X2;have P0:=hqZ hp;clear hp;clear hf;clear xk2 xk3 xk15))
      (go_wp2_with fail;refine(fB _ ab (fun g=>kb < g/\g ≠ mb') (.slice A0 n0 cap0) known _ _ (by exact B0.out) (by exact Acc.mono (h:=X0.out) (hZ:=fun g _ hg=>by omega)) h0' (by omega) (fun g hg=>by(try simp only[aa,ae,ad,af]at hg);omega) (by omega)).mono ?_;rintro e w20 ⟨rfl,A',n',cap',hb,hacc,hf⟩;(have xs20:=Fr.size hf;have T1:=hqZ (Fr.trans' T0.out hf (fun k hk hs=>by omega));clear T0;have P1:=hqZ (PSt.frame (P0.out) hf (by show ¬ _;omega) (by show ¬ _;omega));clear P0;clear B0;clear B3;have B0:=hqZ (Blk.next B1.out hf (by show ¬ _;omega));clear B1;obtain⟨xk2,xl29⟩:=Blk.k1 B0.out;have B1:=hqZ hb;obtain⟨xk3,xl30⟩:=Blk.k1 B1.out;clear hb;clear X0;have X0:=hqZ (Acc.mono (Z':=fun g=>(kb < g/\g ≠ mb')/\g < w20.heap.size) (hZ:=fun g h1 h2=>⟨h2,h1⟩) (h:=hacc));clear hacc;have X2:=hqZ (KM.carry X1.out (Fr.trans' Fr.r hf (fun k _ hs=>by omega)));clear X1;clear hf;clear xk0 xk1 xk9))
      go_wp2
      go_ret
      rw[E4.out]
      exact⟨A',n',cap',mv',mb',rfl,by exact B1.out,by exact B0.out,by exact Acc.mono (h:=X0.out) (hZ:=fun g _ hg=>by omega),by rw[List.map_append];exact KM.mono (h:=X2.out) (hZ:=fun g _ hg=>by omega),by omega,by exact P1.out,by exact T1.out⟩
 case false =>
  (go_wp2_with fail;refine(aD _ _ _ _ _ _ _).mono ?_;rintro e w2 ⟨rfl,hf⟩;(have xs2:=Fr.size hf;simp only[aa,ae,ad,af]at xs2;have T0:=hqZ (Fr.transN (T1.out.alloc _) hf);clear T1;have P1:=hqZ (PSt.new (PSt.over (w0:=w) P0.out (Fr.r.alloc _) ltp ltt) hf);clear P0;have B2:=hqZ (Blk.next (B0.out.alloc _) hf id);clear B0;obtain⟨xk0,xl2⟩:=Blk.k1 B2.out;have B0:=hqZ (Blk.next (B1.out.alloc _) hf id);clear B1;obtain⟨xk1,xl3⟩:=Blk.k1 B0.out;have B1:=hqZ (Blk.next (Blk.at_ _ _ _ (n:=w1.heap.size) rfl) hf id);obtain⟨xk4,xl4⟩:=Blk.k6 B1.out;have X2:=hqZ (Acc.carry X0.out (Fr.transN (Fr.r.alloc _) hf));clear X0;have X0:=hqZ (KM.carry X1.out (Fr.transN (Fr.r.alloc _) hf));clear X1;clear hf;clear xk2 xk3))
  cases k3:(((hd ts).kind:Int) == 3)
  case false =>
   have hkind:¬ ((hd ts).kind=1\/(hd ts).kind=3):=by simp at k1 k3;omega
   have ER:=hqZ (show bC known ts = .bad from by unfold bC;rw[if_neg hkind])
   (go_wp2_with fail;refine(eY _ _ _ _ _ _ _).mono ?_;rintro e w3 ⟨rfl,hf⟩;(have xs4:=Fr.size hf;have T1:=hqZ (Fr.transN T0.out hf);clear T0;have P0:=hqZ (PSt.new (P1.out) hf);clear P1;have B3:=hqZ (Blk.next B2.out hf id);clear B2;obtain⟨xk2,xl5⟩:=Blk.k1 B3.out;have B2:=hqZ (Blk.next B0.out hf id);clear B0;obtain⟨xk3,xl6⟩:=Blk.k1 B2.out;have B0:=hqZ (Blk.next B1.out hf id);clear B1;obtain⟨xk10,xl7⟩:=Blk.k6 B0.out;have X1:=hqZ (Acc.carry X2.out (Fr.transN Fr.r hf));clear X2;have X2:=hqZ (KM.carry X0.out (Fr.transN Fr.r hf));clear X0;clear hf;clear xk0 xk1 xk4))
   (go_wp2_with fail;refine(ax _ pb tb (adv ts) _ _ ?_).mono ?_;(all_goals try exact P0.out);rintro e w4 ⟨⟨t,u,rfl⟩,hf⟩;(have xs6:=Fr.size hf;have T0:=hqZ (Fr.transN T1.out hf);clear T1;have P1:=hqZ (PSt.new (P0.out) hf);clear P0;have B1:=hqZ (Blk.next B3.out hf id);clear B3;obtain⟨xk0,xl8⟩:=Blk.k1 B1.out;have B3:=hqZ (Blk.next B2.out hf id);clear B2;obtain⟨xk1,xl9⟩:=Blk.k1 B3.out;have B2:=hqZ (Blk.next B0.out hf id);clear B0;obtain⟨xk4,xl10⟩:=Blk.k6 B2.out;have X0:=hqZ (Acc.carry X1.out (Fr.transN Fr.r hf));clear X1;have X1:=hqZ (KM.carry X2.out (Fr.transN Fr.r hf));clear X2;clear hf;clear xk2 xk3 xk10))
   go_wp2
   go_ret
   rw[ER.out]
   exact⟨t,u,_,_,_,rfl,by exact B1.out,by exact T0.out⟩
  case true =>
   have hkind:(hd ts).kind=1\/(hd ts).kind=3:=by simp at k3;omega
   (go_wp2_with fail;refine(eY _ _ _ _ _ _ _).mono ?_;rintro e w3 ⟨rfl,hf⟩;(have xs4:=Fr.size hf;have T1:=hqZ (Fr.transN T0.out hf);clear T0;have P0:=hqZ (PSt.new (P1.out) hf);clear P1;have B3:=hqZ (Blk.next B2.out hf id);clear B2;obtain⟨xk2,xl5⟩:=Blk.k1 B3.out;have B2:=hqZ (Blk.next B0.out hf id);clear B0;obtain⟨xk3,xl6⟩:=Blk.k1 B2.out;have B0:=hqZ (Blk.next B1.out hf id);clear B1;obtain⟨xk10,xl7⟩:=Blk.k6 B0.out;have X1:=hqZ (Acc.carry X2.out (Fr.transN Fr.r hf));clear X2;have X2:=hqZ (KM.carry X0.out (Fr.transN Fr.r hf));clear X0;clear hf;clear xk0 xk1 xk4))
   (go_wp2_with fail;refine(eH _ (fun g=>g=mb) mv (known.map (·.1)) (hd ts).text (by exact X2.out)).mono ?_;rintro e w5 ⟨rfl,hf⟩;(have xs6:=Fr.size hf;have T0:=hqZ (Fr.transN T1.out hf);clear T1;have P1:=hqZ (PSt.new (P0.out) hf);clear P0;have B1:=hqZ (Blk.next B3.out hf id);clear B3;obtain⟨xk0,xl8⟩:=Blk.k1 B1.out;have B3:=hqZ (Blk.next B2.out hf id);clear B2;obtain⟨xk1,xl9⟩:=Blk.k1 B3.out;have B2:=hqZ (Blk.next B0.out hf id);clear B0;obtain⟨xk4,xl10⟩:=Blk.k6 B2.out;have X0:=hqZ (Acc.carry X1.out (Fr.transN Fr.r hf));clear X1;have X1:=hqZ (KM.carry X2.out (Fr.transN Fr.r hf));clear X2;clear hf;clear xk2 xk3 xk10))
   cases h0:((known.map (·.1)).any fun k=>k.toList ==(hd ts).text.toList)
   case true =>
    have ER:=hqZ (show bC known ts = .bad from by unfold bC;rw[if_pos hkind,if_pos (by simpa[List.any_map] using h0)])
    (go_wp2_with fail;refine(ax _ pb tb (adv ts) _ _ ?_).mono ?_;(all_goals try exact PSt.over (w0:=w) P1.out (Fr.r.alloc _) ltp ltt);rintro e w6 ⟨⟨t,u,rfl⟩,hf⟩;(have xs8:=Fr.size hf;simp only[aa,ae,ad,af]at xs8;have T1:=hqZ (Fr.transN (T0.out.alloc _) hf);clear T0;have P0:=hqZ (PSt.new (PSt.over (w0:=w) P1.out (Fr.r.alloc _) ltp ltt) hf);clear P1;have B0:=hqZ (Blk.next (B1.out.alloc _) hf id);clear B1;obtain⟨xk2,xl11⟩:=Blk.k1 B0.out;have B1:=hqZ (Blk.next (B3.out.alloc _) hf id);clear B3;obtain⟨xk3,xl12⟩:=Blk.k1 B1.out;have B3:=hqZ (Blk.next (B2.out.alloc _) hf id);clear B2;obtain⟨xk10,xl13⟩:=Blk.k6 B3.out;have B2:=hqZ (Blk.next (Blk.at_ _ _ _ (n:=w5.heap.size) rfl) hf id);obtain⟨xk16,xl14⟩:=Blk.k1 B2.out;have X2:=hqZ (Acc.carry X0.out (Fr.transN (Fr.r.alloc _) hf));clear X0;have X0:=hqZ (KM.carry X1.out (Fr.transN (Fr.r.alloc _) hf));clear X1;clear hf;clear xk0 xk1 xk4))
    go_wp2
    go_ret
    rw[ER.out]
    exact⟨t,u,_,_,_,rfl,by exact B0.out,by exact T1.out⟩
   case false =>
    have h0':(known.any fun x=>x.1.toList ==(hd ts).text.toList)=false:=by simpa[List.any_map] using h0
    have E1:=hqZ (show bC known ts=cS (hd ts).text (adv ts)from by unfold bC;rw[if_pos hkind,if_neg (by simp[h0'])])
    (go_wp2_with fail;refine(lP _ mb kb mv (known.map (·.1)) (hd ts).text (by exact B3.out) (by exact X1.out) h0).mono ?_;rintro e w6 ⟨rfl,mv',mb',hb,hkm,hmb2,hf⟩;(have xs8:=Fr.size hf;have T1:=hqZ (Fr.trans' T0.out hf (fun k hk hs=>by omega));clear T0;have P0:=hqZ (PSt.frame (P1.out) hf (by show ¬ _;omega) (by show ¬ _;omega));clear P1;have B0:=hqZ (Blk.next B1.out hf (by show ¬ _;omega));clear B1;obtain⟨xk2,xl11⟩:=Blk.k1 B0.out;clear B3;have B1:=hqZ (Blk.next B2.out hf (by show ¬ _;omega));clear B2;obtain⟨xk3,xl12⟩:=Blk.k6 B1.out;have B2:=hqZ hb;obtain⟨xk15,xl13⟩:=Blk.k1 B2.out;clear hb;have X2:=hqZ (Acc.carry X0.out (Fr.trans' Fr.r hf (fun k _ hs=>by omega)));clear X0;clear X1;have X0:=hqZ (KM.mono (Z':=fun g=>g=mb'/\g < w6.heap.size) (hZ:=fun g h1 h2=>⟨h2,h1⟩) (h:=hkm));clear hkm;clear hf;clear xk0 xk1 xk4))
    (try simp only[aa,ae,af]at hmb2)
    (go_wp2_with fail;refine(ay _ pb tb (adv ts) ?_).mono ?_;(all_goals try exact P0.out);rintro e w7 ⟨⟨o7,l7,c7,rfl⟩,hf⟩;(have xs10:=Fr.size hf;have T0:=hqZ (Fr.transN T1.out hf);clear T1;have P1:=hqZ (PSt.new (P0.out) hf);clear P0;have B3:=hqZ (Blk.next B0.out hf id);clear B0;obtain⟨xk0,xl14⟩:=Blk.k1 B3.out;have B0:=hqZ (Blk.next B1.out hf id);clear B1;obtain⟨xk1,xl15⟩:=Blk.k6 B0.out;have B1:=hqZ (Blk.next B2.out hf id);clear B2;obtain⟨xk9,xl16⟩:=Blk.k1 B1.out;have X1:=hqZ (Acc.carry X2.out (Fr.transN Fr.r hf));clear X2;have X2:=hqZ (KM.carry X0.out (Fr.transN Fr.r hf));clear X0;clear hf;clear xk2 xk3 xk15))
    cases q1:((hd (adv ts)).text.toList == [40])
    case false =>
     have E4:=hqZ (show bC known ts = .ok ((hd ts).text,an) (adv ts)from by rw[E1.out];unfold cS Tok.is;rw[if_neg (by simp[q1])])
     (go_wp2_with fail;refine(fB _ ab (fun g=>kb < g/\g ≠ mb') (.slice A0 n0 cap0) known _ _ (by exact B3.out) (by exact Acc.mono (h:=X1.out) (hZ:=fun g _ hg=>by omega)) h0' (by omega) (fun g hg=>by(try simp only[aa,ae,ad,af]at hg);omega) (by omega)).mono ?_;rintro e w20 ⟨rfl,A',n',cap',hb,hacc,hf⟩;(have xs12:=Fr.size hf;have T1:=hqZ (Fr.trans' T0.out hf (fun k hk hs=>by omega));clear T0;have P0:=hqZ (PSt.frame (P1.out) hf (by show ¬ _;omega) (by show ¬ _;omega));clear P1;clear B3;clear B0;have B0:=hqZ (Blk.next B1.out hf (by show ¬ _;omega));clear B1;obtain⟨xk2,xl17⟩:=Blk.k1 B0.out;have B1:=hqZ hb;obtain⟨xk3,xl18⟩:=Blk.k1 B1.out;clear hb;clear X1;have X0:=hqZ (Acc.mono (Z':=fun g=>(kb < g/\g ≠ mb')/\g < w20.heap.size) (hZ:=fun g h1 h2=>⟨h2,h1⟩) (h:=hacc));clear hacc;have X1:=hqZ (KM.carry X2.out (Fr.trans' Fr.r hf (fun k _ hs=>by omega)));clear X2;clear hf;clear xk0 xk1 xk9))
     go_wp2
     go_ret
     rw[E4.out]
     exact⟨A',n',cap',mv',mb',rfl,by exact B1.out,by exact B0.out,by exact Acc.mono (h:=X0.out) (hZ:=fun g _ hg=>by omega),by rw[List.map_append];exact KM.mono (h:=X1.out) (hZ:=fun g _ hg=>by omega),by omega,by exact P0.out,by exact T1.out⟩
    case true =>
     have E2:=hqZ (show bC known ts=if(hd (adv (adv ts))).kind=4 then bw (aX (hd (adv (adv ts))).text) fun s=>(ak [41] (adv (adv (adv ts)))).bind fun _ ts1=>.ok ((hd ts).text,s) ts1 else .bad from by rw[E1.out];unfold cS;rw[if_pos (by simpa[Tok.is] using q1)])
     (go_wp2_with fail;refine(ag _ pb tb (adv ts) ?_).mono ?_;(all_goals try exact P1.out);rintro e w8 ⟨⟨o8,l8,c8,rfl⟩,hp,hf⟩;(have xs12:=Fr.size hf;have T1:=hqZ (Fr.trans' T0.out hf (fun k hk hs=>by omega));clear T0;clear P1;have B2:=hqZ (Blk.next B3.out hf (by show ¬ _;omega));clear B3;obtain⟨xk2,xl17⟩:=Blk.k1 B2.out;have B3:=hqZ (Blk.next B0.out hf (by show ¬ _;omega));clear B0;obtain⟨xk3,xl18⟩:=Blk.k6 B3.out;have B0:=hqZ (Blk.next B1.out hf (by show ¬ _;omega));clear B1;obtain⟨xk15,xl19⟩:=Blk.k1 B0.out;have X0:=hqZ (Acc.carry X1.out (Fr.trans' Fr.r hf (fun k _ hs=>by omega)));clear X1;have X1:=hqZ (KM.carry X2.out (Fr.trans' Fr.r hf (fun k _ hs=>by omega)));clear X2;have P0:=hqZ hp;clear hp;clear hf;clear xk0 xk1 xk9))
     have hz1:=PSt.fine P0.out |>.hd
     (go_wp2_with fail;refine(ag _ pb tb (adv (adv ts)) ?_).mono ?_;(all_goals try exact P0.out);rintro e w9 ⟨⟨o9,l9,c9,rfl⟩,hp,hf⟩;(have xs14:=Fr.size hf;have T0:=hqZ (Fr.trans' T1.out hf (fun k hk hs=>by omega));clear T1;clear P0;have B1:=hqZ (Blk.next B2.out hf (by show ¬ _;omega));clear B2;obtain⟨xk0,xl20⟩:=Blk.k1 B1.out;have B2:=hqZ (Blk.next B3.out hf (by show ¬ _;omega));clear B3;obtain⟨xk1,xl21⟩:=Blk.k6 B2.out;have B3:=hqZ (Blk.next B0.out hf (by show ¬ _;omega));clear B0;obtain⟨xk9,xl22⟩:=Blk.k1 B3.out;have X2:=hqZ (Acc.carry X0.out (Fr.trans' Fr.r hf (fun k _ hs=>by omega)));clear X0;have X0:=hqZ (KM.carry X1.out (Fr.trans' Fr.r hf (fun k _ hs=>by omega)));clear X1;have P0:=hqZ hp;clear hp;clear hf;clear xk2 xk3 xk15))
     cases k4:(((hd (adv (adv ts))).kind:Int) == 4)
     case false =>
      have k4':¬ (hd (adv (adv ts))).kind=4:=by simp at k4;omega
      have ER:=hqZ (show bC known ts = .bad from by rw[E2.out,if_neg k4'])
      (go_wp2_with fail;refine(aG _ _ _ _ _ _ _).mono ?_;rintro e w10 ⟨rfl,hf⟩;(have xs16:=Fr.size hf;simp only[aa,ae,ad,af]at xs16;have T1:=hqZ (Fr.transN ((((((T0.out.set (.inr (by omega))).set (.inr (by omega))).set (.inr (by omega))).set (.inr (by omega))).set (.inr (by omega))).set (.inr (by omega))) hf);clear T0;have P1:=hqZ (PSt.new (PSt.over (w0:=w) P0.out ((((((Fr.r.set (.inl (by omega))).set (.inl (by omega))).set (.inl (by omega))).set (.inl (by omega))).set (.inl (by omega))).set (.inl (by omega))) ltp ltt) hf);clear P0;have B0:=hqZ (Blk.next (Blk.far (Blk.far (Blk.far (Blk.far (Blk.far (Blk.far B1.out (by omega)) (by omega)) (by omega)) (by omega)) (by omega)) (by omega)) hf id);clear B1;obtain⟨xk2,xl23⟩:=Blk.k1 B0.out;have B1:=hqZ (Blk.next (Blk.set (Blk.set (Blk.set (Blk.set (Blk.set (Blk.set B2.out 0 _ rfl) 1 _ rfl) 2 _ rfl) 3 _ rfl) 4 _ rfl) 5 _ (cs':=#[.int .i64 ↑(hd (adv (adv ts))).kind,.string ⟨#[]⟩,.int .i64 o9,.int .i64 l9,.int .i64 c9,.string (hd (adv (adv ts))).text]) rfl) hf id);clear B2;obtain⟨xk3,xl24⟩:=Blk.k6 B1.out;have B2:=hqZ (Blk.next (Blk.far (Blk.far (Blk.far (Blk.far (Blk.far (Blk.far B3.out (by omega)) (by omega)) (by omega)) (by omega)) (by omega)) (by omega)) hf id);clear B3;obtain⟨xk15,xl25⟩:=Blk.k1 B2.out;have X1:=hqZ (Acc.carry X2.out (Fr.transN ((((((Fr.r.set (.inl (by omega))).set (.inl (by omega))).set (.inl (by omega))).set (.inl (by omega))).set (.inl (by omega))).set (.inl (by omega))) hf));clear X2;have X2:=hqZ (KM.carry X0.out (Fr.transN ((((((Fr.r.set (.inl (by omega))).set (.inl (by omega))).set (.inl (by omega))).set (.inl (by omega))).set (.inl (by omega))).set (.inl (by omega))) hf));clear X0;clear hf;clear xk0 xk1 xk9))
      (go_wp2_with fail;refine(ax _ pb tb (adv (adv (adv ts))) _ _ ?_).mono ?_;(all_goals try exact P1.out);rintro e w11 ⟨⟨t,u,rfl⟩,hf⟩;(have xs18:=Fr.size hf;have T0:=hqZ (Fr.transN T1.out hf);clear T1;have P0:=hqZ (PSt.new (P1.out) hf);clear P1;have B3:=hqZ (Blk.next B0.out hf id);clear B0;obtain⟨xk0,xl26⟩:=Blk.k1 B3.out;have B0:=hqZ (Blk.next B1.out hf id);clear B1;obtain⟨xk1,xl27⟩:=Blk.k6 B0.out;have B1:=hqZ (Blk.next B2.out hf id);clear B2;obtain⟨xk9,xl28⟩:=Blk.k1 B1.out;have X0:=hqZ (Acc.carry X1.out (Fr.transN Fr.r hf));clear X1;have X1:=hqZ (KM.carry X2.out (Fr.transN Fr.r hf));clear X2;clear hf;clear xk2 xk3 xk15))
      go_wp2
      go_ret
      rw[ER.out]
      exact⟨t,u,_,_,_,rfl,by exact B3.out,by exact T0.out⟩
     have k4':(hd (adv (adv ts))).kind=4:=by simp at k4;omega
     (go_wp2_with fail;refine(aG _ _ _ _ _ _ _).mono ?_;rintro e w10 ⟨rfl,hf⟩;(have xs16:=Fr.size hf;simp only[aa,ae,ad,af]at xs16;have T1:=hqZ (Fr.transN ((((((T0.out.set (.inr (by omega))).set (.inr (by omega))).set (.inr (by omega))).set (.inr (by omega))).set (.inr (by omega))).set (.inr (by omega))) hf);clear T0;have P1:=hqZ (PSt.new (PSt.over (w0:=w) P0.out ((((((Fr.r.set (.inl (by omega))).set (.inl (by omega))).set (.inl (by omega))).set (.inl (by omega))).set (.inl (by omega))).set (.inl (by omega))) ltp ltt) hf);clear P0;have B0:=hqZ (Blk.next (Blk.far (Blk.far (Blk.far (Blk.far (Blk.far (Blk.far B1.out (by omega)) (by omega)) (by omega)) (by omega)) (by omega)) (by omega)) hf id);clear B1;obtain⟨xk2,xl23⟩:=Blk.k1 B0.out;have B1:=hqZ (Blk.next (Blk.set (Blk.set (Blk.set (Blk.set (Blk.set (Blk.set B2.out 0 _ rfl) 1 _ rfl) 2 _ rfl) 3 _ rfl) 4 _ rfl) 5 _ (cs':=#[.int .i64 4,.string ⟨#[]⟩,.int .i64 o9,.int .i64 l9,.int .i64 c9,.string (hd (adv (adv ts))).text]) rfl) hf id);clear B2;obtain⟨xk3,xl24⟩:=Blk.k6 B1.out;have B2:=hqZ (Blk.next (Blk.far (Blk.far (Blk.far (Blk.far (Blk.far (Blk.far B3.out (by omega)) (by omega)) (by omega)) (by omega)) (by omega)) (by omega)) hf id);clear B3;obtain⟨xk15,xl25⟩:=Blk.k1 B2.out;have X1:=hqZ (Acc.carry X2.out (Fr.transN ((((((Fr.r.set (.inl (by omega))).set (.inl (by omega))).set (.inl (by omega))).set (.inl (by omega))).set (.inl (by omega))).set (.inl (by omega))) hf));clear X2;have X2:=hqZ (KM.carry X0.out (Fr.transN ((((((Fr.r.set (.inl (by omega))).set (.inl (by omega))).set (.inl (by omega))).set (.inl (by omega))).set (.inl (by omega))).set (.inl (by omega))) hf));clear X0;clear hf;clear xk0 xk1 xk9))
     cases hv:aX (hd (adv (adv ts))).text with
     | none =>
      have ER:=hqZ (show bC known ts = .bad from by rw[E2.out,if_pos k4',hv];rfl)
      (go_wp2_with fail;refine(sv (HS.out _ _ _ _ _ _ _ hz1 (by exact(PSt.glob (P1.out)).1)) hv).mono ?_;rintro e w11 ⟨x,t,u,rfl,hf⟩;(have xs18:=Fr.size hf;have T0:=hqZ (Fr.transN T1.out hf);clear T1;have P0:=hqZ (PSt.new (P1.out) hf);clear P1;have B3:=hqZ (Blk.next B0.out hf id);clear B0;obtain⟨xk0,xl26⟩:=Blk.k1 B3.out;have B0:=hqZ (Blk.next B1.out hf id);clear B1;obtain⟨xk1,xl27⟩:=Blk.k6 B0.out;have B1:=hqZ (Blk.next B2.out hf id);clear B2;obtain⟨xk9,xl28⟩:=Blk.k1 B1.out;have X0:=hqZ (Acc.carry X1.out (Fr.transN Fr.r hf));clear X1;have X1:=hqZ (KM.carry X2.out (Fr.transN Fr.r hf));clear X2;clear hf;clear xk2 xk3 xk15))
      go_wp2
      go_ret
      rw[ER.out]
      exact⟨t,u,_,_,_,rfl,by exact B3.out,by exact T0.out⟩
     | some s =>
      have E3:=hqZ (show bC known ts=(ak [41] (adv (adv (adv ts)))).bind fun _ ts1=>.ok ((hd ts).text,s) ts1 from by rw[E2.out,if_pos k4',hv];rfl)
      (go_wp2_with fail;refine(sv (HS.out _ _ _ _ _ _ _ hz1 (by exact(PSt.glob (P1.out)).1)) hv).mono ?_;rintro e w11 ⟨rfl,hf⟩;(have xs18:=Fr.size hf;have T0:=hqZ (Fr.transN T1.out hf);clear T1;have P0:=hqZ (PSt.new (P1.out) hf);clear P1;have B3:=hqZ (Blk.next B0.out hf id);clear B0;obtain⟨xk0,xl26⟩:=Blk.k1 B3.out;have B0:=hqZ (Blk.next B1.out hf id);clear B1;obtain⟨xk1,xl27⟩:=Blk.k6 B0.out;have B1:=hqZ (Blk.next B2.out hf id);clear B2;obtain⟨xk9,xl28⟩:=Blk.k1 B1.out;have X0:=hqZ (Acc.carry X1.out (Fr.transN Fr.r hf));clear X1;have X1:=hqZ (KM.carry X2.out (Fr.transN Fr.r hf));clear X2;clear hf;clear xk2 xk3 xk15))
      clear hv
      cases q2:((hd (adv (adv (adv ts)))).text.toList == [41])
      case false =>
       have ER:=hqZ (show bC known ts = .bad from by rw[E3.out];unfold ak Tok.is;rw[if_neg (by simp[q2])];rfl)
       (go_wp2_with fail;refine(bf _ pb tb (adv (adv (adv ts))) [41] ?_ q2).mono ?_;(all_goals try exact P0.out);rintro e w12 ⟨⟨t,u,rfl⟩,hf⟩;(have xs20:=Fr.size hf;have T1:=hqZ (Fr.trans' T0.out hf (fun k hk hs=>by omega));clear T0;clear P0;have B2:=hqZ (Blk.next B3.out hf (by show ¬ _;omega));clear B3;obtain⟨xk2,xl29⟩:=Blk.k1 B2.out;have B3:=hqZ (Blk.next B0.out hf (by show ¬ _;omega));clear B0;obtain⟨xk3,xl30⟩:=Blk.k6 B3.out;have B0:=hqZ (Blk.next B1.out hf (by show ¬ _;omega));clear B1;obtain⟨xk15,xl31⟩:=Blk.k1 B0.out;have X2:=hqZ (Acc.carry X0.out (Fr.trans' Fr.r hf (fun k _ hs=>by omega)));clear X0;have X0:=hqZ (KM.carry X1.out (Fr.trans' Fr.r hf (fun k _ hs=>by omega)));clear X1;clear hf;clear xk0 xk1 xk9))
       go_wp2
       go_ret
       rw[ER.out]
       exact⟨t,u,_,_,_,rfl,by exact B2.out,by exact T1.out⟩
      case true =>
       have E4:=hqZ (show bC known ts = .ok ((hd ts).text,s) (adv (adv (adv (adv ts))))from by rw[E3.out];unfold ak Tok.is;rw[if_pos q2];rfl)
       (go_wp2_with fail;refine(aQ _ pb tb (adv (adv (adv ts))) [41] ?_ q2).mono ?_;(all_goals try exact P0.out);rintro e w12 ⟨rfl,hp,hf⟩;(have xs20:=Fr.size hf;have T1:=hqZ (Fr.trans' T0.out hf (fun k hk hs=>by omega));clear T0;clear P0;have B2:=hqZ (Blk.next B3.out hf (by show ¬ _;omega));clear B3;obtain⟨xk2,xl29⟩:=Blk.k1 B2.out;have B3:=hqZ (Blk.next B0.out hf (by show ¬ _;omega));clear B0;obtain⟨xk3,xl30⟩:=Blk.k6 B3.out;have B0:=hqZ (Blk.next B1.out hf (by show ¬ _;omega));clear B1;obtain⟨xk15,xl31⟩:=Blk.k1 B0.out;have X2:=hqZ (Acc.carry X0.out (Fr.trans' Fr.r hf (fun k _ hs=>by omega)));clear X0;have X0:=hqZ (KM.carry X1.out (Fr.trans' Fr.r hf (fun k _ hs=>by omega)));clear X1;have P0:=hqZ hp;clear hp;clear hf;clear xk0 xk1 xk9))
       (go_wp2_with fail;refine(fB _ ab (fun g=>kb < g/\g ≠ mb') (.slice A0 n0 cap0) known _ _ (by exact B2.out) (by exact Acc.mono (h:=X2.out) (hZ:=fun g _ hg=>by omega)) h0' (by omega) (fun g hg=>by(try simp only[aa,ae,ad,af]at hg);omega) (by omega)).mono ?_;rintro e w20 ⟨rfl,A',n',cap',hb,hacc,hf⟩;(have xs22:=Fr.size hf;have T0:=hqZ (Fr.trans' T1.out hf (fun k hk hs=>by omega));clear T1;have P1:=hqZ (PSt.frame (P0.out) hf (by show ¬ _;omega) (by show ¬ _;omega));clear P0;clear B2;clear B3;have B1:=hqZ (Blk.next B0.out hf (by show ¬ _;omega));clear B0;obtain⟨xk0,xl32⟩:=Blk.k1 B1.out;have B0:=hqZ hb;obtain⟨xk1,xl33⟩:=Blk.k1 B0.out;clear hb;clear X2;have X1:=hqZ (Acc.mono (Z':=fun g=>(kb < g/\g ≠ mb')/\g < w20.heap.size) (hZ:=fun g h1 h2=>⟨h2,h1⟩) (h:=hacc));clear hacc;have X2:=hqZ (KM.carry X0.out (Fr.trans' Fr.r hf (fun k _ hs=>by omega)));clear X0;clear hf;clear xk2 xk3 xk15))
       go_wp2
       go_ret
       rw[E4.out]
       exact⟨A',n',cap',mv',mb',rfl,by exact B0.out,by exact B1.out,by exact Acc.mono (h:=X1.out) (hZ:=fun g _ hg=>by omega),by rw[List.map_append];exact KM.mono (h:=X2.out) (hZ:=fun g _ hg=>by omega),by omega,by exact P1.out,by exact T0.out⟩
end Go.Proofs.YtbdhlpeckennjaaGreatDoor
