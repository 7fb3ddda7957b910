/- FnLong (the proof that the law returns true for every input), part 5 of 52; the last part says what is proved, and its condition. -/
import Derived.Deep.RegionWith
import Derived.Deep.RegionLaw
import Derived.Deep.LoopGhost
import Derived.Test.YtbdhlpeckennjaaGreatDoorM04
set_option linter.unusedVariables false
set_option linter.unusedSimpArgs false
set_option maxHeartbeats 80000000
set_option maxRecDepth 1000000
namespace Go.Proofs.YtbdhlpeckennjaaGreatDoor
open Go Go.RowKit
theorem aG(w:World)(k o l c:Int)(f s:ByteArray) :
  Calls Tryz.prog 123 #[.agg #[.int .i64 k,.string f,.int .i64 o,.int .i64 l,.int .i64 c,.string s]] w fun e w'=>e = .returned (.bool (k == 4))/\New w w':=by
 go_enter Tryz.func123,Tryz.ntmps123
 go_wp2
 go_ret
 refine⟨rfl,?_⟩
 repeat' (with_reducible(first|exact Fr.refl _ _|apply Fr.drew|apply Fr.alloc))
theorem ft(w:World)(k o l c:Int)(f s:ByteArray) :
  Calls Tryz.prog 207 #[.agg #[.int .i64 k,.string f,.int .i64 o,.int .i64 l,.int .i64 c,.string s]] w fun e w'=>e = .returned (.bool (k == 2))/\New w w':=by
 go_enter Tryz.func207,Tryz.ntmps207
 go_wp2
 go_ret
 refine⟨rfl,?_⟩
 repeat' (with_reducible(first|exact Fr.refl _ _|apply Fr.drew|apply Fr.alloc))
theorem eY(w:World)(k o l c:Int)(f s:ByteArray) :
  Calls Tryz.prog 120 #[.agg #[.int .i64 k,.string f,.int .i64 o,.int .i64 l,.int .i64 c,.string s]] w fun e w'=>e = .returned (.bool (k == 3))/\New w w':=by
 go_enter Tryz.func120,Tryz.ntmps120
 go_wp2
 go_ret
 refine⟨rfl,?_⟩
 repeat' (with_reducible(first|exact Fr.refl _ _|apply Fr.drew|apply Fr.alloc))
def SV (s:ByteArray)(w:World)(r:Option ByteArray)(e:Ending)(w':World):Prop :=
 match r with
 | some r=>e = .returned (.tuple #[.string r,.nilIface])/\New w w'
 | none=>∃ (x:ByteArray) (t:TypeId) (u:Value),e = .returned (.tuple #[.string x,.iface t u])/\New w w'
def cC:Prop:=∀ (w:World) (k o l c:Int) (f s:ByteArray),s.size<=1000000->Glob w ->
 Calls Tryz.prog 124 #[.agg #[.int .i64 k,.string f,.int .i64 o,.int .i64 l,.int .i64 c,.string s]] w (SV s w (aX s))
theorem sv{p:Program}{f:FuncId}{a:Array Value}{w:World}{s:ByteArray}{r r':Option ByteArray}(h:Calls p f a w (SV s w r))(e:r=r'):Calls p f a w (SV s w r'):=e ▸ h
def isEnt(v:Value):Prop:=∃ a b,v = .agg #[.string a,.string b]
abbrev GotE:=Got (fun(a:ByteArray × ByteArray)=>.agg #[.string a.1,.string a.2]) isEnt
theorem ib(hSV:cC)(w:World)(pb tb:Nat)(ts:List Tok)(s:ByteArray)(h:PSt w pb tb ts)(hs:s.size<=1000000)(hne:aj bB s ts ≠ .out) :
  Calls Tryz.prog 128 #[.pointer (some ⟨pb,0,none⟩),.string s] w (GotE pb tb w (aj bB s ts)):=by
 have hft:=aq
 have ltp:=h.lt
 have ltt:=h.lt2
 have ll:=h.len
 have P0:=hqZ h
 have T0:=hqZ (Fr.refl (· = pb) w)
 have HN:=hqZ hne
 have HS:=hqZ hSV
 clear h hne hSV
 go_enter Tryz.func128,Tryz.ntmps128
 go_wp2_with fail
 go_loopg [] (ts.length+1) (fun k wr=>∃ (s':ByteArray) (ts':List Tok),ai bB k s' ts'=aj bB s ts/\PSt wr pb tb ts'/\Fr (· = pb) w wr/\s'.size+k * 1000002<=200000000000 /\
  Blk wr w.heap.size #[.string ⟨#[]⟩,.string ⟨#[]⟩] 153/\Blk wr (w.heap.size+1) #[.string s',.string ⟨#[]⟩] 153)
 case atStart=>exact⟨s,ts,rfl,by exact PSt.over (w0:=w) P0.out ((Fr.r.alloc _).alloc _) ltp ltt,by exact((T0.out.alloc _).alloc _),by omega,by exact((Blk.at_ _ _ _ (n:=w.heap.size) rfl).alloc _),by exact(Blk.at_ _ _ _ (n:=w.heap.size+1) (by simp only[aa,ae,ad,af]))⟩
 case round =>
  obtain⟨s',ts',e1,hp,hf,hz,hb1,hb2⟩:=hrel
  clear P0 T0
  have E0:=hqZ e1
  have P1:=hqZ hp
  have F1:=hqZ hf
  have B1:=hqZ hb1
  have B2:=hqZ hb2
  have s0:=hf.size
  clear e1 hp hf hb1 hb2
  obtain⟨n,rfl⟩:∃ n,gk=n+1:=by
   cases gk with
   | zero=>exact absurd E0.out.symm HN.out
   | succ n=>exact⟨n,rfl⟩
  cases hq:((hd ts').text.toList == [58,58])
  ·(go_wp2_with fail;refine(bf _ pb tb _ _ ?_ hq).mono ?_;(all_goals try exact P1.out);rintro e w1 ⟨⟨t,u,rfl⟩,hf⟩;(have xs0:=Fr.size hf;have T0:=hqZ (Fr.trans F1.out hf);clear F1;clear P1;have B0:=hqZ (Blk.next B1.out hf (by show ¬ _;omega));clear B1;obtain⟨xk0,xl0⟩:=Blk.k2 B0.out;have B1:=hqZ (Blk.next B2.out hf (by show ¬ _;omega));clear B2;obtain⟨xk2,xl1⟩:=Blk.k2 B1.out;clear hf))
   go_wp2
   refine bodyPost_ret (v:=(.tuple #[.agg #[.string s',.string ⟨#[]⟩],.iface t u])) (by simp only[results,Tryz.results128];go_simp) rfl ?_
   rw[show aj bB s ts = .bad from by rw[<- E0.out];simp[ai,bB,Tok.is,hq,PR.bind]]
   exact⟨_,t,u,⟨_,_,rfl⟩,rfl,by exact((T0.out.set (.inr (Nat.le_refl _))).set (.inr (Nat.le_refl _)))⟩
  ·(go_wp2_with fail;refine(aQ _ pb tb _ _ ?_ hq).mono ?_;(all_goals try exact P1.out);rintro e w1 ⟨rfl,hp,hf⟩;(have xs0:=Fr.size hf;have T0:=hqZ (Fr.trans F1.out hf);clear F1;clear P1;have B0:=hqZ (Blk.next B1.out hf (by show ¬ _;omega));clear B1;obtain⟨xk0,xl0⟩:=Blk.k2 B0.out;have B1:=hqZ (Blk.next B2.out hf (by show ¬ _;omega));clear B2;obtain⟨xk2,xl1⟩:=Blk.k2 B1.out;have P0:=hqZ hp;clear hp;clear hf))
   have hz1:=PSt.fine P0.out |>.hd
   (go_wp2_with fail;refine(ag _ pb tb (adv ts') ?_).mono ?_;(all_goals try exact P0.out);rintro e w2 ⟨⟨o2,l2,c2,rfl⟩,hp,hf⟩;(have xs2:=Fr.size hf;have T1:=hqZ (Fr.trans T0.out hf);clear T0;clear P0;have B2:=hqZ (Blk.next B0.out hf (by show ¬ _;omega));clear B0;obtain⟨xk4,xl2⟩:=Blk.k2 B2.out;have B0:=hqZ (Blk.next B1.out hf (by show ¬ _;omega));clear B1;obtain⟨xk6,xl3⟩:=Blk.k2 B0.out;have P0:=hqZ hp;clear hp;clear hf;clear xk0 xk2))
   cases hk:(((hd (adv ts')).kind:Int) == 1)
   ·(go_wp2_with fail;refine(aD _ _ _ _ _ _ _).mono ?_;rintro e w3 ⟨rfl,hf⟩;(have xs4:=Fr.size hf;simp only[aa,ae,ad,af]at xs4;have T0:=hqZ (Fr.transN (T1.out.alloc _) hf);clear T1;have P1:=hqZ (PSt.new (PSt.over (w0:=w) P0.out (Fr.r.alloc _) ltp ltt) hf);clear P0;have B1:=hqZ (Blk.next (B2.out.alloc _) hf id);clear B2;obtain⟨xk0,xl4⟩:=Blk.k2 B1.out;have B2:=hqZ (Blk.next (B0.out.alloc _) hf id);clear B0;obtain⟨xk2,xl5⟩:=Blk.k2 B2.out;have B0:=hqZ (Blk.next (Blk.at_ _ _ _ (n:=w2.heap.size) rfl) hf id);obtain⟨xk8,xl6⟩:=Blk.k6 B0.out;clear hf;clear xk4 xk6))
    have hk':¬ (hd (adv ts')).kind=1:=by simp at hk;omega
    cases hj:(((hd (adv ts')).kind:Int) == 4)
    .have hj':¬ (hd (adv ts')).kind=4:=by simp at hj;omega
     (go_wp2_with fail;refine(aG _ _ _ _ _ _ _).mono ?_;rintro e w4 ⟨rfl,hf⟩;(have xs6:=Fr.size hf;have T1:=hqZ (Fr.transN T0.out hf);clear T0;have P0:=hqZ (PSt.new (P1.out) hf);clear P1;have B3:=hqZ (Blk.next B1.out hf id);clear B1;obtain⟨xk4,xl7⟩:=Blk.k2 B3.out;have B1:=hqZ (Blk.next B2.out hf id);clear B2;obtain⟨xk6,xl8⟩:=Blk.k2 B1.out;have B2:=hqZ (Blk.next B0.out hf id);clear B0;obtain⟨xk14,xl9⟩:=Blk.k6 B2.out;clear hf;clear xk0 xk2 xk8))
     have ER:=hqZ (show aj bB s ts = .bad from by rw[<- E0.out];simp[ai,bB,Tok.is,hq,PR.bind,hk',hj'])
     go_wp2
     go_region_with (go_at_call 84;refine(ax _ pb tb (adv (adv ts')) _ _ ?_).mono ?_;(all_goals try exact PSt.over (w0:=w) P0.out Fr.r.drew ltp ltt);rintro e w5 ⟨⟨t,u,rfl⟩,hf⟩;(have xs8:=Fr.size hf;simp only[aa,ae,ad,af]at xs8;have T0:=hqZ (Fr.transN T1.out.drew hf);clear T1;have P1:=hqZ (PSt.new (PSt.over (w0:=w) P0.out Fr.r.drew ltp ltt) hf);clear P0;have B0:=hqZ (Blk.next B3.out.drew hf id);clear B3;obtain⟨xk0,xl10⟩:=Blk.k2 B0.out;have B3:=hqZ (Blk.next B1.out.drew hf id);clear B1;obtain⟨xk2,xl11⟩:=Blk.k2 B3.out;have B1:=hqZ (Blk.next B2.out.drew hf id);clear B2;obtain⟨xk8,xl12⟩:=Blk.k6 B1.out;clear hf;clear xk4 xk6 xk14))
     all_goals
      go_wp2
      refine bodyPost_ret (v:=(.tuple #[.agg #[.string s',.string ⟨#[]⟩],.iface t u])) (by simp only[results,Tryz.results128];go_simp) rfl ?_
      rw[ER.out]
      exact⟨_,t,u,⟨_,_,rfl⟩,rfl,by exact((T0.out.set (.inr (Nat.le_refl _))).set (.inr (Nat.le_refl _)))⟩
    .have hj':(hd (adv ts')).kind=4:=by simp at hj;omega
     have e1:aj bB s ts=(bw (aX (hd (adv ts')).text) fun s=>.ok (s',s) (adv (adv ts'))):=by
      rw[<- E0.out];simp only[ai,bB,Tok.is,hq,if_true];rw[if_neg hk',if_pos hj'];cases aX (hd (adv ts')).text <;> rfl
     have E1:=hqZ e1
     clear e1
     (go_wp2_with fail;refine(aG _ _ _ _ _ _ _).mono ?_;rintro e w4 ⟨rfl,hf⟩;(have xs6:=Fr.size hf;have T1:=hqZ (Fr.transN T0.out hf);clear T0;have P0:=hqZ (PSt.new (P1.out) hf);clear P1;have B3:=hqZ (Blk.next B1.out hf id);clear B1;obtain⟨xk4,xl7⟩:=Blk.k2 B3.out;have B1:=hqZ (Blk.next B2.out hf id);clear B2;obtain⟨xk6,xl8⟩:=Blk.k2 B1.out;have B2:=hqZ (Blk.next B0.out hf id);clear B0;obtain⟨xk14,xl9⟩:=Blk.k6 B2.out;clear hf;clear xk0 xk2 xk8))
     cases hv:aX (hd (adv ts')).text with
     | none =>
      (go_wp2_with fail;refine(sv (HS.out _ _ _ _ _ _ _ hz1 (by exact(PSt.glob (P0.out)).1)) hv).mono ?_;rintro e w5 ⟨x,t,u,rfl,hf⟩;(have xs8:=Fr.size hf;have T0:=hqZ (Fr.transN T1.out hf);clear T1;have P1:=hqZ (PSt.new (P0.out) hf);clear P0;have B0:=hqZ (Blk.next B3.out hf id);clear B3;obtain⟨xk0,xl10⟩:=Blk.k2 B0.out;have B3:=hqZ (Blk.next B1.out hf id);clear B1;obtain⟨xk2,xl11⟩:=Blk.k2 B3.out;have B1:=hqZ (Blk.next B2.out hf id);clear B2;obtain⟨xk8,xl12⟩:=Blk.k6 B1.out;clear hf;clear xk4 xk6 xk14))
      go_wp2
      refine bodyPost_ret (v:=(.tuple #[.agg #[.string s',.string ⟨#[]⟩],.iface t u])) (by simp only[results,Tryz.results128];go_simp) rfl ?_
      rw[E1.out,hv]
      exact⟨_,t,u,⟨_,_,rfl⟩,rfl,by exact((T0.out.set (.inr (Nat.le_refl _))).set (.inr (Nat.le_refl _)))⟩
     | some x =>
      (go_wp2_with fail;refine(sv (HS.out _ _ _ _ _ _ _ hz1 (by exact(PSt.glob (P0.out)).1)) hv).mono ?_;rintro e w5 ⟨rfl,hf⟩;(have xs8:=Fr.size hf;have T0:=hqZ (Fr.transN T1.out hf);clear T1;have P1:=hqZ (PSt.new (P0.out) hf);clear P0;have B0:=hqZ (Blk.next B3.out hf id);clear B3;obtain⟨xk0,xl10⟩:=Blk.k2 B0.out;have B3:=hqZ (Blk.next B1.out hf id);clear B1;obtain⟨xk2,xl11⟩:=Blk.k2 B3.out;have B1:=hqZ (Blk.next B2.out hf id);clear B2;obtain⟨xk8,xl12⟩:=Blk.k6 B1.out;clear hf;clear xk4 xk6 xk14))
      go_wp2
      refine bodyPost_ret (v:=(.tuple #[.agg #[.string s',.string x],.nilIface])) (by simp only[results,Tryz.results128];go_simp) rfl ?_
      rw[E1.out,hv]
      exact⟨rfl,by exact PSt.over (w0:=w) P1.out (((Fr.r.set (.inl (by omega))).set (.inl (by omega))).set (.inl (by omega))) ltp ltt,by exact(((T0.out.set (.inr (by omega))).set (.inr (Nat.le_refl _))).set (.inr (Nat.le_refl _)))⟩
   .have hk':(hd (adv ts')).kind=1:=by simp at hk;omega
    have E1:=hqZ (show ai bB n (s'++⟨#[58,58]⟩++(hd (adv ts')).text) (adv (adv ts'))=aj bB s ts from by rw[<- E0.out];simp only[ai,bB,Tok.is,hq,if_true];rw[if_pos hk'];rfl)
    (go_wp2_with fail;refine(aD _ _ _ _ _ _ _).mono ?_;rintro e w3 ⟨rfl,hf⟩;(have xs4:=Fr.size hf;simp only[aa,ae,ad,af]at xs4;have T0:=hqZ (Fr.transN (T1.out.alloc _) hf);clear T1;have P1:=hqZ (PSt.new (PSt.over (w0:=w) P0.out (Fr.r.alloc _) ltp ltt) hf);clear P0;have B1:=hqZ (Blk.next (B2.out.alloc _) hf id);clear B2;obtain⟨xk0,xl4⟩:=Blk.k2 B1.out;have B2:=hqZ (Blk.next (B0.out.alloc _) hf id);clear B0;obtain⟨xk2,xl5⟩:=Blk.k2 B2.out;have B0:=hqZ (Blk.next (Blk.at_ _ _ _ (n:=w2.heap.size) rfl) hf id);obtain⟨xk8,xl6⟩:=Blk.k6 B0.out;clear hf;clear xk4 xk6))
    go_wp2
    go_roundg n
    case measure=>omega
    case rel =>
     exact⟨_,_,E1.out,by exact PSt.over (w0:=w) P1.out (Fr.r.set (.inl (by omega))) ltp ltt,by exact(T0.out.set (.inr (by omega))),by rw[kX];omega,by exact(Blk.far B1.out (by omega)),by exact B2.out.s20⟩
theorem aL(hSV:cC)(w:World)(pb tb:Nat)(ts:List Tok)(h:PSt w pb tb ts)(hne:aJ ts ≠ .out) :
  Calls Tryz.prog 85 #[.pointer (some ⟨pb,0,none⟩)] w (GotE pb tb w (aJ ts)):=by
 have hft:=aq
 have ltp:=h.lt
 have ltt:=h.lt2
 have P0:=hqZ h
 have T0:=hqZ (Fr.refl (· = pb) w)
 have HN:=hqZ hne
 have HS:=hqZ hSV
 clear h hne hSV
 go_enter Tryz.func85,Tryz.ntmps85
 have hz1:=PSt.fine P0.out |>.hd
 (go_wp2_with fail;refine(ag _ pb tb ts ?_).mono ?_;(all_goals try exact PSt.over (w0:=w) P0.out ((Fr.r.alloc _).alloc _) ltp ltt);rintro e w1 ⟨⟨o,l,c,rfl⟩,hp,hf⟩;(have xs0:=Fr.size hf;simp only[aa,ae,ad,af]at xs0;have T1:=hqZ (Fr.trans ((T0.out.alloc _).alloc _) hf);clear T0;clear P0;have B0:=hqZ (Blk.next ((Blk.at_ _ _ _ (n:=w.heap.size) rfl).alloc _) hf (by show ¬ _;omega));obtain⟨xk0,xl0⟩:=Blk.k2 B0.out;have B1:=hqZ (Blk.next (Blk.at_ _ _ _ (n:=w.heap.size+1) (by simp only[aa,ae,ad,af])) hf (by show ¬ _;omega));obtain⟨xk2,xl1⟩:=Blk.k2 B1.out;have P0:=hqZ hp;clear hp;clear hf))
 cases hk:(((hd ts).kind:Int) == 1)
 ·(go_wp2_with fail;refine(aD _ _ _ _ _ _ _).mono ?_;rintro e w4 ⟨rfl,hf⟩;(have xs2:=Fr.size hf;simp only[aa,ae,ad,af]at xs2;have T0:=hqZ (Fr.transN (T1.out.alloc _) hf);clear T1;have P1:=hqZ (PSt.new (PSt.over (w0:=w) P0.out (Fr.r.alloc _) ltp ltt) hf);clear P0;have B2:=hqZ (Blk.next (B0.out.alloc _) hf id);clear B0;obtain⟨xk4,xl2⟩:=Blk.k2 B2.out;have B0:=hqZ (Blk.next (B1.out.alloc _) hf id);clear B1;obtain⟨xk6,xl3⟩:=Blk.k2 B0.out;have B1:=hqZ (Blk.next (Blk.at_ _ _ _ (n:=w1.heap.size) rfl) hf id);obtain⟨xk8,xl4⟩:=Blk.k6 B1.out;clear hf;clear xk0 xk2))
  have ER:=hqZ (show aJ ts = .bad from by rw[aJ,if_neg];simp at hk;omega)
  go_wp2
  go_region_with (go_at_call 84;refine(ax _ pb tb (adv ts) _ _ ?_).mono ?_;(all_goals try exact PSt.over (w0:=w) P1.out Fr.r.drew ltp ltt);rintro e w5 ⟨⟨t,u,rfl⟩,hf⟩;(have xs4:=Fr.size hf;simp only[aa,ae,ad,af]at xs4;have T1:=hqZ (Fr.transN T0.out.drew hf);clear T0;have P0:=hqZ (PSt.new (PSt.over (w0:=w) P1.out Fr.r.drew ltp ltt) hf);clear P1;have B3:=hqZ (Blk.next B2.out.drew hf id);clear B2;obtain⟨xk0,xl5⟩:=Blk.k2 B3.out;have B2:=hqZ (Blk.next B0.out.drew hf id);clear B0;obtain⟨xk2,xl6⟩:=Blk.k2 B2.out;have B0:=hqZ (Blk.next B1.out.drew hf id);clear B1;obtain⟨xk14,xl7⟩:=Blk.k6 B0.out;clear hf;clear xk4 xk6 xk8))
  all_goals
   go_wp2
   refine bodyPost_ret (v:=(.tuple #[.agg #[.string ⟨#[]⟩,.string ⟨#[]⟩],.iface t u])) (by simp only[results,Tryz.results85];go_simp) rfl ?_
   rw[ER.out]
   exact⟨_,t,u,⟨_,_,rfl⟩,rfl,by exact((T1.out.set (.inr (Nat.le_refl _))).set (.inr (Nat.le_refl _)))⟩
 .have ER:=hqZ (show aJ ts=aj bB (hd ts).text (adv ts)from by rw[aJ,if_pos];simp at hk;omega)
  (go_wp2_with fail;refine(aD _ _ _ _ _ _ _).mono ?_;rintro e w4 ⟨rfl,hf⟩;(have xs2:=Fr.size hf;simp only[aa,ae,ad,af]at xs2;have T0:=hqZ (Fr.transN (T1.out.alloc _) hf);clear T1;have P1:=hqZ (PSt.new (PSt.over (w0:=w) P0.out (Fr.r.alloc _) ltp ltt) hf);clear P0;have B2:=hqZ (Blk.next (B0.out.alloc _) hf id);clear B0;obtain⟨xk4,xl2⟩:=Blk.k2 B2.out;have B0:=hqZ (Blk.next (B1.out.alloc _) hf id);clear B1;obtain⟨xk6,xl3⟩:=Blk.k2 B0.out;have B1:=hqZ (Blk.next (Blk.at_ _ _ _ (n:=w1.heap.size) rfl) hf id);obtain⟨xk8,xl4⟩:=Blk.k6 B1.out;clear hf;clear xk0 xk2))
  have HN1:=hqZ (show aj bB (hd ts).text (adv ts) ≠ .out from by rw[<- ER.out];exact HN.out)
  cases hr:aj bB (hd ts).text (adv ts)with
  | out=>exact absurd hr HN1.out
  | bad =>
   (go_wp2_with fail;refine(got (GotE pb tb) (ib HS.out _ pb tb _ _ ?_ hz1 HN1.out) hr).mono ?_;(all_goals try exact P1.out);rintro e w5 ⟨_,t,u,⟨s1,s2,rfl⟩,rfl,hf⟩;(have xs4:=Fr.size hf;have T1:=hqZ (Fr.trans T0.out hf);clear T0;clear P1;have B3:=hqZ (Blk.next B2.out hf (by show ¬ _;omega));clear B2;obtain⟨xk0,xl5⟩:=Blk.k2 B3.out;have B2:=hqZ (Blk.next B0.out hf (by show ¬ _;omega));clear B0;obtain⟨xk2,xl6⟩:=Blk.k2 B2.out;have B0:=hqZ (Blk.next B1.out hf (by show ¬ _;omega));clear B1;obtain⟨xk14,xl7⟩:=Blk.k6 B0.out;clear hf;clear xk4 xk6 xk8))
   go_wp2
   refine bodyPost_ret (v:=(.tuple #[.agg #[.string s1,.string s2],.iface t u])) (by simp only[results,Tryz.results85];go_simp) rfl ?_
   rw[ER.out,hr]
   exact⟨_,t,u,⟨_,_,rfl⟩,rfl,by exact((T1.out.set (.inr (Nat.le_refl _))).set (.inr (Nat.le_refl _)))⟩
  | ok s ts1 =>
   (go_wp2_with fail;refine(got (GotE pb tb) (ib HS.out _ pb tb _ _ ?_ hz1 HN1.out) hr).mono ?_;(all_goals try exact P1.out);rintro e w5 ⟨rfl,hp,hf⟩;(have xs4:=Fr.size hf;have T1:=hqZ (Fr.trans T0.out hf);clear T0;clear P1;have B3:=hqZ (Blk.next B2.out hf (by show ¬ _;omega));clear B2;obtain⟨xk0,xl5⟩:=Blk.k2 B3.out;have B2:=hqZ (Blk.next B0.out hf (by show ¬ _;omega));clear B0;obtain⟨xk2,xl6⟩:=Blk.k2 B2.out;have B0:=hqZ (Blk.next B1.out hf (by show ¬ _;omega));clear B1;obtain⟨xk14,xl7⟩:=Blk.k6 B0.out;have P0:=hqZ hp;clear hp;clear hf;clear xk4 xk6 xk8))
   go_wp2
   refine bodyPost_ret (v:=(.tuple #[.agg #[.string s.1,.string s.2],.nilIface])) (by simp only[results,Tryz.results85];go_simp) rfl ?_
   rw[ER.out,hr]
   exact⟨rfl,by exact PSt.over (w0:=w) P0.out ((Fr.r.set (.inl (by omega))).set (.inl (by omega))) ltp ltt,by exact((T1.out.set (.inr (Nat.le_refl _))).set (.inr (Nat.le_refl _)))⟩
theorem Acc.run{α:Type}{E:World->(Nat->Prop)->α->List Value->Prop}{size:Nat}[h:bq E size]{T e:TypeId}{bytes:Nat}(hT:ElT T e size bytes){w:World}(ty:TypeId){Z Zy:Nat->Prop}{v:Value}{l:List α}(hacc:Acc E w Z v l e size)
  {g c:Nat} {y:α} {news:List Value} {e':TypeId} (hblk:Blk w g news.toArray e') (hy:E w Zy y news) (hZ:∀ k,k < w.heap.size->Zy k->Z k/\v.ownBlock ≠ some k) (hnew:Z w.heap.size) (hlen:l.length<=1000000) {S:Nat->Prop} (hS:∀ k,v.ownBlock=some k->S k) :
  ∃ v' w',(Builtin.append_ #[T,T] ty #[v,.slice (some ⟨g,0,none⟩) 1 c]).run Tryz.prog w = .ok v' w'/\Acc E w' Z v' (l ++ [y]) e size/\Fr S w w':=by
 obtain⟨i,z,i1,i2,i3,i4,i5⟩:=hT.hi
 obtain⟨xs,h1,h2,h3⟩:=hacc
 have hl:=h.len hy
 have hfin:∀ v' w',w'.ownsRow 0 e size v' (l.length+1) (xs++news)->w.grownBy w' v.ownBlock->(v'.ownBlock=v.ownBlock\/v'.ownBlock=some w.heap.size)->Acc E w' Z v' (l ++ [y]) e size:=by
  intro v' w' k1 k2 k4
  have hfr:Fr (fun k=>v.ownBlock=some k) w w':=Fr.of_grown k2 (fun k e=>e)
  have hne:∀ g,g < w.heap.size->v.ownBlock ≠ some g->v'.ownBlock ≠ some g:=by
   intro g hg hn
   rcases k4 with e|e
   .rw[e];exact hn
   .rw[e];intro e';cases e';omega
  have hA:EL E w (fun g=>(Z g/\v'.ownBlock ≠ some g)/\v.ownBlock ≠ some g) l xs:=EL.mono h h3 (fun g hg hz=>⟨⟨hz.1,hne g hg hz.2⟩,hz.2⟩)
  have hB:E w (fun g=>(Z g/\v'.ownBlock ≠ some g)/\v.ownBlock ≠ some g) y news:=h.mono hy (fun g hg hz=>⟨⟨(hZ g hg hz).1,hne g hg (hZ g hg hz).2⟩,(hZ g hg hz).2⟩)
  have hA':=EL.mono h (EL.frame h hA hfr (fun g hg _ e=>hg.2 e)) (Z':=fun g=>Z g/\v'.ownBlock ≠ some g) (fun g _ hg=>hg.1)
  have hB':=h.mono (h.frame hB hfr (fun g hg _ e=>hg.2 e)) (Z':=fun g=>Z g/\v'.ownBlock ≠ some g) (fun g _ hg=>hg.1)
  refine⟨xs++news,?_,?_,EL.snoc hA' hB'⟩
  .rw[List.length_append,List.length_singleton];exact k1
  .intro k hk'
   rcases k4 with e|e
   .exact h2 k (e ▸ hk')
   .rw[e]at hk';cases hk';exact hnew
 obtain⟨v',w',hr,k1,k2,_,k4⟩:=run_append_own_at (P:=Tryz.prog) w 0 T ty e i z size bytes hT.ht i1 i2 i3 i4 i5 hT.hsz v l.length xs h1 ⟨g,0,none⟩ 1 c news (by omega) (fun j u hu=>by
  have:=hblk.cell j u (by simpa using hu)
  rw[show(⟨g,0,none⟩:Addr).add j=(⟨g,j,none⟩:Addr)from by unfold Addr.add;split <;> simp_all]
  exact this) (h.one hy) (by unfold maxLen;omega) (by
  have:=hT.hb
  have h3:(l.length+1) * bytes<=1000001 * 1000:=Nat.mul_le_mul (by omega) this
  omega) (Nat.zero_le _)
 exact⟨v',w',hr,hfin v' w' k1 k2 k4,Fr.of_grown k2 (fun k e=>hS k e)⟩
theorem Acc.pushStep{α:Type}{E:World->(Nat->Prop)->α->List Value->Prop}{size:Nat}[h:bq E size]{T e:TypeId}{bytes:Nat}(hT:ElT T e size bytes){w:World}{ops:Array Oper}{o:Oper}{a:Act}{K:Act->World->Prop}{Q:Exit->Act->World->Prop}{E0:Prop}(hgd:o.guard=none)(s x:Operand)
  (ho:o.op=Op.call { callee:=Callee.builtin Builtin.append,args:=#[s,x],argTypes:=#[T,T] }) {Z Zy:Nat->Prop} {v:Value} {l:List α} (hs:a.eval s=v) (hacc:Acc E w Z v l e size)
  {g c:Nat} (hx:a.eval x = .slice (some ⟨g,0,none⟩) 1 c) {y:α} {news:List Value} {e':TypeId} (hblk:Blk w g news.toArray e') (hy:E w Zy y news) (hZ:∀ k,k < w.heap.size->Zy k->Z k/\v.ownBlock ≠ some k) (hnew:Z w.heap.size) (hlen:l.length<=1000000) {S:Nat->Prop} (hS:∀ k,v.ownBlock=some k->S k)
  (hk:∀ v' w',Acc E w' Z v' (l ++ [y]) e size->Fr S w w'->K (a.put o.dst v') w'):if Region.wanted o (yielded ops a.tmps)=true then Oper.wp Tryz.prog o a w K Q else E0:=by
 have hw:Region.wanted o (yielded ops a.tmps)=true:=by simp[Region.wanted,hgd]
 rw[if_pos hw]
 obtain⟨v',w',hrun,k1,k2⟩:=Acc.run hT o.type hacc (c:=c) hblk hy hZ hnew hlen hS
 unfold Oper.wp
 simp[execOp,ho,resolve,invoke,builtin,hs,hx,hrun,Result.andThen]
 exact hk v' w' k1 k2
def ei (w:World)(Z:Nat->Prop)(x:Bool × Ex)(cs:List Value):Prop:=∃ t u,cs = [.bool (!x.1),.iface t u]/\Rep w Z x.2 (.iface t u)
instance condOK:bq ei 2 where
 frame:=fun⟨t,u,e,h⟩ hf hS=>⟨t,u,e,h.frame hf hS⟩
 mono:=fun⟨t,u,e,h⟩ hS=>⟨t,u,e,Rep.mono hS h⟩
 len:=fun⟨t,u,e,h⟩=>by rw[e];rfl
 one:=fun⟨t,u,e,h⟩ v hv=>by rw[e]at hv;simp at hv;rcases hv with rfl|rfl <;> rfl
theorem condT:ElT 104 130 2 24:=⟨by kernel_rfl,by
 have h:(Tryz.prog.info? 130).map (fun i=>(i.zero.map (·.cells.size),i.size,i.bytes))=some (some 2,2,24):=by kernel_rfl
 obtain⟨i,hi⟩:∃ i,Tryz.prog.info? 130=some i:=by cases hh:Tryz.prog.info? 130 with|none=>rw[hh]at h;cases h|some i=>exact⟨i,rfl⟩
 rw[hi]at h
 simp at h
 obtain⟨⟨z,hz,hc⟩,h1,h2⟩:=h
 exact⟨i,z,hi,hz,h1,h2,hc⟩,by decide,by decide⟩
theorem Acc.form{α:Type}{E:World->(Nat->Prop)->α->List Value->Prop}{w:World}{Z:Nat->Prop}{v:Value}{l:List α}{e:TypeId}{size:Nat}(h:Acc E w Z v l e size):∃ A n cap,v = .slice A n cap:=by
 obtain⟨xs,h1,_⟩:=h
 rcases h1.2 with ⟨e,h⟩|⟨g,cap',cur,e,_⟩
 .exact⟨none,0,0,e⟩
 .exact⟨_,_,_,e⟩
theorem qU(w:World)(qb:Nat)(Z Zy:Nat->Prop)(c0 c1 c2 c3 c4 c6 c7 c8 c9:Value)(A:Option Addr)(n cap:Nat)(l:List (Bool × Ex))(x:Ex)(t:TypeId)(u:Value)(hb:Blk w qb #[c0,c1,c2,c3,c4,.slice A n cap,c6,c7,c8,c9] 120)
  (hacc:Acc ei w Z (.slice A n cap) l 130 2) (hx:Rep w Zy x (.iface t u)) (hZy:∀ k,Zy k->Z k/\(Value.slice A n cap).ownBlock ≠ some k) (hlen:l.length<=100000) (hZ:∀ g,w.heap.size<=g->Z g) (hq:¬ Z qb) :
  Calls Tryz.prog 100 #[.pointer (some ⟨qb,0,none⟩),.agg #[.iface t u]] w fun e w'=>e = .returned (.pointer (some ⟨qb,0,none⟩))/\∃ (A':Option Addr) (n' cap':Nat),Blk w' qb #[c0,c1,c2,c3,c4,.slice A' n' cap',c6,c7,c8,c9] 120 /\
   Acc ei w' Z (.slice A' n' cap') (l ++ [(false,x)]) 130 2/\Fr (fun g=>Z g\/g=qb) w w':=by
 have ltq:=hb.lt
 have T0:=hqZ (Fr.refl (fun g=>Z g\/g=qb) w)
 have B0:=hqZ hb
 have xc0:=hb.cell 5 _ rfl
 have xf0:=hb.free 5
 have HV:=hqZ hacc.lt
 have HA:=hqZ hacc
 have HX:=hqZ hx
 have HZ:=hqZ hZ
 have HY:=hqZ hZy
 have HQ:=hqZ hq
 clear hb hacc hx hZ hZy hq
 go_enter Tryz.func100,Tryz.ntmps100
 go_wp2
 go_region_law (refine Acc.pushStep (E:=ei) (Z:=Z) (Zy:=Zy) (S:=Z) condT rfl (.tmp 9) (.tmp 13) rfl (v:=.slice A n cap) (l:=l) rfl (by exact(Acc.carry HA.out ((Fr.r.alloc _).alloc _).drew)) rfl (y:=(false,x)) (news:=[.bool true,.iface t u]) (by exact(Blk.at_ _ _ _ (n:=w.heap.size+1) (by simp only[aa,ae,ad,af])).drew) ⟨t,u,rfl,by exact(Rep.carry HX.out ((Fr.r.alloc _).alloc _).drew)⟩ (fun k _ hk=>HY.out k hk) (HZ.out _ (by simp only[aa,ae,ad,af];omega)) (by omega) (fun b e=>(HV.out b e).2) ?_;intro v' w' hacc hf;(obtain⟨A',n',cap',rfl⟩:=hacc.form);have HB2:=hqZ (Blk.next (b:=qb) (cs:=#[c0,c1,c2,c3,c4,.slice A n cap,c6,c7,c8,c9]) (t:=120) (by exact((B0.out.alloc _).alloc _).drew) hf HQ.out);have HA2:=hqZ hacc;have HF2:=hqZ (Fr.trans (by exact((T0.out.alloc _).alloc _).drew:Fr (fun g=>Z g\/g=qb) w _) (hf.mono (fun _ _ h=>.inl h)));have xc9:=HB2.out.cell 5 _ rfl;have xf9:=HB2.out.free 5;have xl9:=HB2.out.lt;clear hacc hf xc0 xf0)
 all_goals
  go_wp2
  go_ret
  exact⟨rfl,A',n',cap',by exact(Blk.set HB2.out 5 _ (cs':=#[c0,c1,c2,c3,c4,.slice A' n' cap',c6,c7,c8,c9]) rfl),Acc.carry HA2.out (Fr.r.set (.inl HQ.out)),HF2.out.set (.inl (.inr rfl))⟩
theorem nJ(w:World)(qb:Nat)(Z Zy:Nat->Prop)(c0 c1 c2 c3 c4 c6 c7 c8 c9:Value)(A:Option Addr)(n cap:Nat)(l:List (Bool × Ex))(x:Ex)(t:TypeId)(u:Value)(hb:Blk w qb #[c0,c1,c2,c3,c4,.slice A n cap,c6,c7,c8,c9] 120)
  (hacc:Acc ei w Z (.slice A n cap) l 130 2) (hx:Rep w Zy x (.iface t u)) (hZy:∀ k,Zy k->Z k/\(Value.slice A n cap).ownBlock ≠ some k) (hlen:l.length<=100000) (hZ:∀ g,w.heap.size<=g->Z g) (hq:¬ Z qb) :
  Calls Tryz.prog 101 #[.pointer (some ⟨qb,0,none⟩),.agg #[.iface t u]] w fun e w'=>e = .returned (.pointer (some ⟨qb,0,none⟩))/\∃ (A':Option Addr) (n' cap':Nat),Blk w' qb #[c0,c1,c2,c3,c4,.slice A' n' cap',c6,c7,c8,c9] 120 /\
   Acc ei w' Z (.slice A' n' cap') (l ++ [(true,x)]) 130 2/\Fr (fun g=>Z g\/g=qb) w w':=by
 have ltq:=hb.lt
 have T0:=hqZ (Fr.refl (fun g=>Z g\/g=qb) w)
 have B0:=hqZ hb
 have xc0:=hb.cell 5 _ rfl
 have xf0:=hb.free 5
 have HV:=hqZ hacc.lt
 have HA:=hqZ hacc
 have HX:=hqZ hx
 have HZ:=hqZ hZ
 have HY:=hqZ hZy
 have HQ:=hqZ hq
 clear hb hacc hx hZ hZy hq
 go_enter Tryz.func101,Tryz.ntmps101
 go_wp2
 go_region_law (refine Acc.pushStep (E:=ei) (Z:=Z) (Zy:=Zy) (S:=Z) condT rfl (.tmp 9) (.tmp 13) rfl (v:=.slice A n cap) (l:=l) rfl (by exact(Acc.carry HA.out ((Fr.r.alloc _).alloc _).drew)) rfl (y:=(true,x)) (news:=[.bool false,.iface t u]) (by exact(Blk.at_ _ _ _ (n:=w.heap.size+1) (by simp only[aa,ae,ad,af])).drew) ⟨t,u,rfl,by exact(Rep.carry HX.out ((Fr.r.alloc _).alloc _).drew)⟩ (fun k _ hk=>HY.out k hk) (HZ.out _ (by simp only[aa,ae,ad,af];omega)) (by omega) (fun b e=>(HV.out b e).2) ?_;intro v' w' hacc hf;(obtain⟨A',n',cap',rfl⟩:=hacc.form);have HB2:=hqZ (Blk.next (b:=qb) (cs:=#[c0,c1,c2,c3,c4,.slice A n cap,c6,c7,c8,c9]) (t:=120) (by exact((B0.out.alloc _).alloc _).drew) hf HQ.out);have HA2:=hqZ hacc;have HF2:=hqZ (Fr.trans (by exact((T0.out.alloc _).alloc _).drew:Fr (fun g=>Z g\/g=qb) w _) (hf.mono (fun _ _ h=>.inl h)));have xc9:=HB2.out.cell 5 _ rfl;have xf9:=HB2.out.free 5;have xl9:=HB2.out.lt;clear hacc hf xc0 xf0)
 all_goals
  go_wp2
  go_ret
  exact⟨rfl,A',n',cap',by exact(Blk.set HB2.out 5 _ (cs':=#[c0,c1,c2,c3,c4,.slice A' n' cap',c6,c7,c8,c9]) rfl),Acc.carry HA2.out (Fr.r.set (.inl HQ.out)),HF2.out.set (.inl (.inr rfl))⟩
theorem el(w:World):Calls Tryz.prog 151 #[.agg #[]] w fun e w'=>e = .returned (.agg #[])/\New w w':=by
 have T0:=hqZ (Fr.refl (fun _=>False) w)
 go_enter Tryz.func151,Tryz.ntmps151
 go_wp2
 refine bodyPost_ret (v:=(.agg #[])) (by simp only[results,Tryz.results151];go_simp) rfl ?_
 exact⟨rfl,by exact((T0.out.alloc _).alloc _)⟩
theorem jo(w:World)(b:Bool)(A:Option Addr)(n cap:Nat):Calls Tryz.prog 126 #[.bool b,.slice A n cap] w fun e w'=>∃ q,e = .returned (.pointer (some ⟨q,0,none⟩))/\w.heap.size<=q/\Blk w' q #[.bool b,.slice A n cap,.iface 312 (.agg #[]),.iface 312 (.agg #[]),.iface 312 (.agg #[]),.slice none 0 0,.string ⟨#[]⟩,.int .i64 0,.int .i64 0,.int .i64 0] 120/\New w w':=by
 have T0:=hqZ (Fr.refl (fun _=>False) w)
 go_enter Tryz.func126,Tryz.ntmps126
 (go_wp2_with fail;refine(el _).mono ?_;rintro e w1 ⟨rfl,hf⟩;(have xs0:=Fr.size hf;have T1:=hqZ (Fr.transN T0.out hf);clear T0;clear hf))
 (go_wp2_with fail;refine(el _).mono ?_;rintro e w2 ⟨rfl,hf⟩;(have xs2:=Fr.size hf;have T0:=hqZ (Fr.transN T1.out hf);clear T1;clear hf))
 (go_wp2_with fail;refine(el _).mono ?_;rintro e w3 ⟨rfl,hf⟩;(have xs4:=Fr.size hf;have T1:=hqZ (Fr.transN T0.out hf);clear T0;clear hf))
 go_wp2
 go_ret
 exact⟨_,rfl,by omega,by exact(Blk.at_ _ _ _ (n:=w3.heap.size) rfl),by exact(T1.out.alloc _)⟩
theorem nW(w:World)(ab:Nat)(A:Option Addr)(n cap:Nat)(hb:Blk w ab #[.slice A n cap] 140):Calls Tryz.prog 82 #[.pointer (some ⟨ab,0,none⟩)] w fun e w'=>∃ q,e = .returned (.pointer (some ⟨q,0,none⟩))/\w.heap.size<=q/\Blk w' q #[.bool true,.slice A n cap,.iface 312 (.agg #[]),.iface 312 (.agg #[]),.iface 312 (.agg #[]),.slice none 0 0,.string ⟨#[]⟩,.int .i64 0,.int .i64 0,.int .i64 0] 120/\New w w':=by
 have T0:=hqZ (Fr.refl (fun _=>False) w)
 have B0:=hqZ hb
 have xc0:=hb.cell 0 _ rfl
 have xl0:=hb.lt
 clear hb
 go_enter Tryz.func82,Tryz.ntmps82
 go_wp2_with fail
 refine(jo _ _ _ _ _).mono ?_
 rintro e w1 ⟨q,rfl,hq,hbq,hf⟩
 have HB:=hqZ hbq
 have HF:=hqZ hf
 have xs1:=hf.size
 have HQ:=hqZ hq
 clear hbq hf hq
 go_wp2
 go_ret
 exact⟨q,rfl,HQ.out,HB.out,HF.out⟩
theorem ov(w:World)(ab:Nat)(A:Option Addr)(n cap:Nat)(hb:Blk w ab #[.slice A n cap] 140):Calls Tryz.prog 83 #[.pointer (some ⟨ab,0,none⟩)] w fun e w'=>∃ q,e = .returned (.pointer (some ⟨q,0,none⟩))/\w.heap.size<=q/\Blk w' q #[.bool false,.slice A n cap,.iface 312 (.agg #[]),.iface 312 (.agg #[]),.iface 312 (.agg #[]),.slice none 0 0,.string ⟨#[]⟩,.int .i64 0,.int .i64 0,.int .i64 0] 120/\New w w':=by
 have T0:=hqZ (Fr.refl (fun _=>False) w)
 have B0:=hqZ hb
 have xc0:=hb.cell 0 _ rfl
 have xl0:=hb.lt
 clear hb
 go_enter Tryz.func83,Tryz.ntmps83
 go_wp2_with fail
 refine(jo _ _ _ _ _).mono ?_
 rintro e w1 ⟨q,rfl,hq,hbq,hf⟩
 have HB:=hqZ hbq
 have HF:=hqZ hf
 have xs1:=hf.size
 have HQ:=hqZ hq
 clear hbq hf hq
 go_wp2
 go_ret
 exact⟨q,rfl,HQ.out,HB.out,HF.out⟩
def pj (pb tb:Nat)(A:Option Addr)(n cap:Nat)(w:World)(r:PR Bool)(e:Ending)(w':World):Prop :=
 match r with
 | .ok b ts=>∃ q,e = .returned (.tuple #[.pointer (some ⟨q,0,none⟩),.nilIface])/\w.heap.size<=q/\Blk w' q #[.bool (!b),.slice A n cap,.iface 312 (.agg #[]),.iface 312 (.agg #[]),.iface 312 (.agg #[]),.slice none 0 0,.string ⟨#[]⟩,.int .i64 0,.int .i64 0,.int .i64 0] 120/\PSt w' pb tb ts/\Fr (· = pb) w w'
 | .bad=>∃ (t:TypeId) (u:Value),e = .returned (.tuple #[.pointer none,.iface t u])/\Fr (· = pb) w w'
 | .out=>True
theorem ic(w:World)(pb tb ab:Nat)(A:Option Addr)(n cap:Nat)(ts:List Tok)(h:PSt w pb tb ts)(hb:Blk w ab #[.slice A n cap] 140)(hpa:pb < ab) :
  Calls Tryz.prog 63 #[.pointer (some ⟨pb,0,none⟩),.pointer (some ⟨ab,0,none⟩)] w (pj pb tb A n cap w (cD ts)):=by
 have hft:=aq
 have ltp:=h.lt
 have ltt:=h.lt2
 have lta:=hb.lt
 have P0:=hqZ h
 have B0:=hqZ hb
 have T0:=hqZ (Fr.refl (· = pb) w)
 clear h hb
 go_enter Tryz.func63,Tryz.ntmps63
 (go_wp2_with fail;refine(ag _ pb tb ts ?_).mono ?_;(all_goals try exact P0.out);rintro e w1 ⟨⟨o,l,c,rfl⟩,hp,hf⟩;(have xs0:=Fr.size hf;have T1:=hqZ (Fr.trans T0.out hf);clear T0;clear P0;have B1:=hqZ (Blk.next B0.out hf (by show ¬ _;omega));clear B0;obtain⟨xk0,xl0⟩:=Blk.k1 B1.out;have P0:=hqZ hp;clear hp;clear hf))
 cases q1:((hd ts).text.toList == [112,101,114,109,105,116])
 case true =>
  have ER:=hqZ (show cD ts = .ok false (adv ts)from by unfold cD Tok.is;rw[if_pos q1])
  (go_wp2_with fail;refine(nW _ ab A n cap (by exact(B1.out.alloc _))).mono ?_;rintro e w2 ⟨q,rfl,hql,hbq,hf⟩;(have xs2:=Fr.size hf;simp only[aa,ae,ad,af]at xs2;have T0:=hqZ (Fr.transN (T1.out.alloc _) hf);clear T1;have P1:=hqZ (PSt.new (PSt.over (w0:=w) P0.out (Fr.r.alloc _) ltp ltt) hf);clear P0;have B0:=hqZ (Blk.next (B1.out.alloc _) hf id);clear B1;obtain⟨xk1,xl1⟩:=Blk.k1 B0.out;have B1:=hqZ (Blk.next (Blk.at_ _ _ _ (n:=w1.heap.size) rfl) hf id);obtain⟨xk2,xl2⟩:=Blk.k6 B1.out;have B2:=hqZ hbq;obtain⟨xk8,xl3⟩:=Blk.k10 B2.out;clear hbq;clear hf;clear xk0))
  have HQ:=hqZ hql
  clear hql
  go_wp2
  go_ret2
  rw[ER.out]
  exact⟨q,rfl,by have:=HQ.out;simp only[aa,ae,ad,af]at this;omega,by exact B2.out,by exact P1.out,by exact T0.out⟩
 cases q2:((hd ts).text.toList == [102,111,114,98,105,100])
 case true =>
  have ER:=hqZ (show cD ts = .ok true (adv ts)from by unfold cD Tok.is;rw[if_neg (by simp[q1]),if_pos q2])
  (go_wp2_with fail;refine(ov _ ab A n cap (by exact(B1.out.alloc _))).mono ?_;rintro e w2 ⟨q,rfl,hql,hbq,hf⟩;(have xs2:=Fr.size hf;simp only[aa,ae,ad,af]at xs2;have T0:=hqZ (Fr.transN (T1.out.alloc _) hf);clear T1;have P1:=hqZ (PSt.new (PSt.over (w0:=w) P0.out (Fr.r.alloc _) ltp ltt) hf);clear P0;have B0:=hqZ (Blk.next (B1.out.alloc _) hf id);clear B1;obtain⟨xk1,xl1⟩:=Blk.k1 B0.out;have B1:=hqZ (Blk.next (Blk.at_ _ _ _ (n:=w1.heap.size) rfl) hf id);obtain⟨xk2,xl2⟩:=Blk.k6 B1.out;have B2:=hqZ hbq;obtain⟨xk8,xl3⟩:=Blk.k10 B2.out;clear hbq;clear hf;clear xk0))
  have HQ:=hqZ hql
  clear hql
  go_wp2
  go_ret2
  rw[ER.out]
  exact⟨q,rfl,by have:=HQ.out;simp only[aa,ae,ad,af]at this;omega,by exact B2.out,by exact P1.out,by exact T0.out⟩
 have ER:=hqZ (show cD ts = .bad from by unfold cD Tok.is;rw[if_neg (by simp[q1]),if_neg (by simp[q2])])
 (go_wp2_with fail;refine(ax _ pb tb (adv ts) _ _ ?_).mono ?_;(all_goals try exact PSt.over (w0:=w) P0.out ((Fr.r.alloc _).alloc _) ltp ltt);rintro e w2 ⟨⟨t,u,rfl⟩,hf⟩;(have xs2:=Fr.size hf;simp only[aa,ae,ad,af]at xs2;have T0:=hqZ (Fr.transN ((T1.out.alloc _).alloc _) hf);clear T1;have P1:=hqZ (PSt.new (PSt.over (w0:=w) P0.out ((Fr.r.alloc _).alloc _) ltp ltt) hf);clear P0;have B0:=hqZ (Blk.next ((B1.out.alloc _).alloc _) hf id);clear B1;obtain⟨xk1,xl1⟩:=Blk.k1 B0.out;have B1:=hqZ (Blk.next ((Blk.at_ _ _ _ (n:=w1.heap.size) rfl).alloc _) hf id);obtain⟨xk2,xl2⟩:=Blk.k6 B1.out;have B2:=hqZ (Blk.next (Blk.at_ _ _ _ (n:=w1.heap.size+1) (by simp only[aa,ae,ad,af])) hf id);obtain⟨xk8,xl3⟩:=Blk.k1 B2.out;clear hf;clear xk0))
 go_wp2
 go_ret2
 rw[ER.out]
 exact⟨t,u,rfl,by exact T0.out⟩
def GotC (pb tb:Nat)(w:World)(r:PR Ex)(e:Ending)(w':World):Prop :=
 match r with
 | .ok x ts=>∃ (t:TypeId) (u:Value),e = .returned (.tuple #[.agg #[.iface t u],.nilIface])/\Rep w' (w.heap.size <= ·) x (.iface t u)/\PSt w' pb tb ts/\Fr (· = pb) w w'
 | .bad=>∃ (v:Value) (t:TypeId) (u:Value),(v = .nilIface\/∃ (t2:TypeId) (u2:Value),v = .iface t2 u2)/\e = .returned (.tuple #[.agg #[v],.iface t u])/\Fr (· = pb) w w'
 | .out=>True
theorem gotP{α:Type}(G:World->PR α->Ending->World->Prop){p:Program}{f:FuncId}{a:Array Value}{w:World}{r r':PR α}(h:Calls p f a w (G w r))(e:r=r'):Calls p f a w (G w r'):=e ▸ h
theorem cU(E:List Tok->PR Ex)(hE:Does 135 E)(w:World)(pb tb:Nat)(ts:List Tok)(h:PSt w pb tb ts)(hne:bV E ts ≠ .out) :
  Calls Tryz.prog 99 #[.pointer (some ⟨pb,0,none⟩)] w (GotC pb tb w (bV E ts)):=by
 have hft:=aq
 have ltp:=h.lt
 have ltt:=h.lt2
 have P0:=hqZ h
 have T0:=hqZ (Fr.refl (· = pb) w)
 have HN:=hqZ hne
 have HE:=hqZ hE
 clear h hne hE
 go_enter Tryz.func99,Tryz.ntmps99
 cases q1:((hd ts).text.toList == [123])
 case false =>
  have ER:=hqZ (show bV E ts = .bad from by simp[bV,ak,Tok.is,q1,PR.bind])
  (go_wp2_with fail;refine(bf _ pb tb ts [123] ?_ q1).mono ?_;(all_goals try exact PSt.over (w0:=w) P0.out ((Fr.r.alloc _).alloc _) ltp ltt);rintro e w1 ⟨⟨t,u,rfl⟩,hf⟩;(have xs0:=Fr.size hf;simp only[aa,ae,ad,af]at xs0;have T1:=hqZ (Fr.trans ((T0.out.alloc _).alloc _) hf);clear T0;clear P0;have B0:=hqZ (Blk.next ((Blk.at_ _ _ _ (n:=w.heap.size) rfl).alloc _) hf (by show ¬ _;omega));obtain⟨xk0,xl0⟩:=Blk.k1 B0.out;have B1:=hqZ (Blk.next (Blk.at_ _ _ _ (n:=w.heap.size+1) (by simp only[aa,ae,ad,af])) hf (by show ¬ _;omega));obtain⟨xk1,xl1⟩:=Blk.k1 B1.out;clear hf))
  go_wp2
  refine bodyPost_ret (v:=(.tuple #[.agg #[.nilIface],.iface t u])) (by simp only[results,Tryz.results99];go_simp) rfl ?_
  rw[ER.out]
  exact⟨_,t,u,.inl rfl,rfl,by exact(T1.out.set (.inr (Nat.le_refl _)))⟩
 have E1:=hqZ (show bV E ts=(E (adv ts)).bind fun x ts2=>(ak [125] ts2).bind fun _ ts3=>.ok x ts3 from by simp[bV,ak,Tok.is,q1,PR.bind])
 (go_wp2_with fail;refine(aQ _ pb tb ts [123] ?_ q1).mono ?_;(all_goals try exact PSt.over (w0:=w) P0.out ((Fr.r.alloc _).alloc _) ltp ltt);rintro e w1 ⟨rfl,hp,hf⟩;(have xs0:=Fr.size hf;simp only[aa,ae,ad,af]at xs0;have T1:=hqZ (Fr.trans ((T0.out.alloc _).alloc _) hf);clear T0;clear P0;have B0:=hqZ (Blk.next ((Blk.at_ _ _ _ (n:=w.heap.size) rfl).alloc _) hf (by show ¬ _;omega));obtain⟨xk0,xl0⟩:=Blk.k1 B0.out;have B1:=hqZ (Blk.next (Blk.at_ _ _ _ (n:=w.heap.size+1) (by simp only[aa,ae,ad,af])) hf (by show ¬ _;omega));obtain⟨xk1,xl1⟩:=Blk.k1 B1.out;have P0:=hqZ hp;clear hp;clear hf))
 cases hs:E (adv ts)with
 | out=>exact absurd (by rw[E1.out,hs];rfl) HN.out
 | bad =>
  (go_wp2_with fail;refine(HE.out.bad (tb:=tb) ?_ hs).mono ?_;(all_goals try exact P0.out);rintro e w2 ⟨t,u,rfl,hf⟩;(have xs2:=Fr.size hf;have T0:=hqZ (Fr.trans T1.out hf);clear T1;clear P0;have B2:=hqZ (Blk.next B0.out hf (by show ¬ _;omega));clear B0;obtain⟨xk2,xl2⟩:=Blk.k1 B2.out;have B0:=hqZ (Blk.next B1.out hf (by show ¬ _;omega));clear B1;obtain⟨xk3,xl3⟩:=Blk.k1 B0.out;clear hf;clear xk0 xk1))
  go_wp2
  refine bodyPost_ret (v:=(.tuple #[.agg #[.nilIface],.iface t u])) (by simp only[results,Tryz.results99];go_simp) rfl ?_
  rw[E1.out,hs]
  exact⟨_,t,u,.inl rfl,rfl,by exact((T0.out.set (.inr (by omega))).set (.inr (Nat.le_refl _)))⟩
 | ok x ts1 =>
  have E2:=hqZ (show bV E ts=(ak [125] ts1).bind fun _ ts3=>.ok x ts3 from by rw[E1.out,hs];rfl)
  (go_wp2_with fail;refine(HE.out.ok (tb:=tb) ?_ hs).mono ?_;(all_goals try exact P0.out);rintro e w2 ⟨t2,u2,rfl,hx,hp,hf⟩;(have xs2:=Fr.size hf;have T0:=hqZ (Fr.trans T1.out hf);clear T1;clear P0;have B2:=hqZ (Blk.next B0.out hf (by show ¬ _;omega));clear B0;obtain⟨xk2,xl2⟩:=Blk.k1 B2.out;have B0:=hqZ (Blk.next B1.out hf (by show ¬ _;omega));clear B1;obtain⟨xk3,xl3⟩:=Blk.k1 B0.out;have X0:=hqZ (Rep.mono (Z':=fun g=>w1.heap.size<=g/\g < w2.heap.size) (hZ:=fun g h1 h2=>⟨h2,h1⟩) (h:=hx));clear hx;have P0:=hqZ hp;clear hp;clear hf;clear xk0 xk1))
  clear hs
  cases q2:((hd ts1).text.toList == [125])
  case false =>
   have ER:=hqZ (show bV E ts = .bad from by rw[E2.out];simp[ak,Tok.is,q2,PR.bind])
   (go_wp2_with fail;refine(bf _ pb tb ts1 [125] ?_ q2).mono ?_;(all_goals try exact PSt.over (w0:=w) P0.out (Fr.r.set (.inl (by omega))) ltp ltt);rintro e w3 ⟨⟨t,u,rfl⟩,hf⟩;(have xs4:=Fr.size hf;simp only[aa,ae,ad,af]at xs4;have T1:=hqZ (Fr.trans (T0.out.set (.inr (by omega))) hf);clear T0;clear P0;have B1:=hqZ (Blk.next (Blk.far B2.out (by omega)) hf (by show ¬ _;omega));clear B2;obtain⟨xk0,xl4⟩:=Blk.k1 B1.out;have B2:=hqZ (Blk.next B0.out.s10 hf (by show ¬ _;omega));clear B0;obtain⟨xk1,xl5⟩:=Blk.k1 B2.out;have X1:=hqZ (Rep.carry X0.out (Fr.trans' (Fr.r.set (.inl (by omega))) hf (fun k _ hs=>by omega)));clear X0;clear hf;clear xk2 xk3))
   go_wp2
   refine bodyPost_ret (v:=(.tuple #[.agg #[.iface t2 u2],.iface t u])) (by simp only[results,Tryz.results99];go_simp) rfl ?_
   rw[ER.out]
   exact⟨_,t,u,.inr ⟨_,_,rfl⟩,rfl,by exact(T1.out.set (.inr (Nat.le_refl _)))⟩
  have ER:=hqZ (show bV E ts = .ok x (adv ts1)from by rw[E2.out];simp[ak,Tok.is,q2,PR.bind])
  (go_wp2_with fail;refine(aQ _ pb tb ts1 [125] ?_ q2).mono ?_;(all_goals try exact PSt.over (w0:=w) P0.out (Fr.r.set (.inl (by omega))) ltp ltt);rintro e w3 ⟨rfl,hp,hf⟩;(have xs4:=Fr.size hf;simp only[aa,ae,ad,af]at xs4;have T1:=hqZ (Fr.trans (T0.out.set (.inr (by omega))) hf);clear T0;clear P0;have B1:=hqZ (Blk.next (Blk.far B2.out (by omega)) hf (by show ¬ _;omega));clear B2;obtain⟨xk0,xl4⟩:=Blk.k1 B1.out;have B2:=hqZ (Blk.next B0.out.s10 hf (by show ¬ _;omega));clear B0;obtain⟨xk1,xl5⟩:=Blk.k1 B2.out;have X1:=hqZ (Rep.carry X0.out (Fr.trans' (Fr.r.set (.inl (by omega))) hf (fun k _ hs=>by omega)));clear X0;have P0:=hqZ hp;clear hp;clear hf;clear xk2 xk3))
  go_wp2
  refine bodyPost_ret (v:=(.tuple #[.agg #[.iface t2 u2],.nilIface])) (by simp only[results,Tryz.results99];go_simp) rfl ?_
  rw[ER.out]
  exact⟨_,_,rfl,by exact Rep.mono (h:=(Rep.carry X1.out (Fr.r.set (.inl (by omega))))) (hZ:=fun g _ hg=>by omega),by exact PSt.over (w0:=w) P0.out (Fr.r.set (.inl (by omega))) ltp ltt,by exact(T1.out.set (.inr (Nat.le_refl _)))⟩
end Go.Proofs.YtbdhlpeckennjaaGreatDoor
