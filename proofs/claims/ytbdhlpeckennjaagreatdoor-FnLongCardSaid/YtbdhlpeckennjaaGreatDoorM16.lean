/- FnLong (the proof that the law returns true for every input), part 16 of 52; the last part says what is proved, and its condition. -/
import Derived.Test.YtbdhlpeckennjaaGreatDoorM06
import Derived.Test.YtbdhlpeckennjaaGreatDoorM14
import Derived.Test.YtbdhlpeckennjaaGreatDoorM15
set_option linter.unusedVariables false
set_option linter.unusedSimpArgs false
set_option maxHeartbeats 80000000
set_option maxRecDepth 1000000
namespace Go.Proofs.YtbdhlpeckennjaaGreatDoor
open Go Go.RowKit
def Held {α:Type}(E:World->(Nat->Prop)->α->List Value->Prop)(w:World)(Z:Nat->Prop)(v:Value)(l:List α)(size:Nat):Prop:=∃ xs,Row w Z v l.length size xs/\EL E w Z l xs
theorem Held.carry{α:Type}{E:World->(Nat->Prop)->α->List Value->Prop}{size:Nat}[h:bq E size]{Z:Nat->Prop}{w w':World}{v:Value}{l:List α}(k:Held E w Z v l size)(hf:Fr (fun g=>¬ Z g) w w'):Held E w' Z v l size:=by
 obtain⟨xs,h1,h2⟩:=k
 exact⟨xs,h1.carry hf,h2.frame h hf (fun _ a _ b=>b a)⟩
theorem Held.mono{α:Type}{E:World->(Nat->Prop)->α->List Value->Prop}{size:Nat}[h':bq E size]{Z Z':Nat->Prop}{w:World}{v:Value}{l:List α}(h:Held E w Z v l size)(hZ:∀ g,g < w.heap.size->Z g->Z' g):Held E w Z' v l size:=by
 obtain⟨xs,h1,h2⟩:=h
 exact⟨xs,h1.mono hZ,h2.mono h' hZ⟩
theorem Acc.held{α:Type}{E:World->(Nat->Prop)->α->List Value->Prop}{size:Nat}[h:bq E size]{Z:Nat->Prop}{w:World}{v:Value}{l:List α}{e:TypeId}(k:Acc E w Z v l e size)(hl:l.length<=100000):Held E w Z v l size:=k.row hl
theorem PSt.frame15{w w':World}{pb tb:Nat}{ts:List Tok}{S:Nat->Prop}(h:PSt w pb tb ts)(hf:Fr S w w')(hp:¬ S pb)(ht:¬ S tb)(hg:∀ k,k < 15->¬ S k):PSt w' pb tb ts:=by
 obtain⟨n,cap,i,hb,hne,hlt,hts,hn,hb2,hc⟩:=h
 have hpb:pb < w.heap.size:=(Array.getElem?_eq_some_iff.1 hb).1
 refine⟨n,cap,i,(hf.block pb hpb hp).trans hb,hne,Nat.lt_of_lt_of_le hlt hf.size,hts,hn,⟨hb2.1,hb2.2.1.fr hf hg (by omega),hb2.2.2⟩,fun j t hj=>?_⟩
 obtain⟨o,l,c,c0,c1,c2,c3,c4,c5⟩:=hc j t hj
 have e:∀ k,w'.cell? ⟨tb,k,none⟩=w.cell? ⟨tb,k,none⟩:=fun k=>hf.cell (p:=⟨tb,k,none⟩) hlt ht
 exact⟨o,l,c,(e _).trans c0,(e _).trans c1,(e _).trans c2,(e _).trans c3,(e _).trans c4,(e _).trans c5⟩
theorem qJ(k o l c:Int)(f s:ByteArray)(w:World) :
  (Instr.field 95 (.agg #[.int .i64 k,.string f,.int .i64 o,.int .i64 l,.int .i64 c,.string s]) 1).run Tryz.prog w = .ok (.agg #[.string f,.int .i64 o,.int .i64 l,.int .i64 c]) w:=by kernel_rfl
def jQ (pb tb xb:Nat)(w:World)(r:PR Pol)(e:Ending)(w':World):Prop :=
 match r with
 | .ok p ts=>∃ (A:Option Addr) (n cap:Nat) (pt:TypeId) (pu:Value) (at':TypeId) (au:Value) (rt:TypeId) (ru:Value) (A2:Option Addr) (n2 cap2:Nat) (o l c:Int),e = .returned .nilIface /\
   Blk w' xb #[.bool (!p.forbid),.slice A n cap,.iface pt pu,.iface at' au,.iface rt ru,.slice A2 n2 cap2,.string ⟨#[]⟩,.int .i64 o,.int .i64 l,.int .i64 c] 107 /\
   Held dP w' (w.heap.size <= ·) (.slice A n cap) p.notes 2/\ScpR w' (w.heap.size <= ·) p.principal (.iface pt pu)/\ScpR w' (w.heap.size <= ·) p.action (.iface at' au)/\ScpR w' (w.heap.size <= ·) p.resource (.iface rt ru) /\
   Held ei w' (w.heap.size <= ·) (.slice A2 n2 cap2) p.conds 2/\PSt w' pb tb ts/\Fr (fun k=>k=pb\/k=xb) w w'
 | .bad=>∃ (t:TypeId) (u:Value),e = .returned (.iface t u)/\Fr (fun k=>k=pb\/k=xb) w w'
 | .out=>True
def polI (E:List Tok->PR Ex)(n:List (ByteArray × ByteArray))(f:Bool)(p a r:Scp)(ts9:List Tok):PR Pol:=(aj (aB E) [] ts9).bind fun c ts10=>(ak [59] ts10).bind fun _ ts11=>.ok ⟨f,n,p,a,r,c⟩ ts11
def polH (E:List Tok->PR Ex)(n:List (ByteArray × ByteArray))(f:Bool)(p a r:Scp)(ts8:List Tok):PR Pol:=(ak [41] ts8).bind fun _ ts9=>polI E n f p a r ts9
def polG (E:List Tok->PR Ex)(n:List (ByteArray × ByteArray))(f:Bool)(p a r:Scp)(ts7:List Tok):PR Pol:=(kt [44] ts7).bind fun _ ts8=>polH E n f p a r ts8
def polF (E:List Tok->PR Ex)(n:List (ByteArray × ByteArray))(f:Bool)(p a:Scp)(ts6:List Tok):PR Pol:=(whoP [114,101,115,111,117,114,99,101] ts6).bind fun r ts7=>polG E n f p a r ts7
def polE (E:List Tok->PR Ex)(n:List (ByteArray × ByteArray))(f:Bool)(p a:Scp)(ts5:List Tok):PR Pol:=(ak [44] ts5).bind fun _ ts6=>polF E n f p a ts6
def polD (E:List Tok->PR Ex)(n:List (ByteArray × ByteArray))(f:Bool)(p:Scp)(ts4:List Tok):PR Pol:=(cF ts4).bind fun a ts5=>polE E n f p a ts5
def polC (E:List Tok->PR Ex)(n:List (ByteArray × ByteArray))(f:Bool)(p:Scp)(ts3:List Tok):PR Pol:=(ak [44] ts3).bind fun _ ts4=>polD E n f p ts4
def polB (E:List Tok->PR Ex)(n:List (ByteArray × ByteArray))(f:Bool)(ts2:List Tok):PR Pol:=(whoP [112,114,105,110,99,105,112,97,108] ts2).bind fun p ts3=>polC E n f p ts3
def polA (E:List Tok->PR Ex)(n:List (ByteArray × ByteArray))(f:Bool)(ts1:List Tok):PR Pol:=(ak [40] ts1).bind fun _ ts2=>polB E n f ts2
theorem nR(E:List Tok->PR Ex)(ts:List Tok):polP E ts=(aj be [] ts).bind fun n ts0=>(cD ts0).bind fun f ts1=>polA E n f ts1:=rfl
theorem dG{α:Type}{l:List UInt8}{ts:List Tok}{f:Unit->List Tok->PR α}(h:((hd ts).text.toList == l)=true):(ak l ts).bind f=f () (adv ts):=by unfold ak Tok.is;rw[if_pos h];rfl
theorem cI{α:Type}{l:List UInt8}{ts:List Tok}{f:Unit->List Tok->PR α}(h:((hd ts).text.toList == l)=false):(ak l ts).bind f = .bad:=by unfold ak Tok.is;rw[if_neg (by simp[h])];rfl
theorem fw(hSV:cC)(E:List Tok->PR Ex)(hE:Does 135 E)(w:World)(pb tb xb:Nat)(ts:List Tok)(x0 x1 x2 x3 x4 x5 x6 x7 x8 x9:Value)(h:PSt w pb tb ts)(hb:Blk w xb #[x0,x1,x2,x3,x4,x5,x6,x7,x8,x9] 107)(hpx:xb ≠ pb)(hx15:15<=xb)(htx:tb ≠ xb)(hne:polP E ts ≠ .out) :
  Calls Tryz.prog 47 #[.pointer (some ⟨xb,0,none⟩),.pointer (some ⟨pb,0,none⟩)] w (jQ pb tb xb w (polP E ts)):=by
 have hft:=aq
 have hfp:=qJ
 have h15p:=h.glob.2
 have ltp:=h.lt
 have ltt:=h.lt2
 have ltx:=hb.lt
 have P0:=hqZ h
 have B0:=hqZ hb
 have T0:=hqZ (Fr.refl (fun k=>k=pb\/k=xb) w)
 have HN:=hqZ hne
 have HE:=hqZ hE
 have HS:=hqZ hSV
 clear h hne hE hb hSV
 go_enter Tryz.func47,Tryz.ntmps47
 (go_wp2_with fail;refine(ay _ pb tb ts ?_).mono ?_;(all_goals try exact P0.out);rintro e w1 ⟨⟨po,pl,pc,rfl⟩,hf⟩;(have xs0:=Fr.size hf;have T1:=hqZ (Fr.transN T0.out hf);clear T0;have P1:=hqZ (PSt.new (P0.out) hf);clear P0;have B1:=hqZ (Blk.next B0.out hf id);clear B0;obtain⟨xk0,xl0⟩:=Blk.k10 B1.out;clear hf))
 have E0:=hqZ (nR E ts)
 cases hs1:aj be [] ts with
 | out=>exact absurd (by rw[E0.out,hs1];rfl) HN.out
 | bad =>
  (go_wp2_with fail;refine(got (sg pb tb) (jm HS.out _ pb tb _ ?_ (by rw[hs1];intro e;cases e)) hs1).mono ?_;(all_goals try exact PSt.over (w0:=w) P1.out (Fr.r.alloc _) ltp ltt);rintro e w2 ⟨A,n,cap,t,u,rfl,hf⟩;(have xs2:=Fr.size hf;simp only[aa,ae,ad,af]at xs2;have T0:=hqZ (Fr.trans' (T1.out.alloc _) hf (fun k hk hs=>by omega));clear T1;clear P1;have B0:=hqZ (Blk.next (B1.out.alloc _) hf (by show ¬ _;omega));clear B1;obtain⟨xk10,xl1⟩:=Blk.k10 B0.out;have B1:=hqZ (Blk.next (Blk.at_ _ _ _ (n:=w1.heap.size) rfl) hf (by show ¬ _;omega));obtain⟨xk20,xl2⟩:=Blk.k4 B1.out;clear hf;clear xk0))
  go_wp2
  go_ret
  rw[E0.out,hs1]
  exact⟨t,u,rfl,by exact(T0.out.alloc _)⟩
 | ok notes ts0 =>
  have E1:=hqZ (show polP E ts=(cD ts0).bind fun f ts1=>polA E notes f ts1 from by rw[E0.out,hs1];rfl)
  (go_wp2_with fail;refine(got (sg pb tb) (jm HS.out _ pb tb _ ?_ (by rw[hs1];intro e;cases e)) hs1).mono ?_;(all_goals try exact PSt.over (w0:=w) P1.out (Fr.r.alloc _) ltp ltt);rintro e w2 ⟨A,n,cap,rfl,hacc,hln,hp,hf⟩;(have xs2:=Fr.size hf;simp only[aa,ae,ad,af]at xs2;have T0:=hqZ (Fr.trans' (T1.out.alloc _) hf (fun k hk hs=>by omega));clear T1;clear P1;have B0:=hqZ (Blk.next (B1.out.alloc _) hf (by show ¬ _;omega));clear B1;obtain⟨xk10,xl1⟩:=Blk.k10 B0.out;have B1:=hqZ (Blk.next (Blk.at_ _ _ _ (n:=w1.heap.size) rfl) hf (by show ¬ _;omega));obtain⟨xk20,xl2⟩:=Blk.k4 B1.out;have X0:=hqZ (Acc.mono (Z':=fun g=>w1.heap.size+1<=g/\g < w2.heap.size) (hZ:=fun g h1 h2=>by simp only[aa,ae,ad,af]at h2;omega) (h:=hacc));clear hacc;have P0:=hqZ hp;clear hp;clear hf;clear xk0))
  clear hs1
  cases hs2:cD ts0 with
  | out=>exact absurd (by rw[E1.out,hs2];rfl) HN.out
  | bad =>
   (go_wp2_with fail;refine(got (pj pb tb A n cap) (ic _ pb tb _ A n cap ts0 ?_ (by exact(Blk.at_ _ _ _ (n:=w2.heap.size) rfl)) (by omega)) hs2).mono ?_;(all_goals try exact PSt.over (w0:=w) P0.out (Fr.r.alloc _) ltp ltt);rintro e w3 ⟨t,u,rfl,hf⟩;(have xs4:=Fr.size hf;simp only[aa,ae,ad,af]at xs4;have T1:=hqZ (Fr.trans' (T0.out.alloc _) hf (fun k hk hs=>by omega));clear T0;clear P0;have B2:=hqZ (Blk.next (B0.out.alloc _) hf (by show ¬ _;omega));clear B0;obtain⟨xk0,xl3⟩:=Blk.k10 B2.out;have B0:=hqZ (Blk.next (B1.out.alloc _) hf (by show ¬ _;omega));clear B1;obtain⟨xk24,xl4⟩:=Blk.k4 B0.out;have B1:=hqZ (Blk.next (Blk.at_ _ _ _ (n:=w2.heap.size) rfl) hf (by show ¬ _;omega));obtain⟨xk28,xl5⟩:=Blk.k1 B1.out;have X1:=hqZ (Acc.carry X0.out (Fr.trans' (Fr.r.alloc _) hf (fun k _ hs=>by omega)));clear X0;clear hf;clear xk10 xk20))
   go_wp2
   go_ret
   rw[E1.out,hs2]
   exact⟨t,u,rfl,by exact T1.out⟩
  | ok fb ts1 =>
   have E2:=hqZ (show polP E ts=polA E notes fb ts1 from by rw[E1.out,hs2];rfl)
   (go_wp2_with fail;refine(got (pj pb tb A n cap) (ic _ pb tb _ A n cap ts0 ?_ (by exact(Blk.at_ _ _ _ (n:=w2.heap.size) rfl)) (by omega)) hs2).mono ?_;(all_goals try exact PSt.over (w0:=w) P0.out (Fr.r.alloc _) ltp ltt);rintro e w3 ⟨q,rfl,hq,hbq,hp,hf⟩;(have xs4:=Fr.size hf;simp only[aa,ae,ad,af]at xs4;have T1:=hqZ (Fr.trans' (T0.out.alloc _) hf (fun k hk hs=>by omega));clear T0;clear P0;have B2:=hqZ (Blk.next (B0.out.alloc _) hf (by show ¬ _;omega));clear B0;obtain⟨xk0,xl3⟩:=Blk.k10 B2.out;have B0:=hqZ (Blk.next (B1.out.alloc _) hf (by show ¬ _;omega));clear B1;obtain⟨xk24,xl4⟩:=Blk.k4 B0.out;have B1:=hqZ (Blk.next (Blk.at_ _ _ _ (n:=w2.heap.size) rfl) hf (by show ¬ _;omega));obtain⟨xk28,xl5⟩:=Blk.k1 B1.out;have B3:=hqZ hbq;obtain⟨xk29,xl6⟩:=Blk.k10 B3.out;clear hbq;have X1:=hqZ (Acc.carry X0.out (Fr.trans' (Fr.r.alloc _) hf (fun k _ hs=>by omega)));clear X0;have P0:=hqZ hp;clear hp;clear hf;clear xk10 xk20))
   clear hs2
   (try simp only[aa,ae,ad,af]at hq)
   cases q3:((hd ts1).text.toList == [40])
   case false =>
    have ER:=hqZ (show polP E ts = .bad from by rw[E2.out];unfold polA;exact cI q3)
    (go_wp2_with fail;refine(bf _ pb tb ts1 [40] ?_ q3).mono ?_;(all_goals try exact PSt.over (w0:=w) P0.out ((((Fr.r.set (.inl (by omega))).set (.inl (by omega))).set (.inl (by omega))).set (.inl (by omega))) ltp ltt);rintro e w4 ⟨⟨t,u,rfl⟩,hf⟩;(have xs6:=Fr.size hf;simp only[aa,ae,ad,af]at xs6;have T0:=hqZ (Fr.trans' ((((T1.out.set (.inr (by omega))).set (.inr (by omega))).set (.inr (by omega))).set (.inr (by omega))) hf (fun k hk hs=>by omega));clear T1;clear P0;have B4:=hqZ (Blk.next (Blk.far (Blk.far (Blk.far (Blk.far B2.out (by omega)) (by omega)) (by omega)) (by omega)) hf (by show ¬ _;omega));clear B2;obtain⟨xk10,xl7⟩:=Blk.k10 B4.out;have B2:=hqZ (Blk.next (Blk.far (Blk.far (Blk.far (Blk.far B0.out (by omega)) (by omega)) (by omega)) (by omega)) hf (by show ¬ _;omega));clear B0;obtain⟨xk20,xl8⟩:=Blk.k4 B2.out;have B0:=hqZ (Blk.next (Blk.far (Blk.far (Blk.far (Blk.far B1.out (by omega)) (by omega)) (by omega)) (by omega)) hf (by show ¬ _;omega));clear B1;obtain⟨xk39,xl9⟩:=Blk.k1 B0.out;have B1:=hqZ (Blk.next (Blk.set (Blk.set (Blk.set (Blk.set B3.out 6 _ (cs':=#[.bool !fb,.slice A n cap,.iface 312 (.agg #[]),.iface 312 (.agg #[]),.iface 312 (.agg #[]),.slice none 0 0,.string ⟨#[]⟩,.int .i64 0,.int .i64 0,.int .i64 0]) rfl) 7 _ (cs':=#[.bool !fb,.slice A n cap,.iface 312 (.agg #[]),.iface 312 (.agg #[]),.iface 312 (.agg #[]),.slice none 0 0,.string ⟨#[]⟩,.int .i64 po,.int .i64 0,.int .i64 0]) rfl) 8 _ (cs':=#[.bool !fb,.slice A n cap,.iface 312 (.agg #[]),.iface 312 (.agg #[]),.iface 312 (.agg #[]),.slice none 0 0,.string ⟨#[]⟩,.int .i64 po,.int .i64 pl,.int .i64 0]) rfl) 9 _ (cs':=#[.bool !fb,.slice A n cap,.iface 312 (.agg #[]),.iface 312 (.agg #[]),.iface 312 (.agg #[]),.slice none 0 0,.string ⟨#[]⟩,.int .i64 po,.int .i64 pl,.int .i64 pc]) rfl) hf (by show ¬ _;omega));clear B3;obtain⟨xk40,xl10⟩:=Blk.k10 B1.out;have X0:=hqZ (Acc.carry X1.out (Fr.trans' ((((Fr.r.set (.inl (by omega))).set (.inl (by omega))).set (.inl (by omega))).set (.inl (by omega))) hf (fun k _ hs=>by omega)));clear X1;clear hf;clear xk0 xk24 xk28 xk29))
    go_wp2
    go_ret
    rw[ER.out]
    exact⟨t,u,rfl,by exact T0.out⟩
   have E3:=hqZ (show polP E ts=polB E notes fb (adv ts1)from by rw[E2.out];unfold polA;exact dG q3)
   (go_wp2_with fail;refine(aQ _ pb tb ts1 [40] ?_ q3).mono ?_;(all_goals try exact PSt.over (w0:=w) P0.out ((((Fr.r.set (.inl (by omega))).set (.inl (by omega))).set (.inl (by omega))).set (.inl (by omega))) ltp ltt);rintro e w4 ⟨rfl,hp,hf⟩;(have xs6:=Fr.size hf;simp only[aa,ae,ad,af]at xs6;have T0:=hqZ (Fr.trans' ((((T1.out.set (.inr (by omega))).set (.inr (by omega))).set (.inr (by omega))).set (.inr (by omega))) hf (fun k hk hs=>by omega));clear T1;clear P0;have B4:=hqZ (Blk.next (Blk.far (Blk.far (Blk.far (Blk.far B2.out (by omega)) (by omega)) (by omega)) (by omega)) hf (by show ¬ _;omega));clear B2;obtain⟨xk10,xl7⟩:=Blk.k10 B4.out;have B2:=hqZ (Blk.next (Blk.far (Blk.far (Blk.far (Blk.far B0.out (by omega)) (by omega)) (by omega)) (by omega)) hf (by show ¬ _;omega));clear B0;obtain⟨xk20,xl8⟩:=Blk.k4 B2.out;have B0:=hqZ (Blk.next (Blk.far (Blk.far (Blk.far (Blk.far B1.out (by omega)) (by omega)) (by omega)) (by omega)) hf (by show ¬ _;omega));clear B1;obtain⟨xk39,xl9⟩:=Blk.k1 B0.out;have B1:=hqZ (Blk.next (Blk.set (Blk.set (Blk.set (Blk.set B3.out 6 _ (cs':=#[.bool !fb,.slice A n cap,.iface 312 (.agg #[]),.iface 312 (.agg #[]),.iface 312 (.agg #[]),.slice none 0 0,.string ⟨#[]⟩,.int .i64 0,.int .i64 0,.int .i64 0]) rfl) 7 _ (cs':=#[.bool !fb,.slice A n cap,.iface 312 (.agg #[]),.iface 312 (.agg #[]),.iface 312 (.agg #[]),.slice none 0 0,.string ⟨#[]⟩,.int .i64 po,.int .i64 0,.int .i64 0]) rfl) 8 _ (cs':=#[.bool !fb,.slice A n cap,.iface 312 (.agg #[]),.iface 312 (.agg #[]),.iface 312 (.agg #[]),.slice none 0 0,.string ⟨#[]⟩,.int .i64 po,.int .i64 pl,.int .i64 0]) rfl) 9 _ (cs':=#[.bool !fb,.slice A n cap,.iface 312 (.agg #[]),.iface 312 (.agg #[]),.iface 312 (.agg #[]),.slice none 0 0,.string ⟨#[]⟩,.int .i64 po,.int .i64 pl,.int .i64 pc]) rfl) hf (by show ¬ _;omega));clear B3;obtain⟨xk40,xl10⟩:=Blk.k10 B1.out;have X0:=hqZ (Acc.carry X1.out (Fr.trans' ((((Fr.r.set (.inl (by omega))).set (.inl (by omega))).set (.inl (by omega))).set (.inl (by omega))) hf (fun k _ hs=>by omega)));clear X1;have P0:=hqZ hp;clear hp;clear hf;clear xk0 xk24 xk28 xk29))
   clear q3
   have E3':=hqZ (show polP E ts=(whoP [112,114,105,110,99,105,112,97,108] (adv ts1)).bind fun p ts3=>polC E notes fb p ts3 from E3.out)
   cases hs4:whoP [112,114,105,110,99,105,112,97,108] (adv ts1)with
   | out=>exact absurd (by rw[E3'.out,hs4];rfl) HN.out
   | bad =>
    (go_wp2_with fail;refine(got (GotQ pb tb q (fun v=>#[.bool (!fb),.slice A n cap,v,.iface 312 (.agg #[]),.iface 312 (.agg #[]),.slice none 0 0,.string ⟨#[]⟩,.int .i64 po,.int .i64 pl,.int .i64 pc])) (eU HS.out _ pb tb q (adv ts1) (.bool (!fb)) (.slice A n cap) (.iface 312 (.agg #[])) (.iface 312 (.agg #[])) (.slice none 0 0) (.string ⟨#[]⟩) (.int .i64 po) (.int .i64 pl) (.int .i64 pc) ?_ (by exact B1.out) (by omega) (by omega) (by rw[hs4];intro e;cases e)) hs4).mono ?_;(all_goals try exact P0.out);rintro e w5 ⟨t,u,rfl,hf⟩;(have xs8:=Fr.size hf;have T1:=hqZ (Fr.trans' T0.out hf (fun k hk hs=>by omega));clear T0;clear P0;have B3:=hqZ (Blk.next B4.out hf (by show ¬ _;omega));clear B4;obtain⟨xk0,xl11⟩:=Blk.k10 B3.out;have B4:=hqZ (Blk.next B2.out hf (by show ¬ _;omega));clear B2;obtain⟨xk24,xl12⟩:=Blk.k4 B4.out;have B2:=hqZ (Blk.next B0.out hf (by show ¬ _;omega));clear B0;obtain⟨xk28,xl13⟩:=Blk.k1 B2.out;clear B1;have X1:=hqZ (Acc.carry X0.out (Fr.trans' Fr.r hf (fun k _ hs=>by omega)));clear X0;clear hf;clear xk10 xk20 xk39 xk40))
    go_wp2
    go_ret
    rw[E3'.out,hs4]
    exact⟨t,u,rfl,by exact T1.out⟩
   | ok p ts2 =>
    have E4:=hqZ (show polP E ts=polC E notes fb p ts2 from by rw[E3'.out,hs4];rfl)
    (go_wp2_with fail;refine(got (GotQ pb tb q (fun v=>#[.bool (!fb),.slice A n cap,v,.iface 312 (.agg #[]),.iface 312 (.agg #[]),.slice none 0 0,.string ⟨#[]⟩,.int .i64 po,.int .i64 pl,.int .i64 pc])) (eU HS.out _ pb tb q (adv ts1) (.bool (!fb)) (.slice A n cap) (.iface 312 (.agg #[])) (.iface 312 (.agg #[])) (.slice none 0 0) (.string ⟨#[]⟩) (.int .i64 po) (.int .i64 pl) (.int .i64 pc) ?_ (by exact B1.out) (by omega) (by omega) (by rw[hs4];intro e;cases e)) hs4).mono ?_;(all_goals try exact P0.out);rintro e w5 ⟨pt,pu,rfl,hsc,hbq,hp,hf⟩;(have xs8:=Fr.size hf;have T1:=hqZ (Fr.trans' T0.out hf (fun k hk hs=>by omega));clear T0;clear P0;have B3:=hqZ (Blk.next B4.out hf (by show ¬ _;omega));clear B4;obtain⟨xk0,xl11⟩:=Blk.k10 B3.out;have B4:=hqZ (Blk.next B2.out hf (by show ¬ _;omega));clear B2;obtain⟨xk24,xl12⟩:=Blk.k4 B4.out;have B2:=hqZ (Blk.next B0.out hf (by show ¬ _;omega));clear B0;obtain⟨xk28,xl13⟩:=Blk.k1 B2.out;clear B1;dsimp only at hbq;have B0:=hqZ hbq;obtain⟨xk29,xl14⟩:=Blk.k10 B0.out;clear hbq;have X1:=hqZ (Acc.carry X0.out (Fr.trans' Fr.r hf (fun k _ hs=>by omega)));clear X0;have X0:=hqZ (ScpR.mono (Z':=fun g=>w4.heap.size<=g/\g < w5.heap.size) (hZ:=fun g h1 h2=>⟨h2,h1⟩) (h:=hsc));clear hsc;have P0:=hqZ hp;clear hp;clear hf;clear xk10 xk20 xk39 xk40))
    clear hs4
    cases q5:((hd ts2).text.toList == [44])
    case false =>
     have ER:=hqZ (show polP E ts = .bad from by rw[E4.out];unfold polC;exact cI q5)
     (go_wp2_with fail;refine(bf _ pb tb ts2 [44] ?_ q5).mono ?_;(all_goals try exact P0.out);rintro e w6 ⟨⟨t,u,rfl⟩,hf⟩;(have xs10:=Fr.size hf;have T0:=hqZ (Fr.trans' T1.out hf (fun k hk hs=>by omega));clear T1;clear P0;have B1:=hqZ (Blk.next B3.out hf (by show ¬ _;omega));clear B3;obtain⟨xk10,xl15⟩:=Blk.k10 B1.out;have B3:=hqZ (Blk.next B4.out hf (by show ¬ _;omega));clear B4;obtain⟨xk20,xl16⟩:=Blk.k4 B3.out;have B4:=hqZ (Blk.next B2.out hf (by show ¬ _;omega));clear B2;obtain⟨xk39,xl17⟩:=Blk.k1 B4.out;have B2:=hqZ (Blk.next B0.out hf (by show ¬ _;omega));clear B0;obtain⟨xk40,xl18⟩:=Blk.k10 B2.out;have X2:=hqZ (Acc.carry X1.out (Fr.trans' Fr.r hf (fun k _ hs=>by omega)));clear X1;have X1:=hqZ (ScpR.carry X0.out (Fr.trans' Fr.r hf (fun k _ hs=>by omega)));clear X0;clear hf;clear xk0 xk24 xk28 xk29))
     go_wp2
     go_ret
     rw[ER.out]
     exact⟨t,u,rfl,by exact T0.out⟩
    have E5:=hqZ (show polP E ts=polD E notes fb p (adv ts2)from by rw[E4.out];unfold polC;exact dG q5)
    (go_wp2_with fail;refine(aQ _ pb tb ts2 [44] ?_ q5).mono ?_;(all_goals try exact P0.out);rintro e w6 ⟨rfl,hp,hf⟩;(have xs10:=Fr.size hf;have T0:=hqZ (Fr.trans' T1.out hf (fun k hk hs=>by omega));clear T1;clear P0;have B1:=hqZ (Blk.next B3.out hf (by show ¬ _;omega));clear B3;obtain⟨xk10,xl15⟩:=Blk.k10 B1.out;have B3:=hqZ (Blk.next B4.out hf (by show ¬ _;omega));clear B4;obtain⟨xk20,xl16⟩:=Blk.k4 B3.out;have B4:=hqZ (Blk.next B2.out hf (by show ¬ _;omega));clear B2;obtain⟨xk39,xl17⟩:=Blk.k1 B4.out;have B2:=hqZ (Blk.next B0.out hf (by show ¬ _;omega));clear B0;obtain⟨xk40,xl18⟩:=Blk.k10 B2.out;have X2:=hqZ (Acc.carry X1.out (Fr.trans' Fr.r hf (fun k _ hs=>by omega)));clear X1;have X1:=hqZ (ScpR.carry X0.out (Fr.trans' Fr.r hf (fun k _ hs=>by omega)));clear X0;have P0:=hqZ hp;clear hp;clear hf;clear xk0 xk24 xk28 xk29))
    clear q5
    have E5':=hqZ (show polP E ts=(cF (adv ts2)).bind fun a ts5=>polE E notes fb p a ts5 from E5.out)
    cases hs6:cF (adv ts2)with
    | out=>exact absurd (by rw[E5'.out,hs6];rfl) HN.out
    | bad =>
     (go_wp2_with fail;refine(got (GotQ pb tb q (fun v=>#[.bool (!fb),.slice A n cap,.iface pt pu,v,.iface 312 (.agg #[]),.slice none 0 0,.string ⟨#[]⟩,.int .i64 po,.int .i64 pl,.int .i64 pc])) (ii HS.out _ pb tb q (adv ts2) (.bool (!fb)) (.slice A n cap) (.iface pt pu) (.iface 312 (.agg #[])) (.slice none 0 0) (.string ⟨#[]⟩) (.int .i64 po) (.int .i64 pl) (.int .i64 pc) ?_ (by exact B2.out) (by omega) (by omega) (by rw[hs6];intro e;cases e)) hs6).mono ?_;(all_goals try exact P0.out);rintro e w7 ⟨t,u,rfl,hf⟩;(have xs12:=Fr.size hf;have T1:=hqZ (Fr.trans' T0.out hf (fun k hk hs=>by omega));clear T0;clear P0;have B0:=hqZ (Blk.next B1.out hf (by show ¬ _;omega));clear B1;obtain⟨xk0,xl19⟩:=Blk.k10 B0.out;have B1:=hqZ (Blk.next B3.out hf (by show ¬ _;omega));clear B3;obtain⟨xk24,xl20⟩:=Blk.k4 B1.out;have B3:=hqZ (Blk.next B4.out hf (by show ¬ _;omega));clear B4;obtain⟨xk28,xl21⟩:=Blk.k1 B3.out;clear B2;have X0:=hqZ (Acc.carry X2.out (Fr.trans' Fr.r hf (fun k _ hs=>by omega)));clear X2;have X2:=hqZ (ScpR.carry X1.out (Fr.trans' Fr.r hf (fun k _ hs=>by omega)));clear X1;clear hf;clear xk10 xk20 xk39 xk40))
     go_wp2
     go_ret
     rw[E5'.out,hs6]
     exact⟨t,u,rfl,by exact T1.out⟩
    | ok a ts3 =>
     have E6:=hqZ (show polP E ts=polE E notes fb p a ts3 from by rw[E5'.out,hs6];rfl)
     (go_wp2_with fail;refine(got (GotQ pb tb q (fun v=>#[.bool (!fb),.slice A n cap,.iface pt pu,v,.iface 312 (.agg #[]),.slice none 0 0,.string ⟨#[]⟩,.int .i64 po,.int .i64 pl,.int .i64 pc])) (ii HS.out _ pb tb q (adv ts2) (.bool (!fb)) (.slice A n cap) (.iface pt pu) (.iface 312 (.agg #[])) (.slice none 0 0) (.string ⟨#[]⟩) (.int .i64 po) (.int .i64 pl) (.int .i64 pc) ?_ (by exact B2.out) (by omega) (by omega) (by rw[hs6];intro e;cases e)) hs6).mono ?_;(all_goals try exact P0.out);rintro e w7 ⟨at',au,rfl,hsc,hbq,hp,hf⟩;(have xs12:=Fr.size hf;have T1:=hqZ (Fr.trans' T0.out hf (fun k hk hs=>by omega));clear T0;clear P0;have B0:=hqZ (Blk.next B1.out hf (by show ¬ _;omega));clear B1;obtain⟨xk0,xl19⟩:=Blk.k10 B0.out;have B1:=hqZ (Blk.next B3.out hf (by show ¬ _;omega));clear B3;obtain⟨xk24,xl20⟩:=Blk.k4 B1.out;have B3:=hqZ (Blk.next B4.out hf (by show ¬ _;omega));clear B4;obtain⟨xk28,xl21⟩:=Blk.k1 B3.out;clear B2;dsimp only at hbq;have B2:=hqZ hbq;obtain⟨xk29,xl22⟩:=Blk.k10 B2.out;clear hbq;have X0:=hqZ (Acc.carry X2.out (Fr.trans' Fr.r hf (fun k _ hs=>by omega)));clear X2;have X2:=hqZ (ScpR.carry X1.out (Fr.trans' Fr.r hf (fun k _ hs=>by omega)));clear X1;have X1:=hqZ (ScpR.mono (Z':=fun g=>w6.heap.size<=g/\g < w7.heap.size) (hZ:=fun g h1 h2=>⟨h2,h1⟩) (h:=hsc));clear hsc;have P0:=hqZ hp;clear hp;clear hf;clear xk10 xk20 xk39 xk40))
     clear hs6
     cases q7:((hd ts3).text.toList == [44])
     case false =>
      have ER:=hqZ (show polP E ts = .bad from by rw[E6.out];unfold polE;exact cI q7)
      (go_wp2_with fail;refine(bf _ pb tb ts3 [44] ?_ q7).mono ?_;(all_goals try exact P0.out);rintro e w8 ⟨⟨t,u,rfl⟩,hf⟩;(have xs14:=Fr.size hf;have T0:=hqZ (Fr.trans' T1.out hf (fun k hk hs=>by omega));clear T1;clear P0;have B4:=hqZ (Blk.next B0.out hf (by show ¬ _;omega));clear B0;obtain⟨xk10,xl23⟩:=Blk.k10 B4.out;have B0:=hqZ (Blk.next B1.out hf (by show ¬ _;omega));clear B1;obtain⟨xk20,xl24⟩:=Blk.k4 B0.out;have B1:=hqZ (Blk.next B3.out hf (by show ¬ _;omega));clear B3;obtain⟨xk39,xl25⟩:=Blk.k1 B1.out;have B3:=hqZ (Blk.next B2.out hf (by show ¬ _;omega));clear B2;obtain⟨xk40,xl26⟩:=Blk.k10 B3.out;have X3:=hqZ (Acc.carry X0.out (Fr.trans' Fr.r hf (fun k _ hs=>by omega)));clear X0;have X0:=hqZ (ScpR.carry X2.out (Fr.trans' Fr.r hf (fun k _ hs=>by omega)));clear X2;have X2:=hqZ (ScpR.carry X1.out (Fr.trans' Fr.r hf (fun k _ hs=>by omega)));clear X1;clear hf;clear xk0 xk24 xk28 xk29))
      go_wp2
      go_ret
      rw[ER.out]
      exact⟨t,u,rfl,by exact T0.out⟩
     have E7:=hqZ (show polP E ts=polF E notes fb p a (adv ts3)from by rw[E6.out];unfold polE;exact dG q7)
     (go_wp2_with fail;refine(aQ _ pb tb ts3 [44] ?_ q7).mono ?_;(all_goals try exact P0.out);rintro e w8 ⟨rfl,hp,hf⟩;(have xs14:=Fr.size hf;have T0:=hqZ (Fr.trans' T1.out hf (fun k hk hs=>by omega));clear T1;clear P0;have B4:=hqZ (Blk.next B0.out hf (by show ¬ _;omega));clear B0;obtain⟨xk10,xl23⟩:=Blk.k10 B4.out;have B0:=hqZ (Blk.next B1.out hf (by show ¬ _;omega));clear B1;obtain⟨xk20,xl24⟩:=Blk.k4 B0.out;have B1:=hqZ (Blk.next B3.out hf (by show ¬ _;omega));clear B3;obtain⟨xk39,xl25⟩:=Blk.k1 B1.out;have B3:=hqZ (Blk.next B2.out hf (by show ¬ _;omega));clear B2;obtain⟨xk40,xl26⟩:=Blk.k10 B3.out;have X3:=hqZ (Acc.carry X0.out (Fr.trans' Fr.r hf (fun k _ hs=>by omega)));clear X0;have X0:=hqZ (ScpR.carry X2.out (Fr.trans' Fr.r hf (fun k _ hs=>by omega)));clear X2;have X2:=hqZ (ScpR.carry X1.out (Fr.trans' Fr.r hf (fun k _ hs=>by omega)));clear X1;have P0:=hqZ hp;clear hp;clear hf;clear xk0 xk24 xk28 xk29))
     clear q7
     have E7':=hqZ (show polP E ts=(whoP [114,101,115,111,117,114,99,101] (adv ts3)).bind fun r ts7=>polG E notes fb p a r ts7 from E7.out)
     cases hs8:whoP [114,101,115,111,117,114,99,101] (adv ts3)with
     | out=>exact absurd (by rw[E7'.out,hs8];rfl) HN.out
     | bad =>
      (go_wp2_with fail;refine(got (GotQ pb tb q (fun v=>#[.bool (!fb),.slice A n cap,.iface pt pu,.iface at' au,v,.slice none 0 0,.string ⟨#[]⟩,.int .i64 po,.int .i64 pl,.int .i64 pc])) (fG HS.out _ pb tb q (adv ts3) (.bool (!fb)) (.slice A n cap) (.iface pt pu) (.iface at' au) (.slice none 0 0) (.string ⟨#[]⟩) (.int .i64 po) (.int .i64 pl) (.int .i64 pc) ?_ (by exact B3.out) (by omega) (by omega) (by rw[hs8];intro e;cases e)) hs8).mono ?_;(all_goals try exact P0.out);rintro e w9 ⟨t,u,rfl,hf⟩;(have xs16:=Fr.size hf;have T1:=hqZ (Fr.trans' T0.out hf (fun k hk hs=>by omega));clear T0;clear P0;have B2:=hqZ (Blk.next B4.out hf (by show ¬ _;omega));clear B4;obtain⟨xk0,xl27⟩:=Blk.k10 B2.out;have B4:=hqZ (Blk.next B0.out hf (by show ¬ _;omega));clear B0;obtain⟨xk24,xl28⟩:=Blk.k4 B4.out;have B0:=hqZ (Blk.next B1.out hf (by show ¬ _;omega));clear B1;obtain⟨xk28,xl29⟩:=Blk.k1 B0.out;clear B3;have X1:=hqZ (Acc.carry X3.out (Fr.trans' Fr.r hf (fun k _ hs=>by omega)));clear X3;have X3:=hqZ (ScpR.carry X0.out (Fr.trans' Fr.r hf (fun k _ hs=>by omega)));clear X0;have X0:=hqZ (ScpR.carry X2.out (Fr.trans' Fr.r hf (fun k _ hs=>by omega)));clear X2;clear hf;clear xk10 xk20 xk39 xk40))
      go_wp2
      go_ret
      rw[E7'.out,hs8]
      exact⟨t,u,rfl,by exact T1.out⟩
     | ok r ts4 =>
      have E8:=hqZ (show polP E ts=polG E notes fb p a r ts4 from by rw[E7'.out,hs8];rfl)
      (go_wp2_with fail;refine(got (GotQ pb tb q (fun v=>#[.bool (!fb),.slice A n cap,.iface pt pu,.iface at' au,v,.slice none 0 0,.string ⟨#[]⟩,.int .i64 po,.int .i64 pl,.int .i64 pc])) (fG HS.out _ pb tb q (adv ts3) (.bool (!fb)) (.slice A n cap) (.iface pt pu) (.iface at' au) (.slice none 0 0) (.string ⟨#[]⟩) (.int .i64 po) (.int .i64 pl) (.int .i64 pc) ?_ (by exact B3.out) (by omega) (by omega) (by rw[hs8];intro e;cases e)) hs8).mono ?_;(all_goals try exact P0.out);rintro e w9 ⟨rt,ru,rfl,hsc,hbq,hp,hf⟩;(have xs16:=Fr.size hf;have T1:=hqZ (Fr.trans' T0.out hf (fun k hk hs=>by omega));clear T0;clear P0;have B2:=hqZ (Blk.next B4.out hf (by show ¬ _;omega));clear B4;obtain⟨xk0,xl27⟩:=Blk.k10 B2.out;have B4:=hqZ (Blk.next B0.out hf (by show ¬ _;omega));clear B0;obtain⟨xk24,xl28⟩:=Blk.k4 B4.out;have B0:=hqZ (Blk.next B1.out hf (by show ¬ _;omega));clear B1;obtain⟨xk28,xl29⟩:=Blk.k1 B0.out;clear B3;dsimp only at hbq;have B1:=hqZ hbq;obtain⟨xk29,xl30⟩:=Blk.k10 B1.out;clear hbq;have X1:=hqZ (Acc.carry X3.out (Fr.trans' Fr.r hf (fun k _ hs=>by omega)));clear X3;have X3:=hqZ (ScpR.carry X0.out (Fr.trans' Fr.r hf (fun k _ hs=>by omega)));clear X0;have X0:=hqZ (ScpR.carry X2.out (Fr.trans' Fr.r hf (fun k _ hs=>by omega)));clear X2;have X2:=hqZ (ScpR.mono (Z':=fun g=>w8.heap.size<=g/\g < w9.heap.size) (hZ:=fun g h1 h2=>⟨h2,h1⟩) (h:=hsc));clear hsc;have P0:=hqZ hp;clear hp;clear hf;clear xk10 xk20 xk39 xk40))
      clear hs8
      obtain⟨ts5,E9,hskip⟩:∃ ts5,Hid (polP E ts=polH E notes fb p a r ts5)/\Hid (∀ (wz:World),PSt wz pb tb ts4->Calls Tryz.prog 68 #[.pointer (some ⟨pb,0,none⟩),.string ⟨#[44]⟩] wz fun e w'=>e = .returned (.tuple #[])/\PSt w' pb tb ts5/\Fr (· = pb) wz w'):=by
       cases qs:((hd ts4).text.toList == [44])
       case true=>exact⟨adv ts4,hqZ (by rw[E8.out];unfold polG kt Tok.is;rw[if_pos qs];rfl),hqZ fun wz hz=>qX wz pb tb ts4 _ hz (by rw[show(⟨#[44]⟩:ByteArray).toList = [44]from ByteArray.toList_mk _];exact qs)⟩
       case false=>exact⟨ts4,hqZ (by rw[E8.out];unfold polG kt Tok.is;rw[if_neg (by simp[qs])];rfl),hqZ fun wz hz=>skip_no wz pb tb ts4 _ hz (by rw[show(⟨#[44]⟩:ByteArray).toList = [44]from ByteArray.toList_mk _];exact qs)⟩
      (go_wp2_with fail;refine(hskip.out _ ?_).mono ?_;(all_goals try exact P0.out);rintro e w10 ⟨rfl,hp,hf⟩;(have xs18:=Fr.size hf;have T0:=hqZ (Fr.trans' T1.out hf (fun k hk hs=>by omega));clear T1;clear P0;have B3:=hqZ (Blk.next B2.out hf (by show ¬ _;omega));clear B2;obtain⟨xk10,xl31⟩:=Blk.k10 B3.out;have B2:=hqZ (Blk.next B4.out hf (by show ¬ _;omega));clear B4;obtain⟨xk20,xl32⟩:=Blk.k4 B2.out;have B4:=hqZ (Blk.next B0.out hf (by show ¬ _;omega));clear B0;obtain⟨xk39,xl33⟩:=Blk.k1 B4.out;have B0:=hqZ (Blk.next B1.out hf (by show ¬ _;omega));clear B1;obtain⟨xk40,xl34⟩:=Blk.k10 B0.out;have X4:=hqZ (Acc.carry X1.out (Fr.trans' Fr.r hf (fun k _ hs=>by omega)));clear X1;have X1:=hqZ (ScpR.carry X3.out (Fr.trans' Fr.r hf (fun k _ hs=>by omega)));clear X3;have X3:=hqZ (ScpR.carry X0.out (Fr.trans' Fr.r hf (fun k _ hs=>by omega)));clear X0;have X0:=hqZ (ScpR.carry X2.out (Fr.trans' Fr.r hf (fun k _ hs=>by omega)));clear X2;have P0:=hqZ hp;clear hp;clear hf;clear xk0 xk24 xk28 xk29))
      cases q10:((hd ts5).text.toList == [41])
      case false =>
       have ER:=hqZ (show polP E ts = .bad from by rw[E9.out];unfold polH;exact cI q10)
       (go_wp2_with fail;refine(bf _ pb tb ts5 [41] ?_ q10).mono ?_;(all_goals try exact P0.out);rintro e w11 ⟨⟨t,u,rfl⟩,hf⟩;(have xs20:=Fr.size hf;have T1:=hqZ (Fr.trans' T0.out hf (fun k hk hs=>by omega));clear T0;clear P0;have B1:=hqZ (Blk.next B3.out hf (by show ¬ _;omega));clear B3;obtain⟨xk0,xl35⟩:=Blk.k10 B1.out;have B3:=hqZ (Blk.next B2.out hf (by show ¬ _;omega));clear B2;obtain⟨xk24,xl36⟩:=Blk.k4 B3.out;have B2:=hqZ (Blk.next B4.out hf (by show ¬ _;omega));clear B4;obtain⟨xk28,xl37⟩:=Blk.k1 B2.out;have B4:=hqZ (Blk.next B0.out hf (by show ¬ _;omega));clear B0;obtain⟨xk29,xl38⟩:=Blk.k10 B4.out;have X2:=hqZ (Acc.carry X4.out (Fr.trans' Fr.r hf (fun k _ hs=>by omega)));clear X4;have X4:=hqZ (ScpR.carry X1.out (Fr.trans' Fr.r hf (fun k _ hs=>by omega)));clear X1;have X1:=hqZ (ScpR.carry X3.out (Fr.trans' Fr.r hf (fun k _ hs=>by omega)));clear X3;have X3:=hqZ (ScpR.carry X0.out (Fr.trans' Fr.r hf (fun k _ hs=>by omega)));clear X0;clear hf;clear xk10 xk20 xk39 xk40))
       go_wp2
       go_ret
       rw[ER.out]
       exact⟨t,u,rfl,by exact T1.out⟩
      have E10:=hqZ (show polP E ts=polI E notes fb p a r (adv ts5)from by rw[E9.out];unfold polH;exact dG q10)
      (go_wp2_with fail;refine(aQ _ pb tb ts5 [41] ?_ q10).mono ?_;(all_goals try exact P0.out);rintro e w11 ⟨rfl,hp,hf⟩;(have xs20:=Fr.size hf;have T1:=hqZ (Fr.trans' T0.out hf (fun k hk hs=>by omega));clear T0;clear P0;have B1:=hqZ (Blk.next B3.out hf (by show ¬ _;omega));clear B3;obtain⟨xk0,xl35⟩:=Blk.k10 B1.out;have B3:=hqZ (Blk.next B2.out hf (by show ¬ _;omega));clear B2;obtain⟨xk24,xl36⟩:=Blk.k4 B3.out;have B2:=hqZ (Blk.next B4.out hf (by show ¬ _;omega));clear B4;obtain⟨xk28,xl37⟩:=Blk.k1 B2.out;have B4:=hqZ (Blk.next B0.out hf (by show ¬ _;omega));clear B0;obtain⟨xk29,xl38⟩:=Blk.k10 B4.out;have X2:=hqZ (Acc.carry X4.out (Fr.trans' Fr.r hf (fun k _ hs=>by omega)));clear X4;have X4:=hqZ (ScpR.carry X1.out (Fr.trans' Fr.r hf (fun k _ hs=>by omega)));clear X1;have X1:=hqZ (ScpR.carry X3.out (Fr.trans' Fr.r hf (fun k _ hs=>by omega)));clear X3;have X3:=hqZ (ScpR.carry X0.out (Fr.trans' Fr.r hf (fun k _ hs=>by omega)));clear X0;have P0:=hqZ hp;clear hp;clear hf;clear xk10 xk20 xk39 xk40))
      clear q10
      have E10':=hqZ (show polP E ts=(aj (aB E) [] (adv ts5)).bind fun c ts10=>(ak [59] ts10).bind fun _ ts11=>.ok ⟨fb,notes,p,a,r,c⟩ ts11 from E10.out)
      cases hs11:aj (aB E) [] (adv ts5)with
      | out=>exact absurd (by rw[E10'.out,hs11];rfl) HN.out
      | bad =>
       (go_wp2_with fail;refine(gotP (si pb tb q (fun v=>#[.bool (!fb),.slice A n cap,.iface pt pu,.iface at' au,.iface rt ru,v,.string ⟨#[]⟩,.int .i64 po,.int .i64 pl,.int .i64 pc])) (jE E HE.out _ pb tb q (adv ts5) (.bool (!fb)) (.slice A n cap) (.iface pt pu) (.iface at' au) (.iface rt ru) (.string ⟨#[]⟩) (.int .i64 po) (.int .i64 pl) (.int .i64 pc) ?_ (by exact B4.out) (by omega) (by omega) (by rw[hs11];intro e;cases e)) hs11).mono ?_;(all_goals try exact P0.out);rintro e w12 ⟨t,u,rfl,hf⟩;(have xs22:=Fr.size hf;have T0:=hqZ (Fr.trans' T1.out hf (fun k hk hs=>by omega));clear T1;clear P0;have B0:=hqZ (Blk.next B1.out hf (by show ¬ _;omega));clear B1;obtain⟨xk10,xl39⟩:=Blk.k10 B0.out;have B1:=hqZ (Blk.next B3.out hf (by show ¬ _;omega));clear B3;obtain⟨xk20,xl40⟩:=Blk.k4 B1.out;have B3:=hqZ (Blk.next B2.out hf (by show ¬ _;omega));clear B2;obtain⟨xk39,xl41⟩:=Blk.k1 B3.out;clear B4;have X0:=hqZ (Acc.carry X2.out (Fr.trans' Fr.r hf (fun k _ hs=>by omega)));clear X2;have X2:=hqZ (ScpR.carry X4.out (Fr.trans' Fr.r hf (fun k _ hs=>by omega)));clear X4;have X4:=hqZ (ScpR.carry X1.out (Fr.trans' Fr.r hf (fun k _ hs=>by omega)));clear X1;have X1:=hqZ (ScpR.carry X3.out (Fr.trans' Fr.r hf (fun k _ hs=>by omega)));clear X3;clear hf;clear xk0 xk24 xk28 xk29))
       go_wp2
       go_ret
       rw[E10'.out,hs11]
       exact⟨t,u,rfl,by exact T0.out⟩
      | ok cs ts6 =>
       have E11:=hqZ (show polP E ts=(ak [59] ts6).bind fun _ ts11=>.ok ⟨fb,notes,p,a,r,cs⟩ ts11 from by rw[E10'.out,hs11];rfl)
       (go_wp2_with fail;refine(gotP (si pb tb q (fun v=>#[.bool (!fb),.slice A n cap,.iface pt pu,.iface at' au,.iface rt ru,v,.string ⟨#[]⟩,.int .i64 po,.int .i64 pl,.int .i64 pc])) (jE E HE.out _ pb tb q (adv ts5) (.bool (!fb)) (.slice A n cap) (.iface pt pu) (.iface at' au) (.iface rt ru) (.string ⟨#[]⟩) (.int .i64 po) (.int .i64 pl) (.int .i64 pc) ?_ (by exact B4.out) (by omega) (by omega) (by rw[hs11];intro e;cases e)) hs11).mono ?_;(all_goals try exact P0.out);rintro e w12 ⟨A2,n2,cap2,rfl,hbq,hacc2,hln2,hp,hf⟩;(have xs22:=Fr.size hf;have T0:=hqZ (Fr.trans' T1.out hf (fun k hk hs=>by omega));clear T1;clear P0;have B0:=hqZ (Blk.next B1.out hf (by show ¬ _;omega));clear B1;obtain⟨xk10,xl39⟩:=Blk.k10 B0.out;have B1:=hqZ (Blk.next B3.out hf (by show ¬ _;omega));clear B3;obtain⟨xk20,xl40⟩:=Blk.k4 B1.out;have B3:=hqZ (Blk.next B2.out hf (by show ¬ _;omega));clear B2;obtain⟨xk39,xl41⟩:=Blk.k1 B3.out;clear B4;dsimp only at hbq;have B2:=hqZ hbq;obtain⟨xk40,xl42⟩:=Blk.k10 B2.out;clear hbq;have X0:=hqZ (Acc.carry X2.out (Fr.trans' Fr.r hf (fun k _ hs=>by omega)));clear X2;have X2:=hqZ (Acc.mono (Z':=fun g=>w11.heap.size<=g/\g < w12.heap.size) (hZ:=fun g h1 h2=>⟨h2,h1⟩) (h:=hacc2));clear hacc2;have X5:=hqZ (ScpR.carry X4.out (Fr.trans' Fr.r hf (fun k _ hs=>by omega)));clear X4;have X4:=hqZ (ScpR.carry X1.out (Fr.trans' Fr.r hf (fun k _ hs=>by omega)));clear X1;have X1:=hqZ (ScpR.carry X3.out (Fr.trans' Fr.r hf (fun k _ hs=>by omega)));clear X3;have P0:=hqZ hp;clear hp;clear hf;clear xk0 xk24 xk28 xk29))
       clear hs11
       cases q12:((hd ts6).text.toList == [59])
       case false =>
        have ER:=hqZ (show polP E ts = .bad from by rw[E11.out];exact cI q12)
        (go_wp2_with fail;refine(bf _ pb tb ts6 [59] ?_ q12).mono ?_;(all_goals try exact P0.out);rintro e w13 ⟨⟨t,u,rfl⟩,hf⟩;(have xs24:=Fr.size hf;have T1:=hqZ (Fr.trans' T0.out hf (fun k hk hs=>by omega));clear T0;clear P0;have B4:=hqZ (Blk.next B0.out hf (by show ¬ _;omega));clear B0;obtain⟨xk0,xl43⟩:=Blk.k10 B4.out;have B0:=hqZ (Blk.next B1.out hf (by show ¬ _;omega));clear B1;obtain⟨xk24,xl44⟩:=Blk.k4 B0.out;have B1:=hqZ (Blk.next B3.out hf (by show ¬ _;omega));clear B3;obtain⟨xk28,xl45⟩:=Blk.k1 B1.out;have B3:=hqZ (Blk.next B2.out hf (by show ¬ _;omega));clear B2;obtain⟨xk29,xl46⟩:=Blk.k10 B3.out;have X3:=hqZ (Acc.carry X0.out (Fr.trans' Fr.r hf (fun k _ hs=>by omega)));clear X0;have X0:=hqZ (Acc.carry X2.out (Fr.trans' Fr.r hf (fun k _ hs=>by omega)));clear X2;have X2:=hqZ (ScpR.carry X5.out (Fr.trans' Fr.r hf (fun k _ hs=>by omega)));clear X5;have X5:=hqZ (ScpR.carry X4.out (Fr.trans' Fr.r hf (fun k _ hs=>by omega)));clear X4;have X4:=hqZ (ScpR.carry X1.out (Fr.trans' Fr.r hf (fun k _ hs=>by omega)));clear X1;clear hf;clear xk10 xk20 xk39 xk40))
        go_wp2
        go_ret
        rw[ER.out]
        exact⟨t,u,rfl,by exact T1.out⟩
       have E12:=hqZ (show polP E ts = .ok ⟨fb,notes,p,a,r,cs⟩ (adv ts6)from by rw[E11.out];exact dG q12)
       (go_wp2_with fail;refine(aQ _ pb tb ts6 [59] ?_ q12).mono ?_;(all_goals try exact P0.out);rintro e w13 ⟨rfl,hp,hf⟩;(have xs24:=Fr.size hf;have T1:=hqZ (Fr.trans' T0.out hf (fun k hk hs=>by omega));clear T0;clear P0;have B4:=hqZ (Blk.next B0.out hf (by show ¬ _;omega));clear B0;obtain⟨xk0,xl43⟩:=Blk.k10 B4.out;have B0:=hqZ (Blk.next B1.out hf (by show ¬ _;omega));clear B1;obtain⟨xk24,xl44⟩:=Blk.k4 B0.out;have B1:=hqZ (Blk.next B3.out hf (by show ¬ _;omega));clear B3;obtain⟨xk28,xl45⟩:=Blk.k1 B1.out;have B3:=hqZ (Blk.next B2.out hf (by show ¬ _;omega));clear B2;obtain⟨xk29,xl46⟩:=Blk.k10 B3.out;have X3:=hqZ (Acc.carry X0.out (Fr.trans' Fr.r hf (fun k _ hs=>by omega)));clear X0;have X0:=hqZ (Acc.carry X2.out (Fr.trans' Fr.r hf (fun k _ hs=>by omega)));clear X2;have X2:=hqZ (ScpR.carry X5.out (Fr.trans' Fr.r hf (fun k _ hs=>by omega)));clear X5;have X5:=hqZ (ScpR.carry X4.out (Fr.trans' Fr.r hf (fun k _ hs=>by omega)));clear X4;have X4:=hqZ (ScpR.carry X1.out (Fr.trans' Fr.r hf (fun k _ hs=>by omega)));clear X1;have P0:=hqZ hp;clear hp;clear hf;clear xk10 xk20 xk39 xk40))
       go_wp2
       go_ret
       rw[E12.out]
       exact⟨A,n,cap,_,_,_,_,_,_,A2,n2,cap2,po,pl,pc,rfl,by exact(Blk.set (Blk.set (Blk.set (Blk.set (Blk.set (Blk.set (Blk.set (Blk.set (Blk.set (Blk.set B4.out 0 _ (cs':=#[.bool !fb,x1,x2,x3,x4,x5,x6,x7,x8,x9]) rfl) 1 _ (cs':=#[.bool !fb,.slice A n cap,x2,x3,x4,x5,x6,x7,x8,x9]) rfl) 2 _ (cs':=#[.bool !fb,.slice A n cap,.iface pt pu,x3,x4,x5,x6,x7,x8,x9]) rfl) 3 _ (cs':=#[.bool !fb,.slice A n cap,.iface pt pu,.iface at' au,x4,x5,x6,x7,x8,x9]) rfl) 4 _ (cs':=#[.bool !fb,.slice A n cap,.iface pt pu,.iface at' au,.iface rt ru,x5,x6,x7,x8,x9]) rfl) 5 _ (cs':=#[.bool !fb,.slice A n cap,.iface pt pu,.iface at' au,.iface rt ru,.slice A2 n2 cap2,x6,x7,x8,x9]) rfl) 6 _ (cs':=#[.bool !fb,.slice A n cap,.iface pt pu,.iface at' au,.iface rt ru,.slice A2 n2 cap2,.string ⟨#[]⟩,x7,x8,x9]) rfl) 7 _ (cs':=#[.bool !fb,.slice A n cap,.iface pt pu,.iface at' au,.iface rt ru,.slice A2 n2 cap2,.string ⟨#[]⟩,.int .i64 po,x8,x9]) rfl) 8 _ (cs':=#[.bool !fb,.slice A n cap,.iface pt pu,.iface at' au,.iface rt ru,.slice A2 n2 cap2,.string ⟨#[]⟩,.int .i64 po,.int .i64 pl,x9]) rfl) 9 _ (cs':=#[.bool !fb,.slice A n cap,.iface pt pu,.iface at' au,.iface rt ru,.slice A2 n2 cap2,.string ⟨#[]⟩,.int .i64 po,.int .i64 pl,.int .i64 pc]) rfl),Acc.held (e:=125) (by exact Acc.mono (h:=(Acc.carry X3.out ((((((((((Fr.r.set (.inl (by omega))).set (.inl (by omega))).set (.inl (by omega))).set (.inl (by omega))).set (.inl (by omega))).set (.inl (by omega))).set (.inl (by omega))).set (.inl (by omega))).set (.inl (by omega))).set (.inl (by omega))))) (hZ:=fun g _ hg=>by omega)) (by omega),by exact ScpR.mono (h:=(ScpR.carry X2.out ((((((((((Fr.r.set (.inl (by omega))).set (.inl (by omega))).set (.inl (by omega))).set (.inl (by omega))).set (.inl (by omega))).set (.inl (by omega))).set (.inl (by omega))).set (.inl (by omega))).set (.inl (by omega))).set (.inl (by omega))))) (hZ:=fun g _ hg=>by omega),by exact ScpR.mono (h:=(ScpR.carry X5.out ((((((((((Fr.r.set (.inl (by omega))).set (.inl (by omega))).set (.inl (by omega))).set (.inl (by omega))).set (.inl (by omega))).set (.inl (by omega))).set (.inl (by omega))).set (.inl (by omega))).set (.inl (by omega))).set (.inl (by omega))))) (hZ:=fun g _ hg=>by omega),by exact ScpR.mono (h:=(ScpR.carry X4.out ((((((((((Fr.r.set (.inl (by omega))).set (.inl (by omega))).set (.inl (by omega))).set (.inl (by omega))).set (.inl (by omega))).set (.inl (by omega))).set (.inl (by omega))).set (.inl (by omega))).set (.inl (by omega))).set (.inl (by omega))))) (hZ:=fun g _ hg=>by omega),Acc.held (e:=130) (by exact Acc.mono (h:=(Acc.carry X0.out ((((((((((Fr.r.set (.inl (by omega))).set (.inl (by omega))).set (.inl (by omega))).set (.inl (by omega))).set (.inl (by omega))).set (.inl (by omega))).set (.inl (by omega))).set (.inl (by omega))).set (.inl (by omega))).set (.inl (by omega))))) (hZ:=fun g _ hg=>by omega)) (by omega),by exact PSt.frame15 (S:=fun k=>15<=k/\k ≠ pb/\k ≠ tb) P0.out ((((((((((Fr.r.set (.inl (by omega))).set (.inl (by omega))).set (.inl (by omega))).set (.inl (by omega))).set (.inl (by omega))).set (.inl (by omega))).set (.inl (by omega))).set (.inl (by omega))).set (.inl (by omega))).set (.inl (by omega))) (by show ¬ _;omega) (by show ¬ _;omega) (fun k h1 h2=>by omega),by exact((((((((((T1.out.set (.inl (.inr rfl))).set (.inl (.inr rfl))).set (.inl (.inr rfl))).set (.inl (.inr rfl))).set (.inl (.inr rfl))).set (.inl (.inr rfl))).set (.inl (.inr rfl))).set (.inl (.inr rfl))).set (.inl (.inr rfl))).set (.inl (.inr rfl)))⟩
end Go.Proofs.YtbdhlpeckennjaaGreatDoor
