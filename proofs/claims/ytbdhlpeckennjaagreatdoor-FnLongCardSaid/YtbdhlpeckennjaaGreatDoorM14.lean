/- FnLong (the proof that the law returns true for every input), part 14 of 52; the last part says what is proved, and its condition. -/
import Derived.Deep.RegionHeld3
import Derived.Test.YtbdhlpeckennjaaGreatDoorM04
import Derived.Test.YtbdhlpeckennjaaGreatDoorM05
import Derived.Test.YtbdhlpeckennjaaGreatDoorM13
set_option linter.unusedVariables false
set_option linter.unusedSimpArgs false
set_option maxHeartbeats 80000000
set_option maxRecDepth 1000000
namespace Go.Proofs.YtbdhlpeckennjaaGreatDoor
open Go Go.RowKit
def sg (pb tb:Nat)(w:World)(r:PR (List (ByteArray × ByteArray)))(e:Ending)(w':World):Prop :=
 match r with
 | .ok l ts=>∃ (A:Option Addr) (n cap:Nat),e = .returned (.tuple #[.agg #[.slice A n cap],.nilIface])/\Acc dP w' (w.heap.size <= ·) (.slice A n cap) l 125 2/\l.length<=100000/\PSt w' pb tb ts/\Fr (· = pb) w w'
 | .bad=>∃ (A:Option Addr) (n cap:Nat) (t:TypeId) (u:Value),e = .returned (.tuple #[.agg #[.slice A n cap],.iface t u])/\Fr (· = pb) w w'
 | .out=>True
theorem lC{known:List (ByteArray × ByteArray)}{k:Nat}{ts:List Tok}(hq:((hd ts).text.toList == [64])=true):ai be (k+1) known ts=(bC known (adv ts)).bind fun n ts1=>ai be k (known ++ [n]) ts1:=by
 simp only[ai,be]
 rw[if_pos (by simpa[Tok.is] using hq)]
 cases bC known (adv ts) <;> rfl
theorem jm(hSV:cC)(w:World)(pb tb:Nat)(ts:List Tok)(h:PSt w pb tb ts)(hne:aj be [] ts ≠ .out) :
  Calls Tryz.prog 62 #[.pointer (some ⟨pb,0,none⟩)] w (sg pb tb w (aj be [] ts)):=by
 have hft:=aq
 have ltp:=h.lt
 have ltt:=h.lt2
 have ll:=h.len
 have P0:=hqZ h
 have T0:=hqZ (Fr.refl (· = pb) w)
 have HN:=hqZ hne
 have HS:=hqZ hSV
 clear h hne hSV
 go_enter Tryz.func62,Tryz.ntmps62
 go_wp2_with fail
 go_loopg [] (ts.length+1) (fun k wr=>∃ (l:List (ByteArray × ByteArray)) (ts':List Tok) (A:Option Addr) (n cap:Nat) (mv:Value) (mb:Nat),
  ai be k l ts'=aj be [] ts/\PSt wr pb tb ts'/\Fr (· = pb) w wr/\Acc dP wr (fun g=>w.heap.size+1+1 < g/\g ≠ mb) (.slice A n cap) l 125 2 /\
  KM wr (fun g=>g=mb) mv (l.map (·.1))/\(w.heap.size+1+1<=mb/\mb < wr.heap.size)/\l.length+k<=100001 /\
  Blk wr w.heap.size #[.slice none 0 0] 140/\Blk wr (w.heap.size+1) #[.slice A n cap] 140/\Blk wr (w.heap.size+1+1) #[mv] 230)
 case atStart=>exact⟨[],ts,none,0,0,.map none,w.heap.size+1+1,rfl,by exact PSt.over (w0:=w) P0.out (((Fr.r.alloc _).alloc _).alloc _) ltp ltt,by exact(((T0.out.alloc _).alloc _).alloc _),Acc.nil _ _ _ _,.inl ⟨rfl,rfl⟩,by simp only[aa];omega,by simp;omega,by exact(((Blk.at_ _ _ _ (n:=w.heap.size) rfl).alloc _).alloc _),by exact((Blk.at_ _ _ _ (n:=w.heap.size+1) (by simp only[aa,ae,ad,af])).alloc _),by exact(Blk.at_ _ _ _ (n:=w.heap.size+1+1) (by simp only[aa,ae,ad,af]))⟩
 case round =>
  obtain⟨l,ts',A,n,cap,mv,mb,e1,hp,hf,hacc,hkm,hmb,hlen,hb1,hb2,hb3⟩:=hrel
  (clear T0;clear P0;have H0:=hqZ hf;have xs0:=Fr.size H0.out;clear hf;have H1:=hqZ hp;clear hp;have H2:=hqZ hb1;obtain⟨xk0,xl0⟩:=Blk.k1 H2.out;clear hb1;have H3:=hqZ hb2;obtain⟨xk1,xl1⟩:=Blk.k1 H3.out;clear hb2;have H4:=hqZ hb3;obtain⟨xk2,xl2⟩:=Blk.k1 H4.out;clear hb3;have H5:=hqZ (Acc.mono (Z':=fun g=>(w.heap.size+1+1 < g/\g ≠ mb)/\g < wr.heap.size) (hZ:=fun g h1 h2=>⟨h2,h1⟩) (h:=hacc));clear hacc;have H6:=hqZ (KM.mono (Z':=fun g=>g=mb/\g < wr.heap.size) (hZ:=fun g h1 h2=>⟨h2,h1⟩) (h:=hkm));clear hkm)
  have E0:=hqZ e1
  clear e1
  obtain⟨k,rfl⟩:∃ k,gk=k+1:=by
   cases gk with
   | zero=>exact absurd E0.out.symm HN.out
   | succ k=>exact⟨k,rfl⟩
  (go_wp2_with fail;refine(ay _ pb tb ts' ?_).mono ?_;(all_goals try exact H1.out);rintro e v1 ⟨⟨o1,l1,c1,rfl⟩,hf⟩;(have xs1:=Fr.size hf;have T0:=hqZ (Fr.transN H0.out hf);clear H0;have P0:=hqZ (PSt.new (H1.out) hf);clear H1;have B0:=hqZ (Blk.next H2.out hf id);clear H2;obtain⟨xk3,xl3⟩:=Blk.k1 B0.out;have B1:=hqZ (Blk.next H3.out hf id);clear H3;obtain⟨xk4,xl4⟩:=Blk.k1 B1.out;have B2:=hqZ (Blk.next H4.out hf id);clear H4;obtain⟨xk5,xl5⟩:=Blk.k1 B2.out;have X0:=hqZ (Acc.carry H5.out (Fr.transN Fr.r hf));clear H5;have X1:=hqZ (KM.carry H6.out (Fr.transN Fr.r hf));clear H6;clear hf;clear xk0 xk1 xk2))
  cases hq:((hd ts').text.toList == [64])
  case false =>
   have ER:=hqZ (show aj be [] ts = .ok l ts' from by rw[<- E0.out];simp[ai,be,Tok.is,hq,PR.bind])
   go_wp2
   refine bodyPost_ret (v:=(.tuple #[.agg #[.slice A n cap],.nilIface])) (by simp only[results,Tryz.results62];go_simp) rfl ?_
   rw[ER.out]
   exact⟨_,_,_,rfl,by exact Acc.mono (h:=(Acc.carry X0.out (Fr.r.set (.inl (by omega))))) (hZ:=fun g _ hg=>by omega),by omega,by exact PSt.over (w0:=w) P0.out (Fr.r.set (.inl (by omega))) ltp ltt,by exact(T0.out.set (.inr (Nat.le_refl _)))⟩
  case true =>
   have E1:=hqZ (show(bC l (adv ts')).bind (fun n ts1=>ai be k (l ++ [n]) ts1)=aj be [] ts from by rw[<- E0.out,lC hq])
   (go_wp2_with fail;refine(ag _ pb tb ts' ?_).mono ?_;(all_goals try exact P0.out);rintro e v2 ⟨⟨o2,l2,c2,rfl⟩,hp,hf⟩;(have xs3:=Fr.size hf;have T1:=hqZ (Fr.trans T0.out hf);clear T0;clear P0;have B3:=hqZ (Blk.next B0.out hf (by show ¬ _;omega));clear B0;obtain⟨xk0,xl6⟩:=Blk.k1 B3.out;have B0:=hqZ (Blk.next B1.out hf (by show ¬ _;omega));clear B1;obtain⟨xk1,xl7⟩:=Blk.k1 B0.out;have B1:=hqZ (Blk.next B2.out hf (by show ¬ _;omega));clear B2;obtain⟨xk2,xl8⟩:=Blk.k1 B1.out;have X2:=hqZ (Acc.carry X0.out (Fr.trans' Fr.r hf (fun k _ hs=>by omega)));clear X0;have X0:=hqZ (KM.carry X1.out (Fr.trans' Fr.r hf (fun k _ hs=>by omega)));clear X1;have P0:=hqZ hp;clear hp;clear hf;clear xk3 xk4 xk5))
   cases hs:bC l (adv ts')with
   | out=>exact absurd (by rw[<- E1.out,hs];rfl) HN.out
   | bad =>
    (go_wp2_with fail;refine(got (lS pb tb (w.heap.size+1) (w.heap.size+1+1) mb l) (kA HS.out _ pb tb (w.heap.size+1) (w.heap.size+1+1) mb (adv ts') A n cap mv l ?_ (by exact B0.out) (by exact B1.out) (by exact Acc.mono (h:=X2.out) (hZ:=fun g _ hg=>by omega)) (by exact KM.mono (h:=X0.out) (hZ:=fun g _ hg=>by omega)) (by omega) (by omega) (by omega) (by omega) (by omega)) hs).mono ?_;(all_goals try exact P0.out);rintro e v3 ⟨t,u,A',n',cap',rfl,hb,hf⟩;(have xs5:=Fr.size hf;have T0:=hqZ (Fr.trans' T1.out hf (fun k hk hs=>by omega));clear T1;clear P0;have B2:=hqZ (Blk.next B3.out hf (by show ¬ _;omega));clear B3;obtain⟨xk3,xl9⟩:=Blk.k1 B2.out;clear B0;clear B1;have B0:=hqZ hb;obtain⟨xk4,xl10⟩:=Blk.k1 B0.out;clear hb;clear X2;clear X0;clear hf;clear xk0 xk1 xk2))
    go_wp2
    refine bodyPost_ret (v:=(.tuple #[.agg #[.slice A' n' cap'],.iface t u])) (by simp only[results,Tryz.results62];go_simp) rfl ?_
    rw[show aj be [] ts = .bad from by rw[<- E1.out,hs];rfl]
    exact⟨_,_,_,t,u,rfl,by exact(T0.out.set (.inr (Nat.le_refl _)))⟩
   | ok y ts1 =>
    (go_wp2_with fail;refine(got (lS pb tb (w.heap.size+1) (w.heap.size+1+1) mb l) (kA HS.out _ pb tb (w.heap.size+1) (w.heap.size+1+1) mb (adv ts') A n cap mv l ?_ (by exact B0.out) (by exact B1.out) (by exact Acc.mono (h:=X2.out) (hZ:=fun g _ hg=>by omega)) (by exact KM.mono (h:=X0.out) (hZ:=fun g _ hg=>by omega)) (by omega) (by omega) (by omega) (by omega) (by omega)) hs).mono ?_;(all_goals try exact P0.out);rintro e v3 ⟨A',n',cap',mv',mb',rfl,hb1,hb2,hacc,hkm,hmb2,hp,hf⟩;(have xs5:=Fr.size hf;have T0:=hqZ (Fr.trans' T1.out hf (fun k hk hs=>by omega));clear T1;clear P0;have B2:=hqZ (Blk.next B3.out hf (by show ¬ _;omega));clear B3;obtain⟨xk3,xl9⟩:=Blk.k1 B2.out;clear B0;clear B1;have B0:=hqZ hb1;obtain⟨xk4,xl10⟩:=Blk.k1 B0.out;clear hb1;have B1:=hqZ hb2;obtain⟨xk5,xl11⟩:=Blk.k1 B1.out;clear hb2;clear X2;have X1:=hqZ (Acc.mono (Z':=fun g=>(w.heap.size+1+1 < g/\g ≠ mb')/\g < v3.heap.size) (hZ:=fun g h1 h2=>⟨h2,h1⟩) (h:=hacc));clear hacc;clear X0;have X0:=hqZ (KM.mono (Z':=fun g=>g=mb'/\g < v3.heap.size) (hZ:=fun g h1 h2=>⟨h2,h1⟩) (h:=hkm));clear hkm;have P0:=hqZ hp;clear hp;clear hf;clear xk0 xk1 xk2))
    (try simp only[aa,ae,ad,af]at hmb2)
    have E2:=hqZ (show ai be k (l ++ [y]) ts1=aj be [] ts from by rw[<- E1.out,hs];rfl)
    clear hs
    go_wp2
    go_roundg k
    case measure=>omega
    case rel=>exact⟨_,_,A',n',cap',mv',mb',E2.out,by exact P0.out,by exact T0.out,by exact Acc.mono (h:=X1.out) (hZ:=fun g _ hg=>by omega),by exact KM.mono (h:=X0.out) (hZ:=fun g _ hg=>by omega),by omega,by simp;omega,by exact B2.out,by exact B0.out,by exact B1.out⟩
def entE (_:World)(_:Nat->Prop)(x:ByteArray × ByteArray)(cs:List Value):Prop:=cs = [.string x.1,.string x.2]
instance entOK:bq entE 2 where
 frame:=fun h _ _=>h
 mono:=fun h _=>h
 len:=fun h=>by rw[h];rfl
 one:=fun h v hv=>by rw[h]at hv;simp at hv;rcases hv with rfl|rfl <;> rfl
theorem entT:ElT 158 153 2 32:=⟨by kernel_rfl,by
 have h:(Tryz.prog.info? 153).map (fun i=>(i.zero.map (·.cells.size),i.size,i.bytes))=some (some 2,2,32):=by kernel_rfl
 obtain⟨i,hi⟩:∃ i,Tryz.prog.info? 153=some i:=by cases hh:Tryz.prog.info? 153 with|none=>rw[hh]at h;cases h|some i=>exact⟨i,rfl⟩
 rw[hi]at h
 simp at h
 obtain⟨⟨z,hz,hc⟩,h1,h2⟩:=h
 exact⟨i,z,hi,hz,h1,h2,hc⟩,by decide,by decide⟩
def aV (l:List (ByteArray × ByteArray)):List Value:=l.flatMap fun x=>[.string x.1,.string x.2]
theorem ents_of{w:World}{Z:Nat->Prop}{l:List (ByteArray × ByteArray)}{xs:List Value}(h:EL entE w Z l xs):xs=aV l:=by
 induction l generalizing xs with
 | nil=>exact h
 | cons x l ih=>obtain⟨a,b,rfl,rfl,h2⟩:=h;rw[ih h2];rfl
def sh (pb tb:Nat)(w:World)(r:PR (List (ByteArray × ByteArray)))(e:Ending)(w':World):Prop :=
 match r with
 | .ok l ts=>∃ v,e = .returned (.tuple #[v,.nilIface])/\Acc entE w' (w.heap.size <= ·) v l 153 2/\l.length<=100000/\PSt w' pb tb ts/\Fr (· = pb) w w'
 | .bad=>∃ (v:Value) (t:TypeId) (u:Value),e = .returned (.tuple #[v,.iface t u])/\Fr (· = pb) w w'
 | .out=>True
theorem gy(hSV:cC)(w:World)(pb tb:Nat)(ts:List Tok)(h:PSt w pb tb ts)(hne:aj aU [] ts ≠ .out) :
  Calls Tryz.prog 92 #[.pointer (some ⟨pb,0,none⟩)] w (sh pb tb w (aj aU [] ts)):=by
 have hft:=aq
 have ltp:=h.lt
 have ltt:=h.lt2
 have ll:=h.len
 have P0:=hqZ h
 have T0:=hqZ (Fr.refl (· = pb) w)
 have HN:=hqZ hne
 have HS:=hqZ hSV
 clear h hne hSV
 go_enter Tryz.func92,Tryz.ntmps92
 go_wp2_with fail
 go_loopg [4] (ts.length+1) (fun k v wr=>∃ (l:List (ByteArray × ByteArray)) (ts':List Tok),
  ai aU k l ts'=aj aU [] ts/\PSt wr pb tb ts'/\Fr (· = pb) w wr/\Acc entE wr (w.heap.size <= ·) v l 153 2/\l.length+k<=100001)
 case atStart=>exact⟨[],ts,rfl,by exact P0.out,by exact T0.out,Acc.nil _ _ _ _,by simp;omega⟩
 case round =>
  obtain⟨l,ts',e1,hp,hf,hacc,hlen⟩:=hrel
  have HV:=hqZ hacc.lt
  (clear T0;clear P0;have H0:=hqZ hf;have xs0:=Fr.size H0.out;clear hf;have H1:=hqZ hp;clear hp;have H2:=hqZ (Acc.mono (Z':=fun g=>w.heap.size<=g/\g < wr.heap.size) (hZ:=fun g h1 h2=>⟨h2,h1⟩) (h:=hacc));clear hacc)
  have E0:=hqZ e1
  clear e1
  obtain⟨n,rfl⟩:∃ n,gk=n+1:=by
   cases gk with
   | zero=>exact absurd E0.out.symm HN.out
   | succ n=>exact⟨n,rfl⟩
  (go_wp2_with fail;refine(ay _ pb tb ts' ?_).mono ?_;(all_goals try exact H1.out);rintro e v1 ⟨⟨o1,l1,c1,rfl⟩,hf⟩;(have xs1:=Fr.size hf;have T0:=hqZ (Fr.transN H0.out hf);clear H0;have P0:=hqZ (PSt.new (H1.out) hf);clear H1;have X0:=hqZ (Acc.carry H2.out (Fr.transN Fr.r hf));clear H2;clear hf))
  cases hq:((hd ts').text.toList == [93])
  case true =>
   have ER:=hqZ (show aj aU [] ts = .ok l ts' from by rw[<- E0.out];simp[ai,aU,Tok.is,hq,PR.bind])
   go_wp2
   go_ret2
   rw[ER.out]
   exact⟨_,rfl,by exact Acc.mono (h:=X0.out) (hZ:=fun g _ hg=>by omega),by omega,by exact P0.out,by exact T0.out⟩
  case false =>
   have E1:=hqZ (show aj aU [] ts=(aJ ts').bind fun e ts1=>if(hd ts1).is [44]then ai aU n (l ++ [e]) (adv ts1)else if(hd ts1).is [93]then ai aU n (l ++ [e]) ts1 else .bad from by
    rw[<- E0.out];simp only[ai,aU,Tok.is,hq,Bool.false_eq_true,if_false];cases aJ ts' with
    | ok x ts1 =>
     rcases Bool.eq_false_or_eq_true ((hd ts1).text.toList == [44])with h1|h1 <;> rcases Bool.eq_false_or_eq_true ((hd ts1).text.toList == [93])with h2|h2 <;> simp[h1,h2,PR.bind]
    | bad=>rfl
    | out=>rfl)
   cases hs:aJ ts' with
   | out=>exact absurd (by rw[E1.out,hs];rfl) HN.out
   | bad =>
    (go_wp2_with fail;refine(got (GotE pb tb) (aL HS.out _ pb tb _ ?_ (by rw[hs];intro e;cases e)) hs).mono ?_;(all_goals try exact P0.out);rintro e v2 ⟨_,t,u,⟨a,b,rfl⟩,rfl,hf⟩;(have xs3:=Fr.size hf;have T1:=hqZ (Fr.trans T0.out hf);clear T0;clear P0;have X1:=hqZ (Acc.carry X0.out (Fr.trans' Fr.r hf (fun k _ hs=>by omega)));clear X0;clear hf))
    go_wp2
    go_ret2
    rw[E1.out,hs]
    exact⟨_,t,u,rfl,by exact(T1.out.alloc _)⟩
   | ok y ts1 =>
    (go_wp2_with fail;refine(got (GotE pb tb) (aL HS.out _ pb tb _ ?_ (by rw[hs];intro e;cases e)) hs).mono ?_;(all_goals try exact P0.out);rintro e v2 ⟨rfl,hp,hf⟩;(have xs3:=Fr.size hf;have T1:=hqZ (Fr.trans T0.out hf);clear T0;clear P0;have X1:=hqZ (Acc.carry X0.out (Fr.trans' Fr.r hf (fun k _ hs=>by omega)));clear X0;have P0:=hqZ hp;clear hp;clear hf))
    have E2:=hqZ (show aj aU [] ts=if(hd ts1).is [44]then ai aU n (l ++ [y]) (adv ts1)else if(hd ts1).is [93]then ai aU n (l ++ [y]) ts1 else .bad from by rw[E1.out,hs];rfl)
    clear hs
    go_wp2_with (at_builtin;refine bu ?_)
    unfold Stop
    refine Acc.push (E:=entE) (Z:=(w.heap.size <= ·)) entT rfl _ _ rfl rfl (by exact Acc.mono (h:=(Acc.carry X1.out ((Fr.r.alloc _).alloc _))) (hZ:=fun g _ hg=>by omega)) rfl (news:=[.string y.1,.string y.2]) (by exact(Blk.at_ _ _ _ (n:=v2.heap.size+1) (by simp only[aa,ae,ad,af]))) (y:=y) (Zy:=fun _=>False) rfl (fun k _ hk=>hk.elim) (by simp only[aa];omega) (by omega) (S:=fun k=>w.heap.size<=k/\k < wr.heap.size) (fun k e=>by have:=HV.out k e;exact⟨this.2,this.1⟩) ?_
    rintro v' v3 hacc hf
    (have xs5:=Fr.size hf;simp only[aa,ae,ad,af]at xs5;have T0:=hqZ (Fr.trans' ((T1.out.alloc _).alloc _) hf (fun k hk hs=>by omega));clear T1;have P1:=hqZ (PSt.frame (PSt.over (w0:=w) P0.out ((Fr.r.alloc _).alloc _) ltp ltt) hf (by show ¬ _;omega) (by show ¬ _;omega));clear P0;have B0:=hqZ (Blk.next ((Blk.at_ _ _ _ (n:=v2.heap.size) rfl).alloc _) hf (by show ¬ _;omega));obtain⟨xk0,xl0⟩:=Blk.k2 B0.out;have B1:=hqZ (Blk.next (Blk.at_ _ _ _ (n:=v2.heap.size+1) (by simp only[aa,ae,ad,af])) hf (by show ¬ _;omega));obtain⟨xk2,xl1⟩:=Blk.k2 B1.out;clear X1;have X0:=hqZ (Acc.mono (Z':=fun g=>w.heap.size<=g/\g < v3.heap.size) (hZ:=fun g h1 h2=>⟨h2,h1⟩) (h:=hacc));clear hacc;clear hf)
    (go_wp2_with fail;refine(ay _ pb tb ts1 ?_).mono ?_;(all_goals try exact P1.out);rintro e v4 ⟨⟨o2,l2,c2,rfl⟩,hf⟩;(have xs7:=Fr.size hf;have T1:=hqZ (Fr.transN T0.out hf);clear T0;have P0:=hqZ (PSt.new (P1.out) hf);clear P1;have B2:=hqZ (Blk.next B0.out hf id);clear B0;obtain⟨xk4,xl2⟩:=Blk.k2 B2.out;have B0:=hqZ (Blk.next B1.out hf id);clear B1;obtain⟨xk6,xl3⟩:=Blk.k2 B0.out;have X1:=hqZ (Acc.carry X0.out (Fr.transN Fr.r hf));clear X0;clear hf;clear xk0 xk2))
    cases q1:((hd ts1).text.toList == [44])
    case true =>
     have E3:=hqZ (show ai aU n (l ++ [y]) (adv ts1)=aj aU [] ts from by rw[E2.out,if_pos (by simp[Tok.is,q1])])
     (go_wp2_with fail;refine(ag _ pb tb ts1 ?_).mono ?_;(all_goals try exact P0.out);rintro e v5 ⟨⟨o3,l3,c3,rfl⟩,hp,hf⟩;(have xs9:=Fr.size hf;have T0:=hqZ (Fr.trans T1.out hf);clear T1;clear P0;have B1:=hqZ (Blk.next B2.out hf (by show ¬ _;omega));clear B2;obtain⟨xk0,xl4⟩:=Blk.k2 B1.out;have B2:=hqZ (Blk.next B0.out hf (by show ¬ _;omega));clear B0;obtain⟨xk2,xl5⟩:=Blk.k2 B2.out;have X0:=hqZ (Acc.carry X1.out (Fr.trans' Fr.r hf (fun k _ hs=>by omega)));clear X1;have P0:=hqZ hp;clear hp;clear hf;clear xk4 xk6))
     go_wp2
     go_roundg n
     case measure=>omega
     case rel=>exact⟨_,_,E3.out,by exact P0.out,by exact T0.out,by exact Acc.mono (h:=X0.out) (hZ:=fun g _ hg=>by omega),by simp;omega⟩
    cases q2:((hd ts1).text.toList == [93])
    case true =>
     have E3:=hqZ (show ai aU n (l ++ [y]) ts1=aj aU [] ts from by rw[E2.out,if_neg (by simp[Tok.is,q1]),if_pos (by simp[Tok.is,q2])])
     go_wp2
     go_roundg n
     case measure=>omega
     case rel=>exact⟨_,_,E3.out,by exact P0.out,by exact T1.out,by exact Acc.mono (h:=X1.out) (hZ:=fun g _ hg=>by omega),by simp;omega⟩
    have E3:=hqZ (show aj aU [] ts = .bad from by rw[E2.out,if_neg (by simp[Tok.is,q1]),if_neg (by simp[Tok.is,q2])])
    (go_wp2_with fail;refine(ay _ pb tb ts1 ?_).mono ?_;(all_goals try exact P0.out);rintro e v5 ⟨⟨o3,l3,c3,rfl⟩,hf⟩;(have xs9:=Fr.size hf;have T0:=hqZ (Fr.transN T1.out hf);clear T1;have P1:=hqZ (PSt.new (P0.out) hf);clear P0;have B1:=hqZ (Blk.next B2.out hf id);clear B2;obtain⟨xk0,xl4⟩:=Blk.k2 B1.out;have B2:=hqZ (Blk.next B0.out hf id);clear B0;obtain⟨xk2,xl5⟩:=Blk.k2 B2.out;have X0:=hqZ (Acc.carry X1.out (Fr.transN Fr.r hf));clear X1;clear hf;clear xk4 xk6))
    (go_wp2_with fail;refine(ax _ pb tb ts1 _ _ ?_).mono ?_;(all_goals try exact PSt.over (w0:=w) P1.out (Fr.r.alloc _) ltp ltt);rintro e v6 ⟨⟨t,u,rfl⟩,hf⟩;(have xs11:=Fr.size hf;simp only[aa,ae,ad,af]at xs11;have T1:=hqZ (Fr.transN (T0.out.alloc _) hf);clear T0;have P0:=hqZ (PSt.new (PSt.over (w0:=w) P1.out (Fr.r.alloc _) ltp ltt) hf);clear P1;have B0:=hqZ (Blk.next (B1.out.alloc _) hf id);clear B1;obtain⟨xk4,xl6⟩:=Blk.k2 B0.out;have B1:=hqZ (Blk.next (B2.out.alloc _) hf id);clear B2;obtain⟨xk6,xl7⟩:=Blk.k2 B1.out;have B2:=hqZ (Blk.next (Blk.at_ _ _ _ (n:=v5.heap.size) rfl) hf id);obtain⟨xk8,xl8⟩:=Blk.k1 B2.out;have X1:=hqZ (Acc.carry X0.out (Fr.transN (Fr.r.alloc _) hf));clear X0;clear hf;clear xk0 xk2))
    go_wp2
    go_ret2
    rw[E3.out]
    exact⟨_,t,u,rfl,by exact T1.out⟩
theorem eT(w:World)(a b:ByteArray) :
  Calls Tryz.prog 129 #[.agg #[],.agg #[.string a,.string b]] w fun e w'=>e = .returned (.agg #[.string a,.string b])/\New w w':=by
 have T0:=hqZ (Fr.refl (fun _=>False) w)
 go_enter Tryz.func129,Tryz.ntmps129
 go_wp2
 refine bodyPost_ret (v:=(.agg #[.string a,.string b])) (by simp only[results,Tryz.results129];go_simp) rfl ?_
 exact⟨rfl,by exact(((T0.out.alloc _).alloc _).alloc _)⟩
theorem eS(w:World)(a b:ByteArray) :
  Calls Tryz.prog 133 #[.agg #[],.agg #[.string a,.string b]] w fun e w'=>e = .returned (.agg #[.string a,.string b])/\New w w':=by
 have T0:=hqZ (Fr.refl (fun _=>False) w)
 go_enter Tryz.func133,Tryz.ntmps133
 go_wp2
 refine bodyPost_ret (v:=(.agg #[.string a,.string b])) (by simp only[results,Tryz.results133];go_simp) rfl ?_
 exact⟨rfl,by exact(((T0.out.alloc _).alloc _).alloc _)⟩
theorem gW(w:World)(t:ByteArray) :
  Calls Tryz.prog 132 #[.agg #[],.string t] w fun e w'=>e = .returned (.agg #[.string t])/\New w w':=by
 have T0:=hqZ (Fr.refl (fun _=>False) w)
 go_enter Tryz.func132,Tryz.ntmps132
 go_wp2
 refine bodyPost_ret (v:=(.agg #[.string t])) (by simp only[results,Tryz.results132];go_simp) rfl ?_
 exact⟨rfl,by exact((T0.out.alloc _).alloc _)⟩
theorem fF(w:World)(t a b:ByteArray) :
  Calls Tryz.prog 131 #[.agg #[],.string t,.agg #[.string a,.string b]] w fun e w'=>e = .returned (.agg #[.string t,.string a,.string b])/\New w w':=by
 have T0:=hqZ (Fr.refl (fun _=>False) w)
 go_enter Tryz.func131,Tryz.ntmps131
 go_wp2
 refine bodyPost_ret (v:=(.agg #[.string t,.string a,.string b])) (by simp only[results,Tryz.results131];go_simp) rfl ?_
 exact⟨rfl,by exact(((T0.out.alloc _).alloc _).alloc _)⟩
theorem jd(w:World)(A:Option Addr)(n c:Nat) :
  Calls Tryz.prog 134 #[.agg #[],.slice A n c] w fun e w'=>e = .returned (.agg #[.slice A n c])/\New w w':=by
 have T0:=hqZ (Fr.refl (fun _=>False) w)
 go_enter Tryz.func134,Tryz.ntmps134
 go_wp2
 refine bodyPost_ret (v:=(.agg #[.slice A n c])) (by simp only[results,Tryz.results134];go_simp) rfl ?_
 exact⟨rfl,by exact((T0.out.alloc _).alloc _)⟩
theorem fN(w:World)(qb:Nat)(c0 c1 c2 c3 c4 c5 c6 c7 c8 c9:Value)(a b:ByteArray)(hb:Blk w qb #[c0,c1,c2,c3,c4,c5,c6,c7,c8,c9] 120) :
  Calls Tryz.prog 86 #[.pointer (some ⟨qb,0,none⟩),.agg #[.string a,.string b]] w fun e w'=>e = .returned (.pointer (some ⟨qb,0,none⟩))/\Blk w' qb #[c0,c1,.iface 155 (.agg #[.string a,.string b]),c3,c4,c5,c6,c7,c8,c9] 120/\Fr (· = qb) w w':=by
 have ltq:=hb.lt
 have B0:=hqZ hb
 have T0:=hqZ (Fr.refl (· = qb) w)
 have xc0:=hb.cell 2 _ rfl
 have xf0:=hb.free 2
 clear hb
 go_enter Tryz.func86,Tryz.ntmps86
 (go_wp2_with fail;refine(eT _ _ _).mono ?_;rintro e w1 ⟨rfl,hf⟩;(have xs0:=Fr.size hf;simp only[aa,ae,ad,af]at xs0;have T1:=hqZ (Fr.transN (T0.out.alloc _) hf);clear T0;have B1:=hqZ (Blk.next (B0.out.alloc _) hf id);clear B0;obtain⟨xk1,xl0⟩:=Blk.k10 B1.out;have B0:=hqZ (Blk.next (Blk.at_ _ _ _ (n:=w.heap.size) rfl) hf id);obtain⟨xk11,xl1⟩:=Blk.k2 B0.out;clear hf;clear xc0 xf0))
 go_wp2
 go_ret
 exact⟨rfl,by exact(Blk.set B1.out 2 _ (cs':=#[c0,c1,.iface 155 (.agg #[.string a,.string b]),c3,c4,c5,c6,c7,c8,c9]) rfl),by exact(T1.out.set (.inl rfl))⟩
theorem fM(w:World)(qb:Nat)(c0 c1 c2 c3 c4 c5 c6 c7 c8 c9:Value)(a b:ByteArray)(hb:Blk w qb #[c0,c1,c2,c3,c4,c5,c6,c7,c8,c9] 120) :
  Calls Tryz.prog 90 #[.pointer (some ⟨qb,0,none⟩),.agg #[.string a,.string b]] w fun e w'=>e = .returned (.pointer (some ⟨qb,0,none⟩))/\Blk w' qb #[c0,c1,.iface 157 (.agg #[.string a,.string b]),c3,c4,c5,c6,c7,c8,c9] 120/\Fr (· = qb) w w':=by
 have ltq:=hb.lt
 have B0:=hqZ hb
 have T0:=hqZ (Fr.refl (· = qb) w)
 have xc0:=hb.cell 2 _ rfl
 have xf0:=hb.free 2
 clear hb
 go_enter Tryz.func90,Tryz.ntmps90
 (go_wp2_with fail;refine(eS _ _ _).mono ?_;rintro e w1 ⟨rfl,hf⟩;(have xs0:=Fr.size hf;simp only[aa,ae,ad,af]at xs0;have T1:=hqZ (Fr.transN (T0.out.alloc _) hf);clear T0;have B1:=hqZ (Blk.next (B0.out.alloc _) hf id);clear B0;obtain⟨xk1,xl0⟩:=Blk.k10 B1.out;have B0:=hqZ (Blk.next (Blk.at_ _ _ _ (n:=w.heap.size) rfl) hf id);obtain⟨xk11,xl1⟩:=Blk.k2 B0.out;clear hf;clear xc0 xf0))
 go_wp2
 go_ret
 exact⟨rfl,by exact(Blk.set B1.out 2 _ (cs':=#[c0,c1,.iface 157 (.agg #[.string a,.string b]),c3,c4,c5,c6,c7,c8,c9]) rfl),by exact(T1.out.set (.inl rfl))⟩
theorem fL(w:World)(qb:Nat)(c0 c1 c2 c3 c4 c5 c6 c7 c8 c9:Value)(t:ByteArray)(hb:Blk w qb #[c0,c1,c2,c3,c4,c5,c6,c7,c8,c9] 120) :
  Calls Tryz.prog 89 #[.pointer (some ⟨qb,0,none⟩),.string t] w fun e w'=>e = .returned (.pointer (some ⟨qb,0,none⟩))/\Blk w' qb #[c0,c1,.iface 162 (.agg #[.string t]),c3,c4,c5,c6,c7,c8,c9] 120/\Fr (· = qb) w w':=by
 have ltq:=hb.lt
 have B0:=hqZ hb
 have T0:=hqZ (Fr.refl (· = qb) w)
 have xc0:=hb.cell 2 _ rfl
 have xf0:=hb.free 2
 clear hb
 go_enter Tryz.func89,Tryz.ntmps89
 (go_wp2_with fail;refine(gW _ _).mono ?_;rintro e w1 ⟨rfl,hf⟩;(have xs0:=Fr.size hf;have T1:=hqZ (Fr.transN T0.out hf);clear T0;have B1:=hqZ (Blk.next B0.out hf id);clear B0;obtain⟨xk1,xl0⟩:=Blk.k10 B1.out;clear hf;clear xc0 xf0))
 go_wp2
 go_ret
 exact⟨rfl,by exact(Blk.set B1.out 2 _ (cs':=#[c0,c1,.iface 162 (.agg #[.string t]),c3,c4,c5,c6,c7,c8,c9]) rfl),by exact(T1.out.set (.inl rfl))⟩
theorem eQ(w:World)(qb:Nat)(c0 c1 c2 c3 c4 c5 c6 c7 c8 c9:Value)(t a b:ByteArray)(hb:Blk w qb #[c0,c1,c2,c3,c4,c5,c6,c7,c8,c9] 120) :
  Calls Tryz.prog 88 #[.pointer (some ⟨qb,0,none⟩),.string t,.agg #[.string a,.string b]] w fun e w'=>e = .returned (.pointer (some ⟨qb,0,none⟩))/\Blk w' qb #[c0,c1,.iface 164 (.agg #[.string t,.string a,.string b]),c3,c4,c5,c6,c7,c8,c9] 120/\Fr (· = qb) w w':=by
 have ltq:=hb.lt
 have B0:=hqZ hb
 have T0:=hqZ (Fr.refl (· = qb) w)
 have xc0:=hb.cell 2 _ rfl
 have xf0:=hb.free 2
 clear hb
 go_enter Tryz.func88,Tryz.ntmps88
 (go_wp2_with fail;refine(fF _ _ _ _).mono ?_;rintro e w1 ⟨rfl,hf⟩;(have xs0:=Fr.size hf;simp only[aa,ae,ad,af]at xs0;have T1:=hqZ (Fr.transN (T0.out.alloc _) hf);clear T0;have B1:=hqZ (Blk.next (B0.out.alloc _) hf id);clear B0;obtain⟨xk1,xl0⟩:=Blk.k10 B1.out;have B0:=hqZ (Blk.next (Blk.at_ _ _ _ (n:=w.heap.size) rfl) hf id);obtain⟨xk11,xl1⟩:=Blk.k2 B0.out;clear hf;clear xc0 xf0))
 go_wp2
 go_ret
 exact⟨rfl,by exact(Blk.set B1.out 2 _ (cs':=#[c0,c1,.iface 164 (.agg #[.string t,.string a,.string b]),c3,c4,c5,c6,c7,c8,c9]) rfl),by exact(T1.out.set (.inl rfl))⟩
theorem io(w:World)(qb:Nat)(c0 c1 c2 c3 c4 c5 c6 c7 c8 c9:Value)(a b:ByteArray)(hb:Blk w qb #[c0,c1,c2,c3,c4,c5,c6,c7,c8,c9] 120) :
  Calls Tryz.prog 91 #[.pointer (some ⟨qb,0,none⟩),.agg #[.string a,.string b]] w fun e w'=>e = .returned (.pointer (some ⟨qb,0,none⟩))/\Blk w' qb #[c0,c1,c2,.iface 155 (.agg #[.string a,.string b]),c4,c5,c6,c7,c8,c9] 120/\Fr (· = qb) w w':=by
 have ltq:=hb.lt
 have B0:=hqZ hb
 have T0:=hqZ (Fr.refl (· = qb) w)
 have xc0:=hb.cell 3 _ rfl
 have xf0:=hb.free 3
 clear hb
 go_enter Tryz.func91,Tryz.ntmps91
 (go_wp2_with fail;refine(eT _ _ _).mono ?_;rintro e w1 ⟨rfl,hf⟩;(have xs0:=Fr.size hf;simp only[aa,ae,ad,af]at xs0;have T1:=hqZ (Fr.transN (T0.out.alloc _) hf);clear T0;have B1:=hqZ (Blk.next (B0.out.alloc _) hf id);clear B0;obtain⟨xk1,xl0⟩:=Blk.k10 B1.out;have B0:=hqZ (Blk.next (Blk.at_ _ _ _ (n:=w.heap.size) rfl) hf id);obtain⟨xk11,xl1⟩:=Blk.k2 B0.out;clear hf;clear xc0 xf0))
 go_wp2
 go_ret
 exact⟨rfl,by exact(Blk.set B1.out 3 _ (cs':=#[c0,c1,c2,.iface 155 (.agg #[.string a,.string b]),c4,c5,c6,c7,c8,c9]) rfl),by exact(T1.out.set (.inl rfl))⟩
theorem im(w:World)(qb:Nat)(c0 c1 c2 c3 c4 c5 c6 c7 c8 c9:Value)(a b:ByteArray)(hb:Blk w qb #[c0,c1,c2,c3,c4,c5,c6,c7,c8,c9] 120) :
  Calls Tryz.prog 94 #[.pointer (some ⟨qb,0,none⟩),.agg #[.string a,.string b]] w fun e w'=>e = .returned (.pointer (some ⟨qb,0,none⟩))/\Blk w' qb #[c0,c1,c2,.iface 157 (.agg #[.string a,.string b]),c4,c5,c6,c7,c8,c9] 120/\Fr (· = qb) w w':=by
 have ltq:=hb.lt
 have B0:=hqZ hb
 have T0:=hqZ (Fr.refl (· = qb) w)
 have xc0:=hb.cell 3 _ rfl
 have xf0:=hb.free 3
 clear hb
 go_enter Tryz.func94,Tryz.ntmps94
 (go_wp2_with fail;refine(eS _ _ _).mono ?_;rintro e w1 ⟨rfl,hf⟩;(have xs0:=Fr.size hf;simp only[aa,ae,ad,af]at xs0;have T1:=hqZ (Fr.transN (T0.out.alloc _) hf);clear T0;have B1:=hqZ (Blk.next (B0.out.alloc _) hf id);clear B0;obtain⟨xk1,xl0⟩:=Blk.k10 B1.out;have B0:=hqZ (Blk.next (Blk.at_ _ _ _ (n:=w.heap.size) rfl) hf id);obtain⟨xk11,xl1⟩:=Blk.k2 B0.out;clear hf;clear xc0 xf0))
 go_wp2
 go_ret
 exact⟨rfl,by exact(Blk.set B1.out 3 _ (cs':=#[c0,c1,c2,.iface 157 (.agg #[.string a,.string b]),c4,c5,c6,c7,c8,c9]) rfl),by exact(T1.out.set (.inl rfl))⟩
theorem fO(w:World)(qb:Nat)(c0 c1 c2 c3 c4 c5 c6 c7 c8 c9:Value)(A:Option Addr)(n c:Nat)(hb:Blk w qb #[c0,c1,c2,c3,c4,c5,c6,c7,c8,c9] 120) :
  Calls Tryz.prog 93 #[.pointer (some ⟨qb,0,none⟩),.slice A n c] w fun e w'=>e = .returned (.pointer (some ⟨qb,0,none⟩))/\Blk w' qb #[c0,c1,c2,.iface 160 (.agg #[.slice A n c]),c4,c5,c6,c7,c8,c9] 120/\Fr (· = qb) w w':=by
 have ltq:=hb.lt
 have B0:=hqZ hb
 have T0:=hqZ (Fr.refl (· = qb) w)
 have xc0:=hb.cell 3 _ rfl
 have xf0:=hb.free 3
 clear hb
 go_enter Tryz.func93,Tryz.ntmps93
 (go_wp2_with fail;refine(jd _ _ _ _).mono ?_;rintro e w1 ⟨rfl,hf⟩;(have xs0:=Fr.size hf;have T1:=hqZ (Fr.transN T0.out hf);clear T0;have B1:=hqZ (Blk.next B0.out hf id);clear B0;obtain⟨xk1,xl0⟩:=Blk.k10 B1.out;clear hf;clear xc0 xf0))
 go_wp2
 go_ret
 exact⟨rfl,by exact(Blk.set B1.out 3 _ (cs':=#[c0,c1,c2,.iface 160 (.agg #[.slice A n c]),c4,c5,c6,c7,c8,c9]) rfl),by exact(T1.out.set (.inl rfl))⟩
theorem go(w:World)(qb:Nat)(c0 c1 c2 c3 c4 c5 c6 c7 c8 c9:Value)(a b:ByteArray)(hb:Blk w qb #[c0,c1,c2,c3,c4,c5,c6,c7,c8,c9] 120) :
  Calls Tryz.prog 95 #[.pointer (some ⟨qb,0,none⟩),.agg #[.string a,.string b]] w fun e w'=>e = .returned (.pointer (some ⟨qb,0,none⟩))/\Blk w' qb #[c0,c1,c2,c3,.iface 155 (.agg #[.string a,.string b]),c5,c6,c7,c8,c9] 120/\Fr (· = qb) w w':=by
 have ltq:=hb.lt
 have B0:=hqZ hb
 have T0:=hqZ (Fr.refl (· = qb) w)
 have xc0:=hb.cell 4 _ rfl
 have xf0:=hb.free 4
 clear hb
 go_enter Tryz.func95,Tryz.ntmps95
 (go_wp2_with fail;refine(eT _ _ _).mono ?_;rintro e w1 ⟨rfl,hf⟩;(have xs0:=Fr.size hf;simp only[aa,ae,ad,af]at xs0;have T1:=hqZ (Fr.transN (T0.out.alloc _) hf);clear T0;have B1:=hqZ (Blk.next (B0.out.alloc _) hf id);clear B0;obtain⟨xk1,xl0⟩:=Blk.k10 B1.out;have B0:=hqZ (Blk.next (Blk.at_ _ _ _ (n:=w.heap.size) rfl) hf id);obtain⟨xk11,xl1⟩:=Blk.k2 B0.out;clear hf;clear xc0 xf0))
 go_wp2
 go_ret
 exact⟨rfl,by exact(Blk.set B1.out 4 _ (cs':=#[c0,c1,c2,c3,.iface 155 (.agg #[.string a,.string b]),c5,c6,c7,c8,c9]) rfl),by exact(T1.out.set (.inl rfl))⟩
theorem gn(w:World)(qb:Nat)(c0 c1 c2 c3 c4 c5 c6 c7 c8 c9:Value)(a b:ByteArray)(hb:Blk w qb #[c0,c1,c2,c3,c4,c5,c6,c7,c8,c9] 120) :
  Calls Tryz.prog 98 #[.pointer (some ⟨qb,0,none⟩),.agg #[.string a,.string b]] w fun e w'=>e = .returned (.pointer (some ⟨qb,0,none⟩))/\Blk w' qb #[c0,c1,c2,c3,.iface 157 (.agg #[.string a,.string b]),c5,c6,c7,c8,c9] 120/\Fr (· = qb) w w':=by
 have ltq:=hb.lt
 have B0:=hqZ hb
 have T0:=hqZ (Fr.refl (· = qb) w)
 have xc0:=hb.cell 4 _ rfl
 have xf0:=hb.free 4
 clear hb
 go_enter Tryz.func98,Tryz.ntmps98
 (go_wp2_with fail;refine(eS _ _ _).mono ?_;rintro e w1 ⟨rfl,hf⟩;(have xs0:=Fr.size hf;simp only[aa,ae,ad,af]at xs0;have T1:=hqZ (Fr.transN (T0.out.alloc _) hf);clear T0;have B1:=hqZ (Blk.next (B0.out.alloc _) hf id);clear B0;obtain⟨xk1,xl0⟩:=Blk.k10 B1.out;have B0:=hqZ (Blk.next (Blk.at_ _ _ _ (n:=w.heap.size) rfl) hf id);obtain⟨xk11,xl1⟩:=Blk.k2 B0.out;clear hf;clear xc0 xf0))
 go_wp2
 go_ret
 exact⟨rfl,by exact(Blk.set B1.out 4 _ (cs':=#[c0,c1,c2,c3,.iface 157 (.agg #[.string a,.string b]),c5,c6,c7,c8,c9]) rfl),by exact(T1.out.set (.inl rfl))⟩
theorem gm(w:World)(qb:Nat)(c0 c1 c2 c3 c4 c5 c6 c7 c8 c9:Value)(t:ByteArray)(hb:Blk w qb #[c0,c1,c2,c3,c4,c5,c6,c7,c8,c9] 120) :
  Calls Tryz.prog 97 #[.pointer (some ⟨qb,0,none⟩),.string t] w fun e w'=>e = .returned (.pointer (some ⟨qb,0,none⟩))/\Blk w' qb #[c0,c1,c2,c3,.iface 162 (.agg #[.string t]),c5,c6,c7,c8,c9] 120/\Fr (· = qb) w w':=by
 have ltq:=hb.lt
 have B0:=hqZ hb
 have T0:=hqZ (Fr.refl (· = qb) w)
 have xc0:=hb.cell 4 _ rfl
 have xf0:=hb.free 4
 clear hb
 go_enter Tryz.func97,Tryz.ntmps97
 (go_wp2_with fail;refine(gW _ _).mono ?_;rintro e w1 ⟨rfl,hf⟩;(have xs0:=Fr.size hf;have T1:=hqZ (Fr.transN T0.out hf);clear T0;have B1:=hqZ (Blk.next B0.out hf id);clear B0;obtain⟨xk1,xl0⟩:=Blk.k10 B1.out;clear hf;clear xc0 xf0))
 go_wp2
 go_ret
 exact⟨rfl,by exact(Blk.set B1.out 4 _ (cs':=#[c0,c1,c2,c3,.iface 162 (.agg #[.string t]),c5,c6,c7,c8,c9]) rfl),by exact(T1.out.set (.inl rfl))⟩
theorem fC(w:World)(qb:Nat)(c0 c1 c2 c3 c4 c5 c6 c7 c8 c9:Value)(t a b:ByteArray)(hb:Blk w qb #[c0,c1,c2,c3,c4,c5,c6,c7,c8,c9] 120) :
  Calls Tryz.prog 96 #[.pointer (some ⟨qb,0,none⟩),.string t,.agg #[.string a,.string b]] w fun e w'=>e = .returned (.pointer (some ⟨qb,0,none⟩))/\Blk w' qb #[c0,c1,c2,c3,.iface 164 (.agg #[.string t,.string a,.string b]),c5,c6,c7,c8,c9] 120/\Fr (· = qb) w w':=by
 have ltq:=hb.lt
 have B0:=hqZ hb
 have T0:=hqZ (Fr.refl (· = qb) w)
 have xc0:=hb.cell 4 _ rfl
 have xf0:=hb.free 4
 clear hb
 go_enter Tryz.func96,Tryz.ntmps96
 (go_wp2_with fail;refine(fF _ _ _ _).mono ?_;rintro e w1 ⟨rfl,hf⟩;(have xs0:=Fr.size hf;simp only[aa,ae,ad,af]at xs0;have T1:=hqZ (Fr.transN (T0.out.alloc _) hf);clear T0;have B1:=hqZ (Blk.next (B0.out.alloc _) hf id);clear B0;obtain⟨xk1,xl0⟩:=Blk.k10 B1.out;have B0:=hqZ (Blk.next (Blk.at_ _ _ _ (n:=w.heap.size) rfl) hf id);obtain⟨xk11,xl1⟩:=Blk.k2 B0.out;clear hf;clear xc0 xf0))
 go_wp2
 go_ret
 exact⟨rfl,by exact(Blk.set B1.out 4 _ (cs':=#[c0,c1,c2,c3,.iface 164 (.agg #[.string t,.string a,.string b]),c5,c6,c7,c8,c9]) rfl),by exact(T1.out.set (.inl rfl))⟩
end Go.Proofs.YtbdhlpeckennjaaGreatDoor
