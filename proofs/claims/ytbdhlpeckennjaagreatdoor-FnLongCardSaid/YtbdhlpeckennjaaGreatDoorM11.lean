/- FnLong (the proof that the law returns true for every input), part 11 of 52; the last part says what is proved, and its condition. -/
import Derived.Test.YtbdhlpeckennjaaGreatDoorM09
import Derived.Test.YtbdhlpeckennjaaGreatDoorM10
set_option linter.unusedVariables false
set_option linter.unusedSimpArgs false
set_option maxHeartbeats 80000000
set_option maxRecDepth 1000000
namespace Go.Proofs.YtbdhlpeckennjaaGreatDoor
open Go Go.RowKit
def kQ (_:World)(_:Nat->Prop)(x:Bool)(cs:List Value):Prop:=cs = [.bool x]
instance boolOK:bq kQ 1 where
 frame:=fun h _ _=>h
 mono:=fun h _=>h
 len:=fun h=>by rw[h];rfl
 one:=fun h v hv=>by rw[h]at hv;simp at hv;rw[hv];rfl
theorem boolT:ElT 252 4 1 1:=⟨by kernel_rfl,by
 have h:(Tryz.prog.info? 4).map (fun i=>(i.zero.map (·.cells.size),i.size,i.bytes))=some (some 1,1,1):=by kernel_rfl
 obtain⟨i,hi⟩:∃ i,Tryz.prog.info? 4=some i:=by cases hh:Tryz.prog.info? 4 with|none=>rw[hh]at h;cases h|some i=>exact⟨i,rfl⟩
 rw[hi]at h
 simp at h
 obtain⟨⟨z,hz,hc⟩,h1,h2⟩:=h
 exact⟨i,z,hi,hz,h1,h2,hc⟩,by decide,by decide⟩
theorem rV{w:World}{Z:Nat->Prop}{l:List Bool}{xs:List Value}(h:EL kQ w Z l xs):xs=l.map Value.bool:=by
 induction l generalizing xs with
 | nil=>exact h
 | cons x l ih=>obtain⟨a,b,rfl,rfl,h2⟩:=h;rw[ih h2];rfl
theorem Row.slice{w:World}{Z:Nat->Prop}{v:Value}{n size:Nat}{xs:List Value}(h:Row w Z v n size xs):∃ A cap,v = .slice A n cap:=by
 obtain⟨_,_,A,cap,e,_⟩:=h
 exact⟨A,cap,e⟩
theorem Row.at{w:World}{Z:Nat->Prop}{A:Option Addr}{n cap:Nat}{xs:List Value}(h:Row w Z (.slice A n cap) n 1 xs){j:Nat}{u:Value}(hj:xs[j]? = some u):∃ g,A=some ⟨g,0,none⟩/\w.cell? ⟨g,j,none⟩=some u/\g < w.heap.size/\Z g:=by
 obtain⟨h1,h2,A',cap',e,h4⟩:=h
 cases e
 have hjl:j < xs.length:=(List.getElem?_eq_some_iff.1 hj).1
 obtain⟨g,e,hz,hl,hc⟩:=h4 (by omega)
 exact⟨g,e,hc j u hj,hl,hz⟩
theorem Acc.cap{α:Type}{E:World->(Nat->Prop)->α->List Value->Prop}{w:World}{Z:Nat->Prop}{A:Option Addr}{n cap:Nat}{l:List α}{e:TypeId}{size:Nat}(h:Acc E w Z (.slice A n cap) l e size):n<=cap:=by
 obtain⟨xs,h1,_⟩:=h
 rcases h1.2 with ⟨e,h⟩|⟨g,cap',cur,e,_,_,h,_⟩
 .cases e;exact Nat.le_refl _
 .cases e;omega
theorem Row.init{w:World}{Z:Nat->Prop}{A:Option Addr}{m cap:Nat}{l:List Bool}(h:Row w Z (.slice A (m+1) cap) (m+1) 1 (l.map Value.bool)):Row w Z (.slice A m cap) m 1 (l.dropLast.map Value.bool):=by
 obtain⟨h1,h2,A',cap',e,h4⟩:=h
 cases e
 simp at h1
 refine⟨by simp;omega,by omega,A,cap,rfl,fun h0=>?_⟩
 obtain⟨g,e,hz,hl,hc⟩:=h4 (by omega)
 refine⟨g,e,hz,hl,fun j u hj=>hc j u ?_⟩
 rw[List.getElem?_map]at hj ⊢
 cases hd:l.dropLast[j]? with
 | none=>rw[hd]at hj;cases hj
 | some x =>
  have hjl:=(List.getElem?_eq_some_iff.1 hd).1
  rw[List.length_dropLast]at hjl
  rw[List.getElem?_dropLast,if_pos hjl]at hd
  rw[hd]
  rw[List.getElem?_dropLast,if_pos hjl,hd]at hj
  exact hj
theorem ph(l:List Bool)(b:Bool)(x:Ex):aP (l ++ [b]) x=aP l (.opn (if b then 21 else 22) [x]):=by
 simp[aP,List.foldr_append]
theorem fK{l:List Bool}{k:Nat}{b:Bool}(h:l[k]? = some b)(x:Ex):aP (l.take (k+1)) x=aP (l.take k) (.opn (if b then 21 else 22) [x]):=by
 rw[List.take_add_one,h,Option.toList_some,ph]
def jP:Prop:=∀ (w:World) (neg:Bool) (t:ByteArray),t.size<=1000000->Glob w ->
 Calls Tryz.prog 208 #[.string (if neg then⟨#[45]⟩++t else t),.int .i64 10,.int .i64 64] w (IV w (dQ neg t))
theorem jP.neg(h:jP){w:World}{t:ByteArray}(h1:t.size<=1000000)(h2:Glob w){r:Option Int}(e:dQ true t=r):Calls Tryz.prog 208 #[.string (⟨#[45]⟩++t),.int .i64 10,.int .i64 64] w (IV w r):=e ▸ h w true t h1 h2
theorem nK(hPI:jP)(E:List Tok->PR Ex)(hM:Does 210 (br E)):Does 204 (bl E):=by
 intro w pb tb ts h hne
 have hft:=aq
 have ltp:=h.lt
 have ltt:=h.lt2
 have ll:=h.len
 have P0:=hqZ h
 have T0:=hqZ (Fr.refl (· = pb) w)
 have HN:=hqZ hne
 have HP:=hqZ hPI
 have HM:=hqZ hM
 clear h hne hPI hM
 go_enter Tryz.func204,Tryz.ntmps204
 go_wp2_with fail
 go_loopg [4] (ts.length+1) (fun k v wr=>∃ (l:List Bool) (ts':List Tok),
  (ai bR k l ts').bind (fun ops ts1=>bi E ops ts1)=bl E ts/\PSt wr pb tb ts'/\Fr (· = pb) w wr/\Acc kQ wr (w.heap.size < ·) v l 4 1/\l.length+k<=100001 /\
  Blk wr w.heap.size #[.nilIface] 246)
 case atStart=>exact⟨[],ts,rfl,by exact PSt.over (w0:=w) P0.out (Fr.r.alloc _) ltp ltt,by exact(T0.out.alloc _),Acc.nil _ _ _ _,by simp;omega,by exact(Blk.at_ _ _ _ (n:=w.heap.size) rfl)⟩
 case round =>
  obtain⟨l,ts',e1,hp,hf,hacc,hlen,hb⟩:=hrel
  have HV:=hqZ hacc.lt
  (clear T0;clear P0;have H0:=hqZ hf;have xs0:=Fr.size H0.out;clear hf;have H1:=hqZ hp;clear hp;have H2:=hqZ hb;obtain⟨xk0,xl0⟩:=Blk.k1 H2.out;clear hb;have H3:=hqZ (Acc.mono (Z':=fun g=>w.heap.size < g/\g < wr.heap.size) (hZ:=fun g h1 h2=>⟨h2,h1⟩) (h:=hacc));clear hacc)
  have E0:=hqZ e1
  clear e1
  obtain⟨n,rfl⟩:∃ n,gk=n+1:=by
   cases gk with
   | zero=>exact absurd E0.out.symm HN.out
   | succ n=>exact⟨n,rfl⟩
  (go_wp2_with fail;refine(ay _ pb tb ts' ?_).mono ?_;(all_goals try exact H1.out);rintro e v1 ⟨⟨o1,l1,c1,rfl⟩,hf⟩;(have xs1:=Fr.size hf;have T0:=hqZ (Fr.transN H0.out hf);clear H0;have P0:=hqZ (PSt.new (H1.out) hf);clear H1;have B0:=hqZ (Blk.next H2.out hf id);clear H2;obtain⟨xk1,xl1⟩:=Blk.k1 B0.out;have X0:=hqZ (Acc.carry H3.out (Fr.transN Fr.r hf));clear H3;clear hf;clear xk0))
  cases hq:((hd ts').text.toList == [45])
  case true =>
   have E1:=hqZ (show(ai bR n (l ++ [true]) (adv ts')).bind (fun ops ts1=>bi E ops ts1)=bl E ts from by rw[<- E0.out];simp[ai,bR,Tok.is,hq,PR.bind])
   (go_wp2_with fail;refine(ag _ pb tb ts' ?_).mono ?_;(all_goals try exact PSt.over (w0:=w) P0.out (Fr.r.alloc _) ltp ltt);rintro e v2 ⟨⟨o2,l2,c2,rfl⟩,hp,hf⟩;(have xs3:=Fr.size hf;simp only[aa,ae,ad,af]at xs3;have T1:=hqZ (Fr.trans (T0.out.alloc _) hf);clear T0;clear P0;have B1:=hqZ (Blk.next (B0.out.alloc _) hf (by show ¬ _;omega));clear B0;obtain⟨xk0,xl2⟩:=Blk.k1 B1.out;have B0:=hqZ (Blk.next (Blk.at_ _ _ _ (n:=v1.heap.size) rfl) hf (by show ¬ _;omega));obtain⟨xk2,xl3⟩:=Blk.k6 B0.out;have X1:=hqZ (Acc.carry X0.out (Fr.trans' (Fr.r.alloc _) hf (fun k _ hs=>by omega)));clear X0;have P0:=hqZ hp;clear hp;clear hf;clear xk1))
   go_wp2_with (at_builtin;refine bu ?_)
   unfold Stop
   refine Acc.push (E:=kQ) (Z:=(w.heap.size < ·)) boolT rfl _ _ rfl rfl (by exact Acc.mono (h:=(Acc.carry X1.out (Fr.r.alloc _))) (hZ:=fun g _ hg=>by omega)) rfl (news:=[.bool _]) (by exact(Blk.at_ _ _ _ (n:=v2.heap.size) rfl)) (Zy:=fun _=>False) rfl (fun k _ hk=>hk.elim) (by simp only[aa];omega) (by omega) (S:=fun k=>w.heap.size < k/\k < wr.heap.size) (fun k e=>by have:=HV.out k e;exact⟨this.2,this.1⟩) ?_
   rintro v' v3 hacc hf
   (have xs5:=Fr.size hf;simp only[aa,ae,ad,af]at xs5;have T0:=hqZ (Fr.trans' (T1.out.alloc _) hf (fun k hk hs=>by omega));clear T1;have P1:=hqZ (PSt.frame (PSt.over (w0:=w) P0.out (Fr.r.alloc _) ltp ltt) hf (by show ¬ _;omega) (by show ¬ _;omega));clear P0;have B2:=hqZ (Blk.next (B1.out.alloc _) hf (by show ¬ _;omega));clear B1;obtain⟨xk1,xl4⟩:=Blk.k1 B2.out;have B1:=hqZ (Blk.next (B0.out.alloc _) hf (by show ¬ _;omega));clear B0;obtain⟨xk8,xl5⟩:=Blk.k6 B1.out;have B0:=hqZ (Blk.next (Blk.at_ _ _ _ (n:=v2.heap.size) rfl) hf (by show ¬ _;omega));obtain⟨xk14,xl6⟩:=Blk.k1 B0.out;clear X1;have X0:=hqZ (Acc.mono (Z':=fun g=>w.heap.size < g/\g < v3.heap.size) (hZ:=fun g h1 h2=>⟨h2,h1⟩) (h:=hacc));clear hacc;clear hf;clear xk0 xk2)
   go_wp2
   go_roundg n
   case measure=>omega
   case rel=>exact⟨_,_,E1.out,by exact P1.out,by exact T0.out,by exact Acc.mono (h:=X0.out) (hZ:=fun g _ hg=>by omega),by simp;omega,by exact B2.out⟩
  cases hq2:((hd ts').text.toList == [33])
  case true =>
   have E1:=hqZ (show(ai bR n (l ++ [false]) (adv ts')).bind (fun ops ts1=>bi E ops ts1)=bl E ts from by rw[<- E0.out];simp[ai,bR,Tok.is,hq,hq2,PR.bind])
   (go_wp2_with fail;refine(ag _ pb tb ts' ?_).mono ?_;(all_goals try exact PSt.over (w0:=w) P0.out (Fr.r.alloc _) ltp ltt);rintro e v2 ⟨⟨o2,l2,c2,rfl⟩,hp,hf⟩;(have xs3:=Fr.size hf;simp only[aa,ae,ad,af]at xs3;have T1:=hqZ (Fr.trans (T0.out.alloc _) hf);clear T0;clear P0;have B1:=hqZ (Blk.next (B0.out.alloc _) hf (by show ¬ _;omega));clear B0;obtain⟨xk0,xl2⟩:=Blk.k1 B1.out;have B0:=hqZ (Blk.next (Blk.at_ _ _ _ (n:=v1.heap.size) rfl) hf (by show ¬ _;omega));obtain⟨xk2,xl3⟩:=Blk.k6 B0.out;have X1:=hqZ (Acc.carry X0.out (Fr.trans' (Fr.r.alloc _) hf (fun k _ hs=>by omega)));clear X0;have P0:=hqZ hp;clear hp;clear hf;clear xk1))
   go_wp2_with (at_builtin;refine bu ?_)
   unfold Stop
   refine Acc.push (E:=kQ) (Z:=(w.heap.size < ·)) boolT rfl _ _ rfl rfl (by exact Acc.mono (h:=(Acc.carry X1.out (Fr.r.alloc _))) (hZ:=fun g _ hg=>by omega)) rfl (news:=[.bool _]) (by exact(Blk.at_ _ _ _ (n:=v2.heap.size) rfl)) (Zy:=fun _=>False) rfl (fun k _ hk=>hk.elim) (by simp only[aa];omega) (by omega) (S:=fun k=>w.heap.size < k/\k < wr.heap.size) (fun k e=>by have:=HV.out k e;exact⟨this.2,this.1⟩) ?_
   rintro v' v3 hacc hf
   (have xs5:=Fr.size hf;simp only[aa,ae,ad,af]at xs5;have T0:=hqZ (Fr.trans' (T1.out.alloc _) hf (fun k hk hs=>by omega));clear T1;have P1:=hqZ (PSt.frame (PSt.over (w0:=w) P0.out (Fr.r.alloc _) ltp ltt) hf (by show ¬ _;omega) (by show ¬ _;omega));clear P0;have B2:=hqZ (Blk.next (B1.out.alloc _) hf (by show ¬ _;omega));clear B1;obtain⟨xk1,xl4⟩:=Blk.k1 B2.out;have B1:=hqZ (Blk.next (B0.out.alloc _) hf (by show ¬ _;omega));clear B0;obtain⟨xk8,xl5⟩:=Blk.k6 B1.out;have B0:=hqZ (Blk.next (Blk.at_ _ _ _ (n:=v2.heap.size) rfl) hf (by show ¬ _;omega));obtain⟨xk14,xl6⟩:=Blk.k1 B0.out;clear X1;have X0:=hqZ (Acc.mono (Z':=fun g=>w.heap.size < g/\g < v3.heap.size) (hZ:=fun g h1 h2=>⟨h2,h1⟩) (h:=hacc));clear hacc;clear hf;clear xk0 xk2)
   go_wp2
   go_roundg n
   case measure=>omega
   case rel=>exact⟨_,_,E1.out,by exact P1.out,by exact T0.out,by exact Acc.mono (h:=X0.out) (hZ:=fun g _ hg=>by omega),by simp;omega,by exact B2.out⟩
  have E1:=hqZ (show bi E l ts'=bl E ts from by rw[<- E0.out];simp[ai,bR,Tok.is,hq,hq2,PR.bind])
  clear HV
  have hacc:Acc kQ v1 (w.heap.size < ·) u4 l 4 1:=by exact Acc.mono (h:=X0.out) (hZ:=fun g _ hg=>by omega)
  obtain⟨xs,hrow,hel⟩:=hacc.row (by omega)
  obtain rfl:=rV hel
  obtain⟨N,hN⟩:∃ N,l.length=N:=⟨_,rfl⟩
  rw[hN]at hrow
  obtain⟨A,cap,rfl⟩:=hrow.slice
  have HL:=hqZ hN
  have hcap:=hacc.cap
  have hrow:Row v1 (fun g=>w.heap.size < g/\g < v1.heap.size) (.slice A N cap) N 1 (l.map Value.bool):=hrow.mono (fun g h1 h2=>⟨h2,h1⟩)
  have HR:=hqZ hrow
  clear hacc hel hrow hN
  (go_wp2_with fail;refine(ay _ pb tb ts' ?_).mono ?_;(all_goals try exact PSt.over (w0:=w) P0.out ((Fr.r.alloc _).alloc _) ltp ltt);rintro e v2 ⟨⟨o2,l2,c2,rfl⟩,hf⟩;(have xs3:=Fr.size hf;simp only[aa,ae,ad,af]at xs3;have T1:=hqZ (Fr.transN ((T0.out.alloc _).alloc _) hf);clear T0;have P1:=hqZ (PSt.new (PSt.over (w0:=w) P0.out ((Fr.r.alloc _).alloc _) ltp ltt) hf);clear P0;have B1:=hqZ (Blk.next ((B0.out.alloc _).alloc _) hf id);clear B0;obtain⟨xk0,xl2⟩:=Blk.k1 B1.out;have B0:=hqZ (Blk.next ((Blk.at_ _ _ _ (n:=v1.heap.size) rfl).alloc _) hf id);obtain⟨xk2,xl3⟩:=Blk.k6 B0.out;have B2:=hqZ (Blk.next (Blk.at_ _ _ _ (n:=v1.heap.size+1) (by simp only[aa,ae,ad,af])) hf id);obtain⟨xk8,xl4⟩:=Blk.k1 B2.out;have X1:=hqZ (Row.carry HR.out (Fr.transN ((Fr.r.alloc _).alloc _) hf));clear HR;have X2:=hqZ (Acc.carry X0.out (Fr.transN ((Fr.r.alloc _).alloc _) hf));clear X0;clear hf;clear xk1))
  cases N with
  | zero =>
   have E2:=hqZ (show(br E ts').bind (fun x ts2=>.ok (aP l x) ts2)=bl E ts from by rw[<- E1.out];obtain rfl:=List.length_eq_zero_iff.1 HL.out;simp[bi])
   cases hs:br E ts' with
   | out=>exact absurd (by rw[<- E2.out,hs];rfl) HN.out
   | bad =>
    (go_wp2_with fail;refine(HM.out.bad (tb:=tb) ?_ hs).mono ?_;(all_goals try exact PSt.over (w0:=w) P1.out (Fr.r.alloc _) ltp ltt);rintro e v3 ⟨t,u,rfl,hf⟩;(have xs5:=Fr.size hf;simp only[aa,ae,ad,af]at xs5;have T0:=hqZ (Fr.trans (T1.out.alloc _) hf);clear T1;clear P1;have B3:=hqZ (Blk.next (B1.out.alloc _) hf (by show ¬ _;omega));clear B1;obtain⟨xk1,xl5⟩:=Blk.k1 B3.out;have B1:=hqZ (Blk.next (B0.out.alloc _) hf (by show ¬ _;omega));clear B0;obtain⟨xk9,xl6⟩:=Blk.k6 B1.out;have B0:=hqZ (Blk.next (B2.out.alloc _) hf (by show ¬ _;omega));clear B2;obtain⟨xk15,xl7⟩:=Blk.k1 B0.out;have B2:=hqZ (Blk.next (Blk.at_ _ _ _ (n:=v2.heap.size) rfl) hf (by show ¬ _;omega));obtain⟨xk16,xl8⟩:=Blk.k6 B2.out;have X0:=hqZ (Row.carry X1.out (Fr.trans' (Fr.r.alloc _) hf (fun k _ hs=>by omega)));clear X1;have X1:=hqZ (Acc.carry X2.out (Fr.trans' (Fr.r.alloc _) hf (fun k _ hs=>by omega)));clear X2;clear hf;clear xk0 xk2 xk8))
    go_wp2
    refine bodyPost_ret (v:=(.tuple #[.agg #[.nilIface],.iface t u])) (by simp only[results,Tryz.results204];go_simp) rfl ?_
    rw[show bl E ts = .bad from by rw[<- E2.out,hs];rfl]
    exact⟨t,u,rfl,by exact((T0.out.set (.inr (by omega))).set (.inr (Nat.le_refl _)))⟩
   | ok x ts2 =>
    have E3:=hqZ (show bl E ts = .ok (aP l x) ts2 from by rw[<- E2.out,hs];rfl)
    (go_wp2_with fail;refine(HM.out.ok (tb:=tb) ?_ hs).mono ?_;(all_goals try exact PSt.over (w0:=w) P1.out (Fr.r.alloc _) ltp ltt);rintro e v3 ⟨t,u,rfl,hx,hp,hf⟩;(have xs5:=Fr.size hf;simp only[aa,ae,ad,af]at xs5;have T0:=hqZ (Fr.trans (T1.out.alloc _) hf);clear T1;clear P1;have B3:=hqZ (Blk.next (B1.out.alloc _) hf (by show ¬ _;omega));clear B1;obtain⟨xk1,xl5⟩:=Blk.k1 B3.out;have B1:=hqZ (Blk.next (B0.out.alloc _) hf (by show ¬ _;omega));clear B0;obtain⟨xk9,xl6⟩:=Blk.k6 B1.out;have B0:=hqZ (Blk.next (B2.out.alloc _) hf (by show ¬ _;omega));clear B2;obtain⟨xk15,xl7⟩:=Blk.k1 B0.out;have B2:=hqZ (Blk.next (Blk.at_ _ _ _ (n:=v2.heap.size) rfl) hf (by show ¬ _;omega));obtain⟨xk16,xl8⟩:=Blk.k6 B2.out;have X0:=hqZ (Rep.mono (Z':=fun g=>v2.heap.size+1<=g/\g < v3.heap.size) (hZ:=fun g h1 h2=>by simp only[aa,ae,ad,af]at h2;omega) (h:=hx));clear hx;have X3:=hqZ (Row.carry X1.out (Fr.trans' (Fr.r.alloc _) hf (fun k _ hs=>by omega)));clear X1;have X1:=hqZ (Acc.carry X2.out (Fr.trans' (Fr.r.alloc _) hf (fun k _ hs=>by omega)));clear X2;have P0:=hqZ hp;clear hp;clear hf;clear xk0 xk2 xk8))
    clear hs
    go_wp2_with fail
    go_loopg [11] l.length (fun k v wq=>∃ (z:Int) (x':Ex) (t':TypeId) (u':Value),v = .int .i64 z/\z=(k:Int) - 1/\k<=l.length/\aP (l.take k) x'=aP l x/\Rep wq (fun g=>w.heap.size < g/\g ≠ v1.heap.size+1) x' (.iface t' u')/\PSt wq pb tb ts2/\Fr (· = pb) w wq /\
     Row wq (fun g=>w.heap.size < g/\g < v1.heap.size) (.slice A 0 cap) 0 1 (l.map Value.bool)/\Blk wq w.heap.size #[.nilIface] 246/\Blk wq (v1.heap.size+1) #[.iface t' u'] 246)
    case atStart=>exact⟨_,x,t,u,rfl,by have:=HL.out;omega,Nat.le_refl _,by rw[List.take_length],by exact Rep.mono (h:=(Rep.carry X0.out (Fr.r.set (.inl (by omega))))) (hZ:=fun g _ hg=>by omega),by exact PSt.over (w0:=w) P0.out (Fr.r.set (.inl (by omega))) ltp ltt,by exact(T0.out.set (.inr (by omega))),by exact(Row.carry X3.out (Fr.r.set (.inl (by omega)))),by exact(Blk.far B3.out (by omega)),by exact B0.out.s10⟩
    case round =>
     obtain⟨z,x',t',u',rfl,hz,hk,e2,hx2,hp,hf,hrw,hb1,hb2⟩:=hrel
     (clear T0;clear P0;clear B3;clear B1;clear B0;clear B2;clear X0;clear X3;clear X1;clear xk1 xk9 xk15 xk16;have H0:=hqZ hf;have xs7:=Fr.size H0.out;clear hf;have H1:=hqZ hp;clear hp;have H2:=hqZ hb1;obtain⟨xk0,xl9⟩:=Blk.k1 H2.out;clear hb1;have H3:=hqZ hb2;obtain⟨xk1,xl10⟩:=Blk.k1 H3.out;clear hb2;have H4:=hqZ (Rep.mono (Z':=fun g=>(w.heap.size < g/\g ≠ v1.heap.size+1)/\g < wr.heap.size) (hZ:=fun g h1 h2=>⟨h2,h1⟩) (h:=hx2));clear hx2;have H5:=hqZ (Row.mono (Z':=fun g=>(w.heap.size < g/\g < v1.heap.size)/\g < wr.heap.size) (hZ:=fun g h1 h2=>⟨h2,h1⟩) (h:=hrw));clear hrw)
     have E4:=hqZ e2
     clear e2
     cases gk with
     | zero =>
      have hz0:decide (0<=z)=false:=by simp;omega
      have hz1:z < 0:=by omega
      clear hz
      have E5:=hqZ (show bl E ts = .ok x' ts2 from by rw[E3.out,<- E4.out];rfl)
      go_wp2
      refine bodyPost_ret (v:=(.tuple #[.agg #[.iface t' u'],.nilIface])) (by simp only[results,Tryz.results204];go_simp) rfl ?_
      rw[E5.out]
      exact⟨_,_,rfl,by exact Rep.mono (h:=(Rep.carry H4.out (Fr.r.set (.inl (by omega))))) (hZ:=fun g _ hg=>by omega),by exact PSt.over (w0:=w) H1.out (Fr.r.set (.inl (by omega))) ltp ltt,by exact(H0.out.set (.inr (Nat.le_refl _)))⟩
     | succ k =>
      exfalso;have:=HL.out;omega
  | succ m =>
   obtain⟨b,hb⟩:∃ b,l[m]? = some b:=by cases hh:l[m]? with|none=>have:=List.getElem?_eq_none_iff.1 hh;have:=HL.out;omega|some b=>exact⟨b,rfl⟩
   have HB:=hqZ hb
   have HLast:=hqZ (show l.getLast? = some b from by rw[List.getLast?_eq_getElem?,HL.out];exact hb)
   clear hb
   cases b with
   | false =>
    have E2:=hqZ (show(br E ts').bind (fun x ts2=>.ok (aP l x) ts2)=bl E ts from by rw[<- E1.out];simp[bi,HLast.out])
    have hrow:Row v2 (fun g=>w.heap.size < g/\g < v1.heap.size) (.slice A (m+1) cap) (m+1) 1 (l.map Value.bool):=by exact X1.out
    obtain⟨g,rfl,hc,hgl,hg⟩:=hrow.at (j:=m) (u:=.bool _) (by rw[List.getElem?_map,HB.out];rfl)
    have hml:m+1<=200000:=hrow.2.1
    have hw1:IntKind.i64.wrap (((m+1:Nat):Int) - 1)=(m:Int):=IntWalk.i64_in _ (by omega) |>.trans (by omega)
    have hw2:IntKind.i64.wrap (((m:Nat):Int)+1 - 1)=(m:Int):=IntWalk.i64_in _ (by omega) |>.trans (by omega)
    clear hrow hg
    cases hs:br E ts' with
    | out=>exact absurd (by rw[<- E2.out,hs];rfl) HN.out
    | bad =>
     (go_wp2_with fail;refine(HM.out.bad (tb:=tb) ?_ hs).mono ?_;(all_goals try exact PSt.over (w0:=w) P1.out (Fr.r.alloc _) ltp ltt);rintro e v3 ⟨t,u,rfl,hf⟩;(have xs5:=Fr.size hf;simp only[aa,ae,ad,af]at xs5;have T0:=hqZ (Fr.trans (T1.out.alloc _) hf);clear T1;clear P1;have B3:=hqZ (Blk.next (B1.out.alloc _) hf (by show ¬ _;omega));clear B1;obtain⟨xk1,xl5⟩:=Blk.k1 B3.out;have B1:=hqZ (Blk.next (B0.out.alloc _) hf (by show ¬ _;omega));clear B0;obtain⟨xk9,xl6⟩:=Blk.k6 B1.out;have B0:=hqZ (Blk.next (B2.out.alloc _) hf (by show ¬ _;omega));clear B2;obtain⟨xk15,xl7⟩:=Blk.k1 B0.out;have B2:=hqZ (Blk.next (Blk.at_ _ _ _ (n:=v2.heap.size) rfl) hf (by show ¬ _;omega));obtain⟨xk16,xl8⟩:=Blk.k6 B2.out;have X0:=hqZ (Row.carry X1.out (Fr.trans' (Fr.r.alloc _) hf (fun k _ hs=>by omega)));clear X1;have X1:=hqZ (Acc.carry X2.out (Fr.trans' (Fr.r.alloc _) hf (fun k _ hs=>by omega)));clear X2;clear hf;clear xk0 xk2 xk8))
     go_wp2
     refine bodyPost_ret (v:=(.tuple #[.agg #[.nilIface],.iface t u])) (by simp only[results,Tryz.results204];go_simp) rfl ?_
     rw[show bl E ts = .bad from by rw[<- E2.out,hs];rfl]
     exact⟨t,u,rfl,by exact((T0.out.set (.inr (by omega))).set (.inr (Nat.le_refl _)))⟩
    | ok x ts2 =>
     have E3:=hqZ (show bl E ts = .ok (aP l x) ts2 from by rw[<- E2.out,hs];rfl)
     (go_wp2_with fail;refine(HM.out.ok (tb:=tb) ?_ hs).mono ?_;(all_goals try exact PSt.over (w0:=w) P1.out (Fr.r.alloc _) ltp ltt);rintro e v3 ⟨t,u,rfl,hx,hp,hf⟩;(have xs5:=Fr.size hf;simp only[aa,ae,ad,af]at xs5;have T0:=hqZ (Fr.trans (T1.out.alloc _) hf);clear T1;clear P1;have B3:=hqZ (Blk.next (B1.out.alloc _) hf (by show ¬ _;omega));clear B1;obtain⟨xk1,xl5⟩:=Blk.k1 B3.out;have B1:=hqZ (Blk.next (B0.out.alloc _) hf (by show ¬ _;omega));clear B0;obtain⟨xk9,xl6⟩:=Blk.k6 B1.out;have B0:=hqZ (Blk.next (B2.out.alloc _) hf (by show ¬ _;omega));clear B2;obtain⟨xk15,xl7⟩:=Blk.k1 B0.out;have B2:=hqZ (Blk.next (Blk.at_ _ _ _ (n:=v2.heap.size) rfl) hf (by show ¬ _;omega));obtain⟨xk16,xl8⟩:=Blk.k6 B2.out;have X0:=hqZ (Rep.mono (Z':=fun g=>v2.heap.size+1<=g/\g < v3.heap.size) (hZ:=fun g h1 h2=>by simp only[aa,ae,ad,af]at h2;omega) (h:=hx));clear hx;have X3:=hqZ (Row.carry X1.out (Fr.trans' (Fr.r.alloc _) hf (fun k _ hs=>by omega)));clear X1;have X1:=hqZ (Acc.carry X2.out (Fr.trans' (Fr.r.alloc _) hf (fun k _ hs=>by omega)));clear X2;have P0:=hqZ hp;clear hp;clear hf;clear xk0 xk2 xk8))
     clear hs
     go_wp2_with fail
     go_loopg [11] l.length (fun k v wq=>∃ (z:Int) (x':Ex) (t':TypeId) (u':Value),v = .int .i64 z/\z=(k:Int) - 1/\k<=l.length/\aP (l.take k) x'=aP l x/\Rep wq (fun g=>w.heap.size < g/\g ≠ v1.heap.size+1) x' (.iface t' u')/\PSt wq pb tb ts2/\Fr (· = pb) w wq /\
      Row wq (fun g=>w.heap.size < g/\g < v1.heap.size) (.slice (some ⟨g,0,none⟩) (m+1) cap) (m+1) 1 (l.map Value.bool)/\Blk wq w.heap.size #[.nilIface] 246/\Blk wq (v1.heap.size+1) #[.iface t' u'] 246)
     case atStart=>exact⟨_,x,t,u,rfl,by have:=HL.out;omega,Nat.le_refl _,by rw[List.take_length],by exact Rep.mono (h:=(Rep.carry X0.out (Fr.r.set (.inl (by omega))))) (hZ:=fun g _ hg=>by omega),by exact PSt.over (w0:=w) P0.out (Fr.r.set (.inl (by omega))) ltp ltt,by exact(T0.out.set (.inr (by omega))),by exact(Row.carry X3.out (Fr.r.set (.inl (by omega)))),by exact(Blk.far B3.out (by omega)),by exact B0.out.s10⟩
     case round =>
      obtain⟨z,x',t',u',rfl,hz,hk,e2,hx2,hp,hf,hrw,hb1,hb2⟩:=hrel
      (clear T0;clear P0;clear B3;clear B1;clear B0;clear B2;clear X0;clear X3;clear X1;clear xk1 xk9 xk15 xk16;have H0:=hqZ hf;have xs7:=Fr.size H0.out;clear hf;have H1:=hqZ hp;clear hp;have H2:=hqZ hb1;obtain⟨xk0,xl9⟩:=Blk.k1 H2.out;clear hb1;have H3:=hqZ hb2;obtain⟨xk1,xl10⟩:=Blk.k1 H3.out;clear hb2;have H4:=hqZ (Rep.mono (Z':=fun g=>(w.heap.size < g/\g ≠ v1.heap.size+1)/\g < wr.heap.size) (hZ:=fun g h1 h2=>⟨h2,h1⟩) (h:=hx2));clear hx2;have H5:=hqZ (Row.mono (Z':=fun g=>(w.heap.size < g/\g < v1.heap.size)/\g < wr.heap.size) (hZ:=fun g h1 h2=>⟨h2,h1⟩) (h:=hrw));clear hrw)
      have E4:=hqZ e2
      clear e2
      cases gk with
      | zero =>
       have hz0:decide (0<=z)=false:=by simp;omega
       have hz1:z < 0:=by omega
       clear hz
       have E5:=hqZ (show bl E ts = .ok x' ts2 from by rw[E3.out,<- E4.out];rfl)
       go_wp2
       refine bodyPost_ret (v:=(.tuple #[.agg #[.iface t' u'],.nilIface])) (by simp only[results,Tryz.results204];go_simp) rfl ?_
       rw[E5.out]
       exact⟨_,_,rfl,by exact Rep.mono (h:=(Rep.carry H4.out (Fr.r.set (.inl (by omega))))) (hZ:=fun g _ hg=>by omega),by exact PSt.over (w0:=w) H1.out (Fr.r.set (.inl (by omega))) ltp ltt,by exact(H0.out.set (.inr (Nat.le_refl _)))⟩
      | succ k =>
       obtain rfl:z=(k:Int):=by omega
       obtain⟨b,hb⟩:∃ b,l[k]? = some b:=by cases hh:l[k]? with|none=>have:=List.getElem?_eq_none_iff.1 hh;omega|some b=>exact⟨b,rfl⟩
       have E5:=hqZ ((fK hb x').symm.trans E4.out)
       have hrow:Row wr (fun g=>w.heap.size < g/\g < v1.heap.size) (.slice (some ⟨g,0,none⟩) (m+1) cap) (m+1) 1 (l.map Value.bool):=by exact Row.mono (h:=H5.out) (hZ:=fun g _ hg=>by omega)
       obtain⟨g',eg,hc,hgl,hg⟩:=hrow.at (j:=k) (u:=.bool b) (by rw[List.getElem?_map,hb];rfl)
       have hkn:(k:Int) < ((m+1):Nat):=by have:=HL.out;omega
       have hk0:(0:Int)<=(k:Int):=by omega
       have hw1:IntKind.i64.wrap ((k:Int) - 1)=(k:Int) - 1:=IntWalk.i64_in _ (by omega)
       cases eg
       clear hb hrow hg hz
       cases b with
       | true =>
        (go_wp2_with fail;refine(dY _ _ _).mono ?_;rintro e v4 ⟨rfl,hf⟩;(have xs8:=Fr.size hf;have T0:=hqZ (Fr.transN H0.out hf);clear H0;have P0:=hqZ (PSt.new (H1.out) hf);clear H1;have B0:=hqZ (Blk.next H2.out hf id);clear H2;obtain⟨xk2,xl11⟩:=Blk.k1 B0.out;have B1:=hqZ (Blk.next H3.out hf id);clear H3;obtain⟨xk3,xl12⟩:=Blk.k1 B1.out;have X0:=hqZ (Rep.carry H4.out (Fr.transN Fr.r hf));clear H4;have X1:=hqZ (Row.carry H5.out (Fr.transN Fr.r hf));clear H5;clear hf;clear xk0 xk1))
        go_wp2
        go_roundg k
        case measure=>omega
        case rel=>exact⟨_,_,_,_,rfl,rfl,by omega,E5.out,.una 21 _ _ _ rfl (by exact Rep.mono (h:=(Rep.carry X0.out (Fr.r.set (.inl (by omega))))) (hZ:=fun g _ hg=>by omega)),by exact PSt.over (w0:=w) P0.out (Fr.r.set (.inl (by omega))) ltp ltt,by exact(T0.out.set (.inr (by omega))),by exact Row.mono (h:=(Row.carry X1.out (Fr.r.set (.inl (by omega))))) (hZ:=fun g _ hg=>by omega),by exact(Blk.far B0.out (by omega)),by exact B1.out.s10⟩
       | false =>
        (go_wp2_with fail;refine(fY _ _ _).mono ?_;rintro e v4 ⟨rfl,hf⟩;(have xs8:=Fr.size hf;have T0:=hqZ (Fr.transN H0.out hf);clear H0;have P0:=hqZ (PSt.new (H1.out) hf);clear H1;have B0:=hqZ (Blk.next H2.out hf id);clear H2;obtain⟨xk2,xl11⟩:=Blk.k1 B0.out;have B1:=hqZ (Blk.next H3.out hf id);clear H3;obtain⟨xk3,xl12⟩:=Blk.k1 B1.out;have X0:=hqZ (Rep.carry H4.out (Fr.transN Fr.r hf));clear H4;have X1:=hqZ (Row.carry H5.out (Fr.transN Fr.r hf));clear H5;clear hf;clear xk0 xk1))
        go_wp2
        go_roundg k
        case measure=>omega
        case rel=>exact⟨_,_,_,_,rfl,rfl,by omega,E5.out,.una 22 _ _ _ rfl (by exact Rep.mono (h:=(Rep.carry X0.out (Fr.r.set (.inl (by omega))))) (hZ:=fun g _ hg=>by omega)),by exact PSt.over (w0:=w) P0.out (Fr.r.set (.inl (by omega))) ltp ltt,by exact(T0.out.set (.inr (by omega))),by exact Row.mono (h:=(Row.carry X1.out (Fr.r.set (.inl (by omega))))) (hZ:=fun g _ hg=>by omega),by exact(Blk.far B0.out (by omega)),by exact B1.out.s10⟩
   | true =>
    have hrow:Row v2 (fun g=>w.heap.size < g/\g < v1.heap.size) (.slice A (m+1) cap) (m+1) 1 (l.map Value.bool):=by exact X1.out
    obtain⟨g,rfl,hc,hgl,hg⟩:=hrow.at (j:=m) (u:=.bool _) (by rw[List.getElem?_map,HB.out];rfl)
    have hml:m+1<=200000:=hrow.2.1
    have hw1:IntKind.i64.wrap (((m+1:Nat):Int) - 1)=(m:Int):=IntWalk.i64_in _ (by omega) |>.trans (by omega)
    have hw2:IntKind.i64.wrap (((m:Nat):Int)+1 - 1)=(m:Int):=IntWalk.i64_in _ (by omega) |>.trans (by omega)
    clear hrow hg
    cases k2:(((hd ts').kind:Int) == 2)
    case false =>
     have k2':¬ (hd ts').kind=2:=by simp at k2;omega
     have E2:=hqZ (show(br E ts').bind (fun x ts2=>.ok (aP l x) ts2)=bl E ts from by rw[<- E1.out];simp[bi,k2'])
     (go_wp2_with fail;refine(ft _ _ _ _ _ _ _).mono ?_;rintro e v7 ⟨rfl,hf⟩;(have xs5:=Fr.size hf;simp only[aa,ae,ad,af]at xs5;have T0:=hqZ (Fr.transN (T1.out.alloc _) hf);clear T1;have P0:=hqZ (PSt.new (PSt.over (w0:=w) P1.out (Fr.r.alloc _) ltp ltt) hf);clear P1;have B3:=hqZ (Blk.next (B1.out.alloc _) hf id);clear B1;obtain⟨xk1,xl5⟩:=Blk.k1 B3.out;have B1:=hqZ (Blk.next (B0.out.alloc _) hf id);clear B0;obtain⟨xk9,xl6⟩:=Blk.k6 B1.out;have B0:=hqZ (Blk.next (B2.out.alloc _) hf id);clear B2;obtain⟨xk15,xl7⟩:=Blk.k1 B0.out;have B2:=hqZ (Blk.next (Blk.at_ _ _ _ (n:=v2.heap.size) rfl) hf id);obtain⟨xk16,xl8⟩:=Blk.k6 B2.out;have X0:=hqZ (Row.carry X1.out (Fr.transN (Fr.r.alloc _) hf));clear X1;have X1:=hqZ (Acc.carry X2.out (Fr.transN (Fr.r.alloc _) hf));clear X2;clear hf;clear xk0 xk2 xk8))
     cases hs:br E ts' with
     | out=>exact absurd (by rw[<- E2.out,hs];rfl) HN.out
     | bad =>
      (go_wp2_with fail;refine(HM.out.bad (tb:=tb) ?_ hs).mono ?_;(all_goals try exact P0.out);rintro e v3 ⟨t,u,rfl,hf⟩;(have xs7:=Fr.size hf;have T1:=hqZ (Fr.trans T0.out hf);clear T0;clear P0;have B4:=hqZ (Blk.next B3.out hf (by show ¬ _;omega));clear B3;obtain⟨xk0,xl9⟩:=Blk.k1 B4.out;have B3:=hqZ (Blk.next B1.out hf (by show ¬ _;omega));clear B1;obtain⟨xk2,xl10⟩:=Blk.k6 B3.out;have B1:=hqZ (Blk.next B0.out hf (by show ¬ _;omega));clear B0;obtain⟨xk8,xl11⟩:=Blk.k1 B1.out;have B0:=hqZ (Blk.next B2.out hf (by show ¬ _;omega));clear B2;obtain⟨xk22,xl12⟩:=Blk.k6 B0.out;have X2:=hqZ (Row.carry X0.out (Fr.trans' Fr.r hf (fun k _ hs=>by omega)));clear X0;have X0:=hqZ (Acc.carry X1.out (Fr.trans' Fr.r hf (fun k _ hs=>by omega)));clear X1;clear hf;clear xk1 xk9 xk15 xk16))
      go_wp2
      refine bodyPost_ret (v:=(.tuple #[.agg #[.nilIface],.iface t u])) (by simp only[results,Tryz.results204];go_simp) rfl ?_
      rw[show bl E ts = .bad from by rw[<- E2.out,hs];rfl]
      exact⟨t,u,rfl,by exact((T1.out.set (.inr (by omega))).set (.inr (Nat.le_refl _)))⟩
     | ok x ts2 =>
      have E3:=hqZ (show bl E ts = .ok (aP l x) ts2 from by rw[<- E2.out,hs];rfl)
      (go_wp2_with fail;refine(HM.out.ok (tb:=tb) ?_ hs).mono ?_;(all_goals try exact P0.out);rintro e v3 ⟨t,u,rfl,hx,hp,hf⟩;(have xs7:=Fr.size hf;have T1:=hqZ (Fr.trans T0.out hf);clear T0;clear P0;have B4:=hqZ (Blk.next B3.out hf (by show ¬ _;omega));clear B3;obtain⟨xk0,xl9⟩:=Blk.k1 B4.out;have B3:=hqZ (Blk.next B1.out hf (by show ¬ _;omega));clear B1;obtain⟨xk2,xl10⟩:=Blk.k6 B3.out;have B1:=hqZ (Blk.next B0.out hf (by show ¬ _;omega));clear B0;obtain⟨xk8,xl11⟩:=Blk.k1 B1.out;have B0:=hqZ (Blk.next B2.out hf (by show ¬ _;omega));clear B2;obtain⟨xk22,xl12⟩:=Blk.k6 B0.out;have X2:=hqZ (Rep.mono (Z':=fun g=>v7.heap.size<=g/\g < v3.heap.size) (hZ:=fun g h1 h2=>⟨h2,h1⟩) (h:=hx));clear hx;have X3:=hqZ (Row.carry X0.out (Fr.trans' Fr.r hf (fun k _ hs=>by omega)));clear X0;have X0:=hqZ (Acc.carry X1.out (Fr.trans' Fr.r hf (fun k _ hs=>by omega)));clear X1;have P0:=hqZ hp;clear hp;clear hf;clear xk1 xk9 xk15 xk16))
      clear hs
      go_wp2_with fail
      go_loopg [11] l.length (fun k v wq=>∃ (z:Int) (x':Ex) (t':TypeId) (u':Value),v = .int .i64 z/\z=(k:Int) - 1/\k<=l.length/\aP (l.take k) x'=aP l x/\Rep wq (fun g=>w.heap.size < g/\g ≠ v1.heap.size+1) x' (.iface t' u')/\PSt wq pb tb ts2/\Fr (· = pb) w wq /\
       Row wq (fun g=>w.heap.size < g/\g < v1.heap.size) (.slice (some ⟨g,0,none⟩) (m+1) cap) (m+1) 1 (l.map Value.bool)/\Blk wq w.heap.size #[.nilIface] 246/\Blk wq (v1.heap.size+1) #[.iface t' u'] 246)
      case atStart=>exact⟨_,x,t,u,rfl,by have:=HL.out;omega,Nat.le_refl _,by rw[List.take_length],by exact Rep.mono (h:=(Rep.carry X2.out (Fr.r.set (.inl (by omega))))) (hZ:=fun g _ hg=>by omega),by exact PSt.over (w0:=w) P0.out (Fr.r.set (.inl (by omega))) ltp ltt,by exact(T1.out.set (.inr (by omega))),by exact(Row.carry X3.out (Fr.r.set (.inl (by omega)))),by exact(Blk.far B4.out (by omega)),by exact B1.out.s10⟩
      case round =>
       obtain⟨z,x',t',u',rfl,hz,hk,e2,hx2,hp,hf,hrw,hb1,hb2⟩:=hrel
       (clear T1;clear P0;clear B4;clear B3;clear B1;clear B0;clear X2;clear X3;clear X0;clear xk0 xk2 xk8 xk22;have H0:=hqZ hf;have xs9:=Fr.size H0.out;clear hf;have H1:=hqZ hp;clear hp;have H2:=hqZ hb1;obtain⟨xk0,xl13⟩:=Blk.k1 H2.out;clear hb1;have H3:=hqZ hb2;obtain⟨xk1,xl14⟩:=Blk.k1 H3.out;clear hb2;have H4:=hqZ (Rep.mono (Z':=fun g=>(w.heap.size < g/\g ≠ v1.heap.size+1)/\g < wr.heap.size) (hZ:=fun g h1 h2=>⟨h2,h1⟩) (h:=hx2));clear hx2;have H5:=hqZ (Row.mono (Z':=fun g=>(w.heap.size < g/\g < v1.heap.size)/\g < wr.heap.size) (hZ:=fun g h1 h2=>⟨h2,h1⟩) (h:=hrw));clear hrw)
       have E4:=hqZ e2
       clear e2
       cases gk with
       | zero =>
        have hz0:decide (0<=z)=false:=by simp;omega
        have hz1:z < 0:=by omega
        clear hz
        have E5:=hqZ (show bl E ts = .ok x' ts2 from by rw[E3.out,<- E4.out];rfl)
        go_wp2
        refine bodyPost_ret (v:=(.tuple #[.agg #[.iface t' u'],.nilIface])) (by simp only[results,Tryz.results204];go_simp) rfl ?_
        rw[E5.out]
        exact⟨_,_,rfl,by exact Rep.mono (h:=(Rep.carry H4.out (Fr.r.set (.inl (by omega))))) (hZ:=fun g _ hg=>by omega),by exact PSt.over (w0:=w) H1.out (Fr.r.set (.inl (by omega))) ltp ltt,by exact(H0.out.set (.inr (Nat.le_refl _)))⟩
       | succ k =>
        obtain rfl:z=(k:Int):=by omega
        obtain⟨b,hb⟩:∃ b,l[k]? = some b:=by cases hh:l[k]? with|none=>have:=List.getElem?_eq_none_iff.1 hh;omega|some b=>exact⟨b,rfl⟩
        have E5:=hqZ ((fK hb x').symm.trans E4.out)
        have hrow:Row wr (fun g=>w.heap.size < g/\g < v1.heap.size) (.slice (some ⟨g,0,none⟩) (m+1) cap) (m+1) 1 (l.map Value.bool):=by exact Row.mono (h:=H5.out) (hZ:=fun g _ hg=>by omega)
        obtain⟨g',eg,hc,hgl,hg⟩:=hrow.at (j:=k) (u:=.bool b) (by rw[List.getElem?_map,hb];rfl)
        have hkn:(k:Int) < ((m+1):Nat):=by have:=HL.out;omega
        have hk0:(0:Int)<=(k:Int):=by omega
        have hw1:IntKind.i64.wrap ((k:Int) - 1)=(k:Int) - 1:=IntWalk.i64_in _ (by omega)
        cases eg
        clear hb hrow hg hz
        cases b with
        | true =>
         (go_wp2_with fail;refine(dY _ _ _).mono ?_;rintro e v4 ⟨rfl,hf⟩;(have xs10:=Fr.size hf;have T0:=hqZ (Fr.transN H0.out hf);clear H0;have P0:=hqZ (PSt.new (H1.out) hf);clear H1;have B0:=hqZ (Blk.next H2.out hf id);clear H2;obtain⟨xk2,xl15⟩:=Blk.k1 B0.out;have B1:=hqZ (Blk.next H3.out hf id);clear H3;obtain⟨xk3,xl16⟩:=Blk.k1 B1.out;have X0:=hqZ (Rep.carry H4.out (Fr.transN Fr.r hf));clear H4;have X1:=hqZ (Row.carry H5.out (Fr.transN Fr.r hf));clear H5;clear hf;clear xk0 xk1))
         go_wp2
         go_roundg k
         case measure=>omega
         case rel=>exact⟨_,_,_,_,rfl,rfl,by omega,E5.out,.una 21 _ _ _ rfl (by exact Rep.mono (h:=(Rep.carry X0.out (Fr.r.set (.inl (by omega))))) (hZ:=fun g _ hg=>by omega)),by exact PSt.over (w0:=w) P0.out (Fr.r.set (.inl (by omega))) ltp ltt,by exact(T0.out.set (.inr (by omega))),by exact Row.mono (h:=(Row.carry X1.out (Fr.r.set (.inl (by omega))))) (hZ:=fun g _ hg=>by omega),by exact(Blk.far B0.out (by omega)),by exact B1.out.s10⟩
        | false =>
         (go_wp2_with fail;refine(fY _ _ _).mono ?_;rintro e v4 ⟨rfl,hf⟩;(have xs10:=Fr.size hf;have T0:=hqZ (Fr.transN H0.out hf);clear H0;have P0:=hqZ (PSt.new (H1.out) hf);clear H1;have B0:=hqZ (Blk.next H2.out hf id);clear H2;obtain⟨xk2,xl15⟩:=Blk.k1 B0.out;have B1:=hqZ (Blk.next H3.out hf id);clear H3;obtain⟨xk3,xl16⟩:=Blk.k1 B1.out;have X0:=hqZ (Rep.carry H4.out (Fr.transN Fr.r hf));clear H4;have X1:=hqZ (Row.carry H5.out (Fr.transN Fr.r hf));clear H5;clear hf;clear xk0 xk1))
         go_wp2
         go_roundg k
         case measure=>omega
         case rel=>exact⟨_,_,_,_,rfl,rfl,by omega,E5.out,.una 22 _ _ _ rfl (by exact Rep.mono (h:=(Rep.carry X0.out (Fr.r.set (.inl (by omega))))) (hZ:=fun g _ hg=>by omega)),by exact PSt.over (w0:=w) P0.out (Fr.r.set (.inl (by omega))) ltp ltt,by exact(T0.out.set (.inr (by omega))),by exact Row.mono (h:=(Row.carry X1.out (Fr.r.set (.inl (by omega))))) (hZ:=fun g _ hg=>by omega),by exact(Blk.far B0.out (by omega)),by exact B1.out.s10⟩
    have k2':(hd ts').kind=2:=by simp at k2;omega
    have E2:=hqZ (show bw (dQ true (hd ts').text) (fun n=>.ok (aP l.dropLast (.lit (.long n))) (adv ts'))=bl E ts from by
     rw[<- E1.out];simp only[bi,k2',HLast.out,and_self,if_true];rw[mT];cases dQ true (hd ts').text <;> rfl)
    (go_wp2_with fail;refine(ft _ _ _ _ _ _ _).mono ?_;rintro e v7 ⟨rfl,hf⟩;(have xs5:=Fr.size hf;simp only[aa,ae,ad,af]at xs5;have T0:=hqZ (Fr.transN (T1.out.alloc _) hf);clear T1;have P0:=hqZ (PSt.new (PSt.over (w0:=w) P1.out (Fr.r.alloc _) ltp ltt) hf);clear P1;have B3:=hqZ (Blk.next (B1.out.alloc _) hf id);clear B1;obtain⟨xk1,xl5⟩:=Blk.k1 B3.out;have B1:=hqZ (Blk.next (B0.out.alloc _) hf id);clear B0;obtain⟨xk9,xl6⟩:=Blk.k6 B1.out;have B0:=hqZ (Blk.next (B2.out.alloc _) hf id);clear B2;obtain⟨xk15,xl7⟩:=Blk.k1 B0.out;have B2:=hqZ (Blk.next (Blk.at_ _ _ _ (n:=v2.heap.size) rfl) hf id);obtain⟨xk16,xl8⟩:=Blk.k6 B2.out;have X0:=hqZ (Row.carry X1.out (Fr.transN (Fr.r.alloc _) hf));clear X1;have X1:=hqZ (Acc.carry X2.out (Fr.transN (Fr.r.alloc _) hf));clear X2;clear hf;clear xk0 xk2 xk8))
    have hz1:=PSt.fine P0.out |>.hd
    (go_wp2_with fail;refine(ag _ pb tb ts' ?_).mono ?_;(all_goals try exact P0.out);rintro e v4 ⟨⟨o3,l3,c3,rfl⟩,hp,hf⟩;(have xs7:=Fr.size hf;have T1:=hqZ (Fr.trans T0.out hf);clear T0;clear P0;have B4:=hqZ (Blk.next B3.out hf (by show ¬ _;omega));clear B3;obtain⟨xk0,xl9⟩:=Blk.k1 B4.out;have B3:=hqZ (Blk.next B1.out hf (by show ¬ _;omega));clear B1;obtain⟨xk2,xl10⟩:=Blk.k6 B3.out;have B1:=hqZ (Blk.next B0.out hf (by show ¬ _;omega));clear B0;obtain⟨xk8,xl11⟩:=Blk.k1 B1.out;have B0:=hqZ (Blk.next B2.out hf (by show ¬ _;omega));clear B2;obtain⟨xk22,xl12⟩:=Blk.k6 B0.out;have X2:=hqZ (Row.carry X0.out (Fr.trans' Fr.r hf (fun k _ hs=>by omega)));clear X0;have X0:=hqZ (Acc.carry X1.out (Fr.trans' Fr.r hf (fun k _ hs=>by omega)));clear X1;have P0:=hqZ hp;clear hp;clear hf;clear xk1 xk9 xk15 xk16))
    cases hv:dQ true (hd ts').text with
    | none =>
     (go_wp2_with fail;refine(HP.out.neg hz1 (by exact(PSt.glob (P0.out)).1) hv).mono ?_;rintro e v5 ⟨x,t,u,rfl,hf⟩;(have xs9:=Fr.size hf;have T0:=hqZ (Fr.transN T1.out hf);clear T1;have P1:=hqZ (PSt.new (P0.out) hf);clear P0;have B2:=hqZ (Blk.next B4.out hf id);clear B4;obtain⟨xk1,xl13⟩:=Blk.k1 B2.out;have B4:=hqZ (Blk.next B3.out hf id);clear B3;obtain⟨xk9,xl14⟩:=Blk.k6 B4.out;have B3:=hqZ (Blk.next B1.out hf id);clear B1;obtain⟨xk15,xl15⟩:=Blk.k1 B3.out;have B1:=hqZ (Blk.next B0.out hf id);clear B0;obtain⟨xk16,xl16⟩:=Blk.k6 B1.out;have X1:=hqZ (Row.carry X2.out (Fr.transN Fr.r hf));clear X2;have X2:=hqZ (Acc.carry X0.out (Fr.transN Fr.r hf));clear X0;clear hf;clear xk0 xk2 xk8 xk22))
     go_wp2
     refine bodyPost_ret (v:=(.tuple #[.agg #[.nilIface],.iface t u])) (by simp only[results,Tryz.results204];go_simp) rfl ?_
     rw[show bl E ts = .bad from by rw[<- E2.out,hv];rfl]
     exact⟨t,u,rfl,by exact(T0.out.set (.inr (Nat.le_refl _)))⟩
    | some i =>
     have E3':=hqZ (show bl E ts = .ok (aP l.dropLast (.lit (.long i))) (adv ts')from by rw[<- E2.out,hv];rfl)
     (go_wp2_with fail;refine(HP.out.neg hz1 (by exact(PSt.glob (P0.out)).1) hv).mono ?_;rintro e v5 ⟨rfl,hf⟩;(have xs9:=Fr.size hf;have T0:=hqZ (Fr.transN T1.out hf);clear T1;have P1:=hqZ (PSt.new (P0.out) hf);clear P0;have B2:=hqZ (Blk.next B4.out hf id);clear B4;obtain⟨xk1,xl13⟩:=Blk.k1 B2.out;have B4:=hqZ (Blk.next B3.out hf id);clear B3;obtain⟨xk9,xl14⟩:=Blk.k6 B4.out;have B3:=hqZ (Blk.next B1.out hf id);clear B1;obtain⟨xk15,xl15⟩:=Blk.k1 B3.out;have B1:=hqZ (Blk.next B0.out hf id);clear B0;obtain⟨xk16,xl16⟩:=Blk.k6 B1.out;have X1:=hqZ (Row.carry X2.out (Fr.transN Fr.r hf));clear X2;have X2:=hqZ (Acc.carry X0.out (Fr.transN Fr.r hf));clear X0;clear hf;clear xk0 xk2 xk8 xk22))
     clear hv
     (go_wp2_with fail;refine(ie _ _).mono ?_;rintro e v6 ⟨rfl,hf⟩;(have xs11:=Fr.size hf;have T1:=hqZ (Fr.transN T0.out hf);clear T0;have P0:=hqZ (PSt.new (P1.out) hf);clear P1;have B0:=hqZ (Blk.next B2.out hf id);clear B2;obtain⟨xk0,xl17⟩:=Blk.k1 B0.out;have B2:=hqZ (Blk.next B4.out hf id);clear B4;obtain⟨xk2,xl18⟩:=Blk.k6 B2.out;have B4:=hqZ (Blk.next B3.out hf id);clear B3;obtain⟨xk8,xl19⟩:=Blk.k1 B4.out;have B3:=hqZ (Blk.next B1.out hf id);clear B1;obtain⟨xk22,xl20⟩:=Blk.k6 B3.out;have X0:=hqZ (Row.carry X1.out (Fr.transN Fr.r hf));clear X1;have X1:=hqZ (Acc.carry X2.out (Fr.transN Fr.r hf));clear X2;clear hf;clear xk1 xk9 xk15 xk16))
     have hrow:Row v6 (fun g=>w.heap.size < g/\g < v1.heap.size) (.slice (some ⟨g,0,none⟩) (m+1) cap) (m+1) 1 (l.map Value.bool):=by exact X0.out
     have hrow2:=hrow.init
     have HR2:=hqZ hrow2
     have HL2:=hqZ (show l.dropLast.length=m from by rw[List.length_dropLast,HL.out];rfl)
     clear HL hrow hrow2
     go_wp2_with fail
     obtain⟨lq,elq⟩:∃ q,q=l.dropLast:=⟨_,rfl⟩
     rw[<- elq]at E3' HR2 HL2
     clear elq
     obtain⟨x,ex⟩:∃ x,x=Ex.lit (.long i):=⟨_,rfl⟩
     have HX:=hqZ (show ∀ (wz:World) (Z:Nat->Prop),Rep wz Z x (.iface 168 (.agg #[.iface 251 (.int .i64 i)]))from by intro wz Z;rw[ex];exact .lit _ _ rfl)
     rw[<- ex]at E3'
     clear ex
     have E3:=E3'
     clear E3'
     go_loopg [11] lq.length (fun k v wq=>∃ (z:Int) (x':Ex) (t':TypeId) (u':Value),v = .int .i64 z/\z=(k:Int) - 1/\k<=lq.length/\aP (lq.take k) x'=aP lq x/\Rep wq (fun g=>w.heap.size < g/\g ≠ v1.heap.size+1) x' (.iface t' u')/\PSt wq pb tb (adv ts')/\Fr (· = pb) w wq /\
      Row wq (fun g=>w.heap.size < g/\g < v1.heap.size) (.slice (some ⟨g,0,none⟩) m cap) m 1 (lq.map Value.bool)/\Blk wq w.heap.size #[.nilIface] 246/\Blk wq (v1.heap.size+1) #[.iface t' u'] 246)
     case atStart=>exact⟨_,x,_,_,rfl,by have:=HL2.out;omega,Nat.le_refl _,by rw[List.take_length],HX.out _ _,by exact PSt.over (w0:=w) P0.out (Fr.r.set (.inl (by omega))) ltp ltt,by exact(T1.out.set (.inr (by omega))),by exact(Row.carry HR2.out (Fr.r.set (.inl (by omega)))),by exact(Blk.far B0.out (by omega)),by exact B4.out.s10⟩
     case round =>
      obtain⟨z,x',t',u',rfl,hz,hk,e2,hx2,hp,hf,hrw,hb1,hb2⟩:=hrel
      (clear T1;clear P0;clear B0;clear B2;clear B4;clear B3;clear X0;clear HR2;clear X1;clear xk0 xk2 xk8 xk22;have H0:=hqZ hf;have xs13:=Fr.size H0.out;clear hf;have H1:=hqZ hp;clear hp;have H2:=hqZ hb1;obtain⟨xk0,xl21⟩:=Blk.k1 H2.out;clear hb1;have H3:=hqZ hb2;obtain⟨xk1,xl22⟩:=Blk.k1 H3.out;clear hb2;have H4:=hqZ (Rep.mono (Z':=fun g=>(w.heap.size < g/\g ≠ v1.heap.size+1)/\g < wr.heap.size) (hZ:=fun g h1 h2=>⟨h2,h1⟩) (h:=hx2));clear hx2;have H5:=hqZ (Row.mono (Z':=fun g=>(w.heap.size < g/\g < v1.heap.size)/\g < wr.heap.size) (hZ:=fun g h1 h2=>⟨h2,h1⟩) (h:=hrw));clear hrw)
      have E4:=hqZ e2
      clear e2
      cases gk with
      | zero =>
       have hz0:decide (0<=z)=false:=by simp;omega
       have hz1:z < 0:=by omega
       clear hz
       have E5:=hqZ (show bl E ts = .ok x' (adv ts')from by rw[E3.out,<- E4.out];rfl)
       go_wp2
       refine bodyPost_ret (v:=(.tuple #[.agg #[.iface t' u'],.nilIface])) (by simp only[results,Tryz.results204];go_simp) rfl ?_
       rw[E5.out]
       exact⟨_,_,rfl,by exact Rep.mono (h:=(Rep.carry H4.out (Fr.r.set (.inl (by omega))))) (hZ:=fun g _ hg=>by omega),by exact PSt.over (w0:=w) H1.out (Fr.r.set (.inl (by omega))) ltp ltt,by exact(H0.out.set (.inr (Nat.le_refl _)))⟩
      | succ k =>
       obtain rfl:z=(k:Int):=by omega
       obtain⟨b,hb⟩:∃ b,lq[k]? = some b:=by cases hh:lq[k]? with|none=>have:=List.getElem?_eq_none_iff.1 hh;omega|some b=>exact⟨b,rfl⟩
       have E5:=hqZ ((fK hb x').symm.trans E4.out)
       have hrow:Row wr (fun g=>w.heap.size < g/\g < v1.heap.size) (.slice (some ⟨g,0,none⟩) m cap) m 1 (lq.map Value.bool):=by exact Row.mono (h:=H5.out) (hZ:=fun g _ hg=>by omega)
       obtain⟨g',eg,hc,hgl,hg⟩:=hrow.at (j:=k) (u:=.bool b) (by rw[List.getElem?_map,hb];rfl)
       have hkn:(k:Int) < (m:Nat):=by have:=HL2.out;omega
       have hk0:(0:Int)<=(k:Int):=by omega
       have hw1:IntKind.i64.wrap ((k:Int) - 1)=(k:Int) - 1:=IntWalk.i64_in _ (by omega)
       cases eg
       clear hb hrow hg hz
       cases b with
       | true =>
        (go_wp2_with fail;refine(dY _ _ _).mono ?_;rintro e v4 ⟨rfl,hf⟩;(have xs14:=Fr.size hf;have T0:=hqZ (Fr.transN H0.out hf);clear H0;have P0:=hqZ (PSt.new (H1.out) hf);clear H1;have B0:=hqZ (Blk.next H2.out hf id);clear H2;obtain⟨xk2,xl23⟩:=Blk.k1 B0.out;have B1:=hqZ (Blk.next H3.out hf id);clear H3;obtain⟨xk3,xl24⟩:=Blk.k1 B1.out;have X0:=hqZ (Rep.carry H4.out (Fr.transN Fr.r hf));clear H4;have X1:=hqZ (Row.carry H5.out (Fr.transN Fr.r hf));clear H5;clear hf;clear xk0 xk1))
        go_wp2
        go_roundg k
        case measure=>omega
        case rel=>exact⟨_,_,_,_,rfl,rfl,by omega,E5.out,.una 21 _ _ _ rfl (by exact Rep.mono (h:=(Rep.carry X0.out (Fr.r.set (.inl (by omega))))) (hZ:=fun g _ hg=>by omega)),by exact PSt.over (w0:=w) P0.out (Fr.r.set (.inl (by omega))) ltp ltt,by exact(T0.out.set (.inr (by omega))),by exact Row.mono (h:=(Row.carry X1.out (Fr.r.set (.inl (by omega))))) (hZ:=fun g _ hg=>by omega),by exact(Blk.far B0.out (by omega)),by exact B1.out.s10⟩
       | false =>
        (go_wp2_with fail;refine(fY _ _ _).mono ?_;rintro e v4 ⟨rfl,hf⟩;(have xs14:=Fr.size hf;have T0:=hqZ (Fr.transN H0.out hf);clear H0;have P0:=hqZ (PSt.new (H1.out) hf);clear H1;have B0:=hqZ (Blk.next H2.out hf id);clear H2;obtain⟨xk2,xl23⟩:=Blk.k1 B0.out;have B1:=hqZ (Blk.next H3.out hf id);clear H3;obtain⟨xk3,xl24⟩:=Blk.k1 B1.out;have X0:=hqZ (Rep.carry H4.out (Fr.transN Fr.r hf));clear H4;have X1:=hqZ (Row.carry H5.out (Fr.transN Fr.r hf));clear H5;clear hf;clear xk0 xk1))
        go_wp2
        go_roundg k
        case measure=>omega
        case rel=>exact⟨_,_,_,_,rfl,rfl,by omega,E5.out,.una 22 _ _ _ rfl (by exact Rep.mono (h:=(Rep.carry X0.out (Fr.r.set (.inl (by omega))))) (hZ:=fun g _ hg=>by omega)),by exact PSt.over (w0:=w) P0.out (Fr.r.set (.inl (by omega))) ltp ltt,by exact(T0.out.set (.inr (by omega))),by exact Row.mono (h:=(Row.carry X1.out (Fr.r.set (.inl (by omega))))) (hZ:=fun g _ hg=>by omega),by exact(Blk.far B0.out (by omega)),by exact B1.out.s10⟩
end Go.Proofs.YtbdhlpeckennjaaGreatDoor
