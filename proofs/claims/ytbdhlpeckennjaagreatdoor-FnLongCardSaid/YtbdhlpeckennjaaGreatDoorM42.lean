/- FnLong (the proof that the law returns true for every input), part 42 of 52; the last part says what is proved, and its condition. -/
import Derived.Deep.RegionWith
import Derived.Deep.MidRow
import Derived.Test.YtbdhlpeckennjaaGreatDoorM22
import Derived.Test.YtbdhlpeckennjaaGreatDoorM38
import Derived.Test.YtbdhlpeckennjaaGreatDoorM41
set_option linter.unusedVariables false
set_option linter.unusedSimpArgs false
set_option maxHeartbeats 80000000
set_option maxRecDepth 1000000
namespace Go.Proofs.YtbdhlpeckennjaaGreatDoor
open Go Go.RowKit
theorem mM(w:World)(Zin:Nat->Prop)(v:Value)(parts:List Part)(n:Nat)(hn:n=parts.length)(h:Row w Zin v n 1 (parts.map kx))(hc:parts.countP cT<=150001)(ht:tl parts<=1000000000000) :
  Calls Tryz.prog 206 #[v] w fun e w'=>∃ (A:Option Addr) (n cap:Nat),e = .returned (.agg #[.slice A n cap])/\Row w' (w.heap.size <= ·) (.slice A n cap) (ba parts []).length 2 (bH (ba parts []))/\New w w':=by
 subst hn
 exact od w Zin v parts h hc ht
theorem jv(r:List UInt8)(j:Nat):(ByteArray.mk r.toArray).extract j (ByteArray.mk r.toArray).size=⟨(r.drop j).toArray⟩:=by
 refine lM ?_
 have h:(ByteArray.mk r.toArray).size=r.length:=by show r.toArray.size=_;simp
 rw[h,ByteArray.extract_mk]
 simp
 exact List.take_of_length_le (by simp)
theorem BA.tail{w:World}{g o:Nat}{b:UInt8}{r:List UInt8}(h:BA w g o ⟨(b::r).toArray⟩):BA w g (o+1) ⟨r.toArray⟩:=by
 have h1:=h.drop (i:=1) (by show 1<=(b::r).toArray.size;simp)
 rw[jv]at h1
 exact h1
theorem pat_c:PatC:=by
 intro w s hs hg
 have T0:=hqZ (Fr.refl (fun _=>False) w)
 have HG:=hqZ hg
 clear hg
 obtain⟨W0,hW0⟩:∃ W0,W0=w.alloc (.cells #[.slice none 0 0] 183):=⟨_,rfl⟩
 obtain⟨cap0,hcap0,hcv⟩:=fX W0 s
 have hsz:W0.heap.size=w.heap.size+1:=by rw[hW0];simp only[aa]
 have HN:=hqZ ((show Fr (fun _=>False) w W0 from by rw[hW0];exact(T0.out.alloc _)).trans (fA W0 s))
 have HB:=hqZ (jI W0 s)
 have HK:=hqZ ((show Blk W0 w.heap.size #[.slice none 0 0] 183 from by rw[hW0];exact(Blk.at_ _ _ _ (n:=w.heap.size) rfl)).next (fA W0 s) id)
 rw[hsz]at hcv HB
 rw[hW0]at hcv
 have HE:=hqZ hW0
 go_enter Tryz.func200,Tryz.ntmps200
 go_wp2_with fail
 rw[<- HE.out]
 generalize Lib.bytesWorld W0 5 s=W at *
 clear hcv hsz hW0 HE
 go_loopg [4,5] (s.size+1) (fun k v4 v5 wr=>∃ (o c:Nat) (r:List UInt8) (acc:List Part),v4 = .slice (some ⟨w.heap.size+1,o,none⟩) r.length c/\r.length<=c/\BA wr (w.heap.size+1) o ⟨r.toArray⟩/\PI s k r acc/\Fr (fun _=>False) w wr /\
  Blk wr w.heap.size #[.slice none 0 0] 183/\Acc eJ wr (fun g=>w.heap.size+1 < g) v5 acc 20 1)
 case atStart =>
  exact⟨0,cap0,s.data.toList,[],rfl,hcap0,HB.out,PI.first s,HN.out,HK.out,Acc.nil _ _ _ _⟩
 case round =>
  obtain⟨o,c,r,acc,rfl,hrc,hba,hpi,hf,hb1,hacc⟩:=hrel
  by_cases hr:r = []
  case pos =>
   subst hr
   have HR:=hqZ hpi.fin
   have HPI:=hqZ hpi
   have hn9:=hpi.n0
   have hc9:=hpi.c
   have ht9:=hpi.t
   simp only[List.length_nil]at hc9
   obtain⟨A',cap',rfl⟩:=Acc.form2 hacc
   have HVa:=hqZ hacc.lt
   have sz0:=hb1.lt
   clear hba hpi
   cases acc with
   | nil =>
    (clear T0;clear HN;clear HK;have H0:=hqZ hf;have xs0:=Fr.size H0.out;clear hf;have H1:=hqZ hb1;obtain⟨xk0,xl0⟩:=Blk.k1 H1.out;clear hb1;have H2:=hqZ (Acc.mono (Z':=fun g=>w.heap.size+1 < g/\g < wr.heap.size) (hZ:=fun g h1 h2=>⟨h2,h1⟩) (h:=hacc));clear hacc)
    go_wp2_with (at_builtin;refine bu ?_)
    unfold Stop
    refine Acc.push (E:=eJ) (Z:=fun g=>w.heap.size+1 < g) mF rfl _ _ rfl rfl (by exact Acc.mono (h:=(Acc.carry H2.out (Fr.r.alloc _))) (hZ:=fun g _ hg=>by omega)) rfl (news:=[.iface 123 (.string ⟨#[]⟩)]) (by exact(Blk.at_ _ _ _ (n:=wr.heap.size) rfl)) (y:=.txt []) (Zy:=fun g=>False) rfl (fun k _ hk=>hk.elim) (by simp only[aa];omega) (by simp) (S:=fun k=>w.heap.size+1 < k) (fun k e=>(HVa.out k e).2) ?_
    rintro v' v5 hacc hf
    obtain⟨A2,c2,rfl⟩:=Acc.form2 hacc
    replace hacc:Acc eJ v5 (fun g=>w.heap.size+1 < g) (.slice A2 1 c2) [.txt []] 20 1:=hacc
    have HR:=hqZ (show bU s=some (ba [.txt []] [])from by rw[HR.out];simp)
    (have xs1:=Fr.size hf;simp only[aa,ae,ad,af]at xs1;have T0:=hqZ (Fr.trans' (H0.out.alloc _) hf (fun k hk hs=>by omega));clear H0;have B0:=hqZ (Blk.next (H1.out.alloc _) hf (by show ¬ _;omega));clear H1;obtain⟨xk1,xl1⟩:=Blk.k1 B0.out;clear H2;have X0:=hqZ (Acc.mono (Z':=fun g=>w.heap.size+1 < g/\g < v5.heap.size) (hZ:=fun g h1 h2=>⟨h2,h1⟩) (h:=hacc));clear hacc;clear hf;clear xk0)
    have hacc2:Acc eJ v5 (fun g=>w.heap.size+1 < g) (.slice A2 1 c2) [.txt []] 20 1:=by exact Acc.mono (h:=X0.out) (hZ:=fun g _ hg=>by omega)
    obtain⟨xs,hrow,hel⟩:=Acc.row2 hacc2 (by show 1<=200000;omega)
    have hx:=jk hel
    subst hx
    have HRW:=hqZ (show Row v5 (fun g=>w.heap.size+1 < g) _ 1 1 _ from by exact hrow)
    clear hrow hel hacc2
    (go_wp2_with fail;refine(mM _ (fun g=>w.heap.size+1 < g) _ [.txt []] 1 rfl (HRW.out.frame (S:=fun _=>False) (by exact Fr.r) (fun _ _ _ h=>h)) (by simp[cT]) (by simp[tl,pl])).mono ?_;rintro e w9 ⟨A9,n9,c9,rfl,hrow9,hf⟩;(have xs3:=Fr.size hf;have T1:=hqZ (Fr.transN T0.out hf);clear T0;have B1:=hqZ (Blk.next B0.out hf id);clear B0;obtain⟨xk0,xl2⟩:=Blk.k1 B1.out;have X1:=hqZ (Row.carry HRW.out (Fr.transN Fr.r hf));clear HRW;have X2:=hqZ (Row.mono (Z':=fun g=>v5.heap.size<=g/\g < w9.heap.size) (hZ:=fun g h1 h2=>⟨h2,h1⟩) (h:=hrow9));clear hrow9;have X3:=hqZ (Acc.carry X0.out (Fr.transN Fr.r hf));clear X0;clear hf;clear xk1))
    go_wp2
    refine bodyPost_ret (v:=(.tuple #[.agg #[.slice A9 n9 c9],.nilIface])) (by simp only[results,Tryz.results200];go_simp) rfl ?_
    rw[HR.out]
    exact⟨_,_,_,rfl,Row.mono (h:=by exact(Row.carry X2.out (Fr.r.set (.inl (by omega))))) (hZ:=fun g _ hg=>by omega),by exact(T1.out.set (.inr (Nat.le_refl _)))⟩
   | cons p acc =>
    have HR:=hqZ (show bU s=some (ba (p::acc) [])from by rw[HR.out,if_neg (by simp)])
    obtain⟨L,hL⟩:∃ L,L=p::acc:=⟨_,rfl⟩
    have hL0:0 < L.length:=by rw[hL];simp
    rw[<- hL]at hacc hn9 hc9 ht9 HR HVa ⊢
    clear hL HPI
    (clear T0;clear HN;clear HK;have H0:=hqZ hf;have xs0:=Fr.size H0.out;clear hf;have H1:=hqZ hb1;obtain⟨xk0,xl0⟩:=Blk.k1 H1.out;clear hb1;have H2:=hqZ (Acc.mono (Z':=fun g=>w.heap.size+1 < g/\g < wr.heap.size) (hZ:=fun g h1 h2=>⟨h2,h1⟩) (h:=hacc));clear hacc)
    have hacc2:Acc eJ wr (fun g=>w.heap.size+1 < g) (.slice A' L.length cap') L 20 1:=by exact Acc.mono (h:=H2.out) (hZ:=fun g _ hg=>by omega)
    obtain⟨m,hm⟩:∃ m,m=L.length:=⟨_,rfl⟩
    have hm0:¬ (m:Int)=0:=by omega
    have hm1:((m:Int) == 0)=false:=by simp;omega
    have hm2:¬ m=0:=by omega
    have HM:=hqZ hm
    rw[<- hm]
    clear hm
    obtain⟨xs,hrow,hel⟩:=Acc.row2 hacc2 (by omega)
    have hx:=jk hel
    subst hx
    rw[<- HM.out]at hrow
    have HCL:=hqZ (mM wr (fun g=>w.heap.size+1 < g) _ L m HM.out hrow (by omega) (by omega))
    clear hrow hel hacc2
    go_wp2_with fail
    refine HCL.out.mono ?_
    rintro e w9 ⟨A9,n9,c9,rfl,hrow9,hf⟩
    clear HCL
    (have xs1:=Fr.size hf;have T0:=hqZ (Fr.transN H0.out hf);clear H0;have B0:=hqZ (Blk.next H1.out hf id);clear H1;obtain⟨xk1,xl1⟩:=Blk.k1 B0.out;have X0:=hqZ (Row.mono (Z':=fun g=>wr.heap.size<=g/\g < w9.heap.size) (hZ:=fun g h1 h2=>⟨h2,h1⟩) (h:=hrow9));clear hrow9;have X1:=hqZ (Acc.carry H2.out (Fr.transN Fr.r hf));clear H2;clear hf;clear xk0)
    go_wp2
    refine bodyPost_ret (v:=(.tuple #[.agg #[.slice A9 n9 c9],.nilIface])) (by simp only[results,Tryz.results200];go_simp) rfl ?_
    rw[HR.out]
    exact⟨_,_,_,rfl,Row.mono (h:=by exact(Row.carry X0.out (Fr.r.set (.inl (by omega))))) (hZ:=fun g _ hg=>by omega),by exact(T0.out.set (.inr (Nat.le_refl _)))⟩
  have hr0:0 < r.length:=List.length_pos_iff.2 hr
  have hr1:(0:Int) < (r.length:Int):=by omega
  have HBA:=hqZ hba
  have HPI:=hqZ hpi
  have HFr:=hqZ hf
  have HBk:=hqZ hb1
  have HAc:=hqZ hacc
  have sz0:=hb1.lt
  obtain⟨m,hm⟩:∃ m,m=r.length:=⟨_,rfl⟩
  have hm1:(0:Int) < (m:Int):=by omega
  have hmn:0 < m:=by omega
  have hmd:decide (0 < m)=true:=by simp;omega
  have HM:=hqZ hm
  rw[<- hm]
  obtain⟨gk0,hgk0⟩:∃ x,x=gk:=⟨_,rfl⟩
  have HG0:=hqZ hgk0
  clear hba hpi hf hb1 hacc hm hr1 hgk0
  go_wp2_with fail
  go_loopg [4,5] (r.length+1) (fun k2 v4 v5 wq=>∃ (o2 c2:Nat) (r2:List UInt8) (acc2:List Part),v4 = .slice (some ⟨w.heap.size+1,o2,none⟩) r2.length c2/\r2.length<=c2/\BA wq (w.heap.size+1) o2 ⟨r2.toArray⟩/\PJ r acc r2 acc2/\Fr (fun _=>False) w wq /\
   Blk wq w.heap.size #[.slice none 0 0] 183/\Acc eJ wq (fun g=>w.heap.size+1 < g) v5 acc2 20 1/\r2.length+1<=k2)
  case atStart=>exact⟨o,c,r,acc,by rw[HM.out],hrc,HBA.out,PJ.refl _ _,HFr.out,HBk.out,HAc.out,Nat.le_refl _⟩
  case round =>
   obtain⟨o2,c2,r2,acc2,rfl,hrc2,hba,hpj,hf,hb1,hacc,hk2⟩:=hrel
   clear HBA HFr HBk HAc
   have HBA:=hqZ hba
   have HPJ:=hqZ hpj
   have HFq:=hqZ hf
   have sz1:=hb1.lt
   obtain⟨A',cap',rfl⟩:=Acc.form2 hacc
   have HVa:=hqZ hacc.lt
   have hle2:=hpj.le
   have hn2:=hpj.n
   have hn1:=HPI.out.n hr
   clear hba hpj
   cases r2 with
   | nil =>
    (clear T0;clear HN;clear HK;have H0:=hqZ hf;have xs0:=Fr.size H0.out;clear hf;have H1:=hqZ hb1;obtain⟨xk0,xl0⟩:=Blk.k1 H1.out;clear hb1;have H2:=hqZ (Acc.mono (Z':=fun g=>w.heap.size+1 < g/\g < wr.heap.size) (hZ:=fun g h1 h2=>⟨h2,h1⟩) (h:=hacc));clear hacc)
    have HU:=hqZ (show Calls Tryz.prog 149 #[.slice (some ⟨w.heap.size+1,o2,none⟩) 0 c2,.bool true] wr (UQ wr (w.heap.size+1) ⟨(([]:List UInt8)).toArray⟩ (unq ⟨(([]:List UInt8)).toArray⟩ true))from by
     have h:=lY wr (w.heap.size+1) o2 c2 ⟨(([]:List UInt8)).toArray⟩ (by show(([]:List UInt8)).toArray.size<=c2;simp <;> omega) (by show(([]:List UInt8)).toArray.size<=1000000;simp <;> omega) HBA.out (HG.out.frN HFq.out)
     rw[show(ByteArray.mk (([]:List UInt8)).toArray).size=0 from by show(([]:List UInt8)).toArray.size=_;simp <;> omega]at h
     exact h)
    go_wp2_with fail
    cases hu:unq ⟨(([]:List UInt8)).toArray⟩ true with
    | none =>
     refine(Calls.mono HU.out fun _ _ h=>UQ.bad h hu).mono ?_
     rintro e w3 ⟨⟨t1,u1,rfl⟩,hf⟩
     clear HU HBA
     (have xs1:=Fr.size hf;have T0:=hqZ (Fr.transN HFq.out hf);clear HFq;have B0:=hqZ (Blk.next H1.out hf id);clear H1;obtain⟨xk1,xl1⟩:=Blk.k1 B0.out;have X0:=hqZ (Acc.carry H2.out (Fr.transN Fr.r hf));clear H2;clear hf;clear xk0)
     go_wp2
     refine bodyPost_ret (v:=(.tuple #[.agg #[.slice none 0 0],.iface t1 u1])) (by simp only[results,Tryz.results200];go_simp) rfl ?_
     rw[HPI.out.bad hr HPJ.out (fun b hb=>by cases hb) hu]
     exact⟨_,_,_,_,_,rfl,by exact(T0.out.set (.inr (Nat.le_refl _)))⟩
    | some x =>
     obtain⟨l,j⟩:=x
     refine(Calls.mono HU.out fun _ _ h=>UQ.good h hu).mono ?_
     rintro e w3 ⟨⟨o3,c3,rfl,hc3,hba3⟩,hf⟩
     rw[jv]at hba3
     have HB3:=hqZ hba3
     have HNX:=hqZ (HPI.out.next hs hr HPJ.out (fun b hb=>by cases hb) hu)
     obtain⟨q,hq⟩:∃ q,q=(ByteArray.mk (([]:List UInt8)).toArray).size - j:=⟨_,rfl⟩
     rw[<- hq]at hc3 ⊢
     have HQ:=hqZ (show q=((([]:List UInt8)).drop j).length from by rw[hq,List.length_drop];show(([]:List UInt8)).toArray.size - j=_;simp)
     clear HU HBA hq hba3
     (have xs1:=Fr.size hf;have T0:=hqZ (Fr.transN HFq.out hf);clear HFq;have B0:=hqZ (Blk.next H1.out hf id);clear H1;obtain⟨xk1,xl1⟩:=Blk.k1 B0.out;have X0:=hqZ (Acc.carry H2.out (Fr.transN Fr.r hf));clear H2;clear hf;clear xk0)
     go_wp2_with (at_builtin;refine bu ?_)
     unfold Stop
     refine Acc.push (E:=eJ) (Z:=fun g=>w.heap.size+1 < g) mF rfl _ _ rfl rfl (by exact Acc.mono (h:=(Acc.carry X0.out (Fr.r.alloc _))) (hZ:=fun g _ hg=>by omega)) rfl (news:=[.iface 123 (.string ⟨l.toArray⟩)]) (by exact(Blk.at_ _ _ _ (n:=w3.heap.size) rfl)) (y:=.txt l) (Zy:=fun g=>False) rfl (fun k _ hk=>hk.elim) (by simp only[aa];omega) (by omega) (S:=fun k=>w.heap.size+1 < k) (fun k e=>(HVa.out k e).2) ?_
     rintro v' v5 hacc hf
     have HB4:=hqZ (HB3.out.fr (Fr.trans ((Fr.refl (fun k=>w.heap.size+1 < k) w3).alloc _) hf) (by omega))
     (have xs3:=Fr.size hf;simp only[aa,ae,ad,af]at xs3;have T1:=hqZ (Fr.trans' (T0.out.alloc _) hf (fun k hk hs=>by omega));clear T0;have B1:=hqZ (Blk.next (B0.out.alloc _) hf (by show ¬ _;omega));clear B0;obtain⟨xk0,xl2⟩:=Blk.k1 B1.out;clear X0;have X0:=hqZ (Acc.mono (Z':=fun g=>w.heap.size+1 < g/\g < v5.heap.size) (hZ:=fun g h1 h2=>⟨h2,h1⟩) (h:=hacc));clear hacc;clear hf;clear xk1)
     go_wp2
     go_roundg (gk0 - 1)
     case measure=>have h1:=HNX.out.1;have h2:=HG0.out;omega
     case rel=>exact⟨o3,c3,(([]:List UInt8)).drop j,acc2 ++ [.txt l],by rw[HQ.out],by rw[<- HQ.out];exact hc3,HB4.out,by rw[HG0.out];exact HNX.out.2,by exact T1.out,by exact B1.out,by exact Acc.mono (h:=X0.out) (hZ:=fun g _ hg=>by omega)⟩
   | cons b r2 =>
    have hcell:wr.cell? ⟨w.heap.size+1,o2,none⟩=some (.int .u8 b.toNat):=by
     refine(HBA.out.2 0 (by show 0 < (b::r2).toArray.size;simp)).trans ?_
     show some (Value.int .u8 ((b::r2).toArray[0]!).toNat)=_
     simp
    have hb256:=UInt8.toNat_lt b
    obtain⟨bn,hbn⟩:∃ n,n=b.toNat:=⟨_,rfl⟩
    rw[<- hbn]at hcell hb256
    obtain⟨m2,hm2⟩:∃ n,n=r2.length:=⟨_,rfl⟩
    have hl2:(b::r2).length=m2+1:=by simp[hm2]
    rw[hl2]at hrc2 hk2 hle2 hn2 ⊢
    have HBN:=hqZ hbn
    have HM2:=hqZ hm2
    have hm3:(0:Int) < (m2:Int)+1:=by omega
    have hm4:(1:Int)<=(m2:Int)+1:=by omega
    clear hbn hm2 hl2
    (clear T0;clear HN;clear HK;have H0:=hqZ hf;have xs0:=Fr.size H0.out;clear hf;have H1:=hqZ hb1;obtain⟨xk0,xl0⟩:=Blk.k1 H1.out;clear hb1;have H2:=hqZ (Acc.mono (Z':=fun g=>w.heap.size+1 < g/\g < wr.heap.size) (hZ:=fun g h1 h2=>⟨h2,h1⟩) (h:=hacc));clear hacc)
    by_cases h42:bn=42
    case pos =>
     subst h42
     have HPJ2:=hqZ (show PJ r acc r2 (acc2 ++ [.star])from PJ.step (by have h:=HPJ.out;rw[show b=42 from UInt8.toNat_inj.1 HBN.out.symm]at h;exact h))
     by_cases hc1:c2=1
     case pos =>
      subst hc1
      have h0:m2=0:=by omega
      subst h0
      have he:r2 = []:=List.eq_nil_of_length_eq_zero HM2.out.symm
      have HE2:=hqZ he
      clear he
      go_wp2_with (at_builtin;refine bu ?_)
      unfold Stop
      refine Acc.push (E:=eJ) (Z:=fun g=>w.heap.size+1 < g) mF rfl _ _ rfl rfl (by exact Acc.mono (h:=(Acc.carry H2.out (Fr.r.alloc _))) (hZ:=fun g _ hg=>by omega)) rfl (news:=[.iface 346 (.agg #[])]) (by exact(Blk.at_ _ _ _ (n:=wr.heap.size) rfl)) (y:=.star) (Zy:=fun g=>False) rfl (fun k _ hk=>hk.elim) (by simp only[aa];omega) (by omega) (S:=fun k=>w.heap.size+1 < k) (fun k e=>(HVa.out k e).2) ?_
      rintro v' v5 hacc hf
      have HB4:=hqZ (HBA.out.fr (Fr.trans ((Fr.refl (fun k=>w.heap.size+1 < k) wr).alloc _) hf) (by omega))
      (have xs1:=Fr.size hf;simp only[aa,ae,ad,af]at xs1;have T0:=hqZ (Fr.trans' (HFq.out.alloc _) hf (fun k hk hs=>by omega));clear HFq;have B0:=hqZ (Blk.next (H1.out.alloc _) hf (by show ¬ _;omega));clear H1;obtain⟨xk1,xl1⟩:=Blk.k1 B0.out;clear H2;have X0:=hqZ (Acc.mono (Z':=fun g=>w.heap.size+1 < g/\g < v5.heap.size) (hZ:=fun g h1 h2=>⟨h2,h1⟩) (h:=hacc));clear hacc;clear hf;clear xk0)
      go_wp2
      go_roundg (gk - 1)
      case measure=>omega
      case rel=>exact⟨o2,0,r2,acc2 ++ [.star],by rw[HE2.out];rfl,by rw[HE2.out];exact Nat.le_refl _,⟨HB4.out.1,fun j hj=>by rw[HE2.out]at hj;cases hj⟩,HPJ2.out,by exact T0.out,by exact B0.out,by exact Acc.mono (h:=X0.out) (hZ:=fun g _ hg=>by omega),by rw[HE2.out];show 0+1<=_;omega⟩
     case neg =>
      go_wp2_with (at_builtin;refine bu ?_)
      unfold Stop
      refine Acc.push (E:=eJ) (Z:=fun g=>w.heap.size+1 < g) mF rfl _ _ rfl rfl (by exact Acc.mono (h:=(Acc.carry H2.out (Fr.r.alloc _))) (hZ:=fun g _ hg=>by omega)) rfl (news:=[.iface 346 (.agg #[])]) (by exact(Blk.at_ _ _ _ (n:=wr.heap.size) rfl)) (y:=.star) (Zy:=fun g=>False) rfl (fun k _ hk=>hk.elim) (by simp only[aa];omega) (by omega) (S:=fun k=>w.heap.size+1 < k) (fun k e=>(HVa.out k e).2) ?_
      rintro v' v5 hacc hf
      have HB4:=hqZ (HBA.out.fr (Fr.trans ((Fr.refl (fun k=>w.heap.size+1 < k) wr).alloc _) hf) (by omega))
      (have xs1:=Fr.size hf;simp only[aa,ae,ad,af]at xs1;have T0:=hqZ (Fr.trans' (HFq.out.alloc _) hf (fun k hk hs=>by omega));clear HFq;have B0:=hqZ (Blk.next (H1.out.alloc _) hf (by show ¬ _;omega));clear H1;obtain⟨xk1,xl1⟩:=Blk.k1 B0.out;clear H2;have X0:=hqZ (Acc.mono (Z':=fun g=>w.heap.size+1 < g/\g < v5.heap.size) (hZ:=fun g h1 h2=>⟨h2,h1⟩) (h:=hacc));clear hacc;clear hf;clear xk0)
      go_wp2
      go_roundg (gk - 1)
      case measure=>omega
      case rel=>exact⟨o2+1,c2 - 1,r2,acc2 ++ [.star],by rw[HM2.out],by rw[<- HM2.out];omega,HB4.out.tail,HPJ2.out,by exact T0.out,by exact B0.out,by exact Acc.mono (h:=X0.out) (hZ:=fun g _ hg=>by omega),by rw[<- HM2.out];omega⟩
    case neg =>
     have h43:¬ (bn:Int)=42:=by omega
     have hb42:b ≠ 42:=fun e=>h42 (by rw[HBN.out,e];rfl)
     have HU:=hqZ (show Calls Tryz.prog 149 #[.slice (some ⟨w.heap.size+1,o2,none⟩) (m2+1) c2,.bool true] wr (UQ wr (w.heap.size+1) ⟨(b::r2).toArray⟩ (unq ⟨(b::r2).toArray⟩ true))from by
      have h:=lY wr (w.heap.size+1) o2 c2 ⟨(b::r2).toArray⟩ (by have hmm:=HM2.out;show(b::r2).toArray.size<=c2;simp <;> omega) (by have hmm:=HM2.out;show(b::r2).toArray.size<=1000000;simp <;> omega) HBA.out (HG.out.frN HFq.out)
      rw[show(ByteArray.mk (b::r2).toArray).size=(m2+1)from by have hmm:=HM2.out;show(b::r2).toArray.size=_;simp <;> omega]at h
      exact h)
     go_wp2_with fail
     cases hu:unq ⟨(b::r2).toArray⟩ true with
     | none =>
      refine(Calls.mono HU.out fun _ _ h=>UQ.bad h hu).mono ?_
      rintro e w3 ⟨⟨t1,u1,rfl⟩,hf⟩
      clear HU HBA
      (have xs1:=Fr.size hf;have T0:=hqZ (Fr.transN HFq.out hf);clear HFq;have B0:=hqZ (Blk.next H1.out hf id);clear H1;obtain⟨xk1,xl1⟩:=Blk.k1 B0.out;have X0:=hqZ (Acc.carry H2.out (Fr.transN Fr.r hf));clear H2;clear hf;clear xk0)
      go_wp2
      refine bodyPost_ret (v:=(.tuple #[.agg #[.slice none 0 0],.iface t1 u1])) (by simp only[results,Tryz.results200];go_simp) rfl ?_
      rw[HPI.out.bad hr HPJ.out (fun b' hb=>by cases hb;exact hb42) hu]
      exact⟨_,_,_,_,_,rfl,by exact(T0.out.set (.inr (Nat.le_refl _)))⟩
     | some x =>
      obtain⟨l,j⟩:=x
      refine(Calls.mono HU.out fun _ _ h=>UQ.good h hu).mono ?_
      rintro e w3 ⟨⟨o3,c3,rfl,hc3,hba3⟩,hf⟩
      rw[jv]at hba3
      have HB3:=hqZ hba3
      have HNX:=hqZ (HPI.out.next hs hr HPJ.out (fun b' hb=>by cases hb;exact hb42) hu)
      obtain⟨q,hq⟩:∃ q,q=(ByteArray.mk (b::r2).toArray).size - j:=⟨_,rfl⟩
      rw[<- hq]at hc3 ⊢
      have HQ:=hqZ (show q=((b::r2).drop j).length from by rw[hq,List.length_drop];show(b::r2).toArray.size - j=_;simp)
      clear HU HBA hq hba3
      (have xs1:=Fr.size hf;have T0:=hqZ (Fr.transN HFq.out hf);clear HFq;have B0:=hqZ (Blk.next H1.out hf id);clear H1;obtain⟨xk1,xl1⟩:=Blk.k1 B0.out;have X0:=hqZ (Acc.carry H2.out (Fr.transN Fr.r hf));clear H2;clear hf;clear xk0)
      go_wp2_with (at_builtin;refine bu ?_)
      unfold Stop
      refine Acc.push (E:=eJ) (Z:=fun g=>w.heap.size+1 < g) mF rfl _ _ rfl rfl (by exact Acc.mono (h:=(Acc.carry X0.out (Fr.r.alloc _))) (hZ:=fun g _ hg=>by omega)) rfl (news:=[.iface 123 (.string ⟨l.toArray⟩)]) (by exact(Blk.at_ _ _ _ (n:=w3.heap.size) rfl)) (y:=.txt l) (Zy:=fun g=>False) rfl (fun k _ hk=>hk.elim) (by simp only[aa];omega) (by omega) (S:=fun k=>w.heap.size+1 < k) (fun k e=>(HVa.out k e).2) ?_
      rintro v' v5 hacc hf
      have HB4:=hqZ (HB3.out.fr (Fr.trans ((Fr.refl (fun k=>w.heap.size+1 < k) w3).alloc _) hf) (by omega))
      (have xs3:=Fr.size hf;simp only[aa,ae,ad,af]at xs3;have T1:=hqZ (Fr.trans' (T0.out.alloc _) hf (fun k hk hs=>by omega));clear T0;have B1:=hqZ (Blk.next (B0.out.alloc _) hf (by show ¬ _;omega));clear B0;obtain⟨xk0,xl2⟩:=Blk.k1 B1.out;clear X0;have X0:=hqZ (Acc.mono (Z':=fun g=>w.heap.size+1 < g/\g < v5.heap.size) (hZ:=fun g h1 h2=>⟨h2,h1⟩) (h:=hacc));clear hacc;clear hf;clear xk1)
      go_wp2
      go_roundg (gk0 - 1)
      case measure=>have h1:=HNX.out.1;have h2:=HG0.out;omega
      case rel=>exact⟨o3,c3,(b::r2).drop j,acc2 ++ [.txt l],by rw[HQ.out],by rw[<- HQ.out];exact hc3,HB4.out,by rw[HG0.out];exact HNX.out.2,by exact T1.out,by exact B1.out,by exact Acc.mono (h:=X0.out) (hZ:=fun g _ hg=>by omega)⟩
def BlkH (w:World)(b:Nat)(cs:Array Value)(t:TypeId):Prop:=Blk w b cs t
theorem meth_c:sd:=by
 intro w Z tx ux s v l vs hmax hrow hrl
 have hv:=jq hrl
 generalize hn0:l.length=n at hrow hmax ⊢
 clear hrl hn0
 obtain⟨hl,hn,A,cap,rfl,hc⟩:=hrow
 have T0:=hqZ (Fr.refl (fun _=>False) w)
 have HV:=hqZ hv
 have HC:=hqZ hc
 have HL:=hqZ hl
 clear hv hc hl
 have hmk:=fun W=>run_make_row' (P:=Tryz.prog) 198 128 .nilIface 16 nodeS nodeI rfl .i64 .i64 (n+1) (by omega) (by omega) W
 rw[show((n+1:Nat):Int)=1+(n:Int)from by omega]at hmk
 generalize hm:madeCells #[Value.nilIface] (n+1)=M at hmk
 have hM:M=db [] (n+1):=hm.symm.trans (ju _)
 have hM0:M[0]? = some .nilIface:=by rw[hM,fV (by simp)];simp
 have hb0:Blk (((w.alloc (.cells #[.iface tx ux] 246)).alloc (.cells #[.nilIface] 246)).alloc (.cells M 128)) (w.heap.size+1+1) M 128:=Blk.at_ _ _ _ (by simp)
 have hc0:=hb0.cell 0 _ hM0
 have hf0:=hb0.free 0
 have HB0:=hqZ hb0
 clear hb0
 go_enter Tryz.func244,Tryz.ntmps244
 go_wp2
 go_loopg [20] n (fun k v wr=>∃ j:Nat,v = .int .i64 (j:Int)/\j+k=n/\Fr (fun _=>False) w wr/\Blk wr (w.heap.size+1+1) (db (.iface tx ux::vs.take j) (n+1)) 128/\Box wr (w.heap.size+1) 246 .nilIface)
 case atStart =>
  refine⟨0,rfl,by omega,by exact(((T0.out.alloc _).alloc _).alloc _),?_,?_⟩
  .rw[List.take_zero,<- List.nil_append [Value.iface tx ux],fU (by simp)]
   exact Blk.at_ _ _ _ (by simp)
  .exact(Box.at_ _ _ _ (by simp)).alloc _
 case round =>
  obtain⟨j,rfl,hj,hf,hb,hx⟩:=hrel
  have HB:=hqZ hb
  have HX:=hqZ hx
  have HF:=hqZ hf
  clear hb hx
  (clear T0;clear HB0;have H0:=hqZ hf;have xs0:=Fr.size H0.out;clear hf)
  have hb:=HB.out
  have hx:=HX.out
  have hx1:=hx.cell
  have hx2:=hx.free
  have hx3:=hx.lt
  have LL:=HL.out
  have hlen:(Value.iface tx ux::vs.take j).length=j+1:=by rw[List.length_cons,List.length_take];omega
  cases hq2:decide ((j:Int) < (n:Int))
  case false =>
   have e:j=n:=by simp at hq2;omega
   subst e
   have e2:vs.take j=vs:=List.take_of_length_le (by omega)
   rw[e2]at hb
   have HB2:BlkH _ _ _ _:=hb
   clear hb hx1 hx2 hx3 HB
   (go_wp2_with fail;refine(al _ _ _).mono ?_;rintro e w2 ⟨rfl,hf⟩;have HB3:BlkH w2 _ _ _:=Blk.next HB2 hf id;have hx4:w2.heap[w.heap.size+1]? = _:=(hf.block _ hx.lt id).trans hx;(have xs1:=Fr.size hf;have T0:=hqZ (Fr.transN HF.out hf);clear HF;clear hf))
   have hx7:Box w2 (w.heap.size+1) 246 .nilIface:=hx4
   have hx5:=hx7.cell
   have hx6:=hx7.free
   have hb2:Blk w2 _ _ _:=HB3
   go_wp2
   refine bodyPost_ret (v:=(.agg #[.iface 200 (.agg #[.string s,.slice (some ⟨w.heap.size+1+1,0,none⟩) (j+1) (j+1)])])) (by simp only[results,Tryz.results244];go_simp) rfl ?_
   refine⟨_,rfl,⟨by simp;omega,by omega,some ⟨w.heap.size+1+1,0,none⟩,j+1,rfl,fun h=>⟨_,rfl,by omega,by simp only[af];exact hb2.lt,fun k u hu=>?_⟩⟩,by exact(T0.out.set (.inr (by omega)))⟩
   have hlt:k < (Value.iface tx ux::vs).length:=(List.getElem?_eq_some_iff.1 hu).1
   refine(hb2.far (by omega)).cell k u ?_
   rw[show j+1=(Value.iface tx ux::vs).length from by simp;omega,hY,List.getElem?_toArray];exact hu
  have hlt:j < n:=by simp at hq2;omega
  obtain⟨g,eg,hZ,hg,hcell⟩:=HC.out (by omega)
  cases eg
  obtain⟨u,hu⟩:∃ u,vs[j]? = some u:=by cases hh:vs[j]? with|none=>have:=List.getElem?_eq_none_iff.1 hh;omega|some u=>exact⟨u,rfl⟩
  obtain⟨t,x,rfl⟩:=HV.out u (List.mem_of_getElem? hu)
  have hc1:=(HF.out.cell (p:=⟨g,j,none⟩) hg id).trans (hcell j _ hu)
  have hgl:g < wr.heap.size:=Nat.lt_of_lt_of_le hg HF.out.size
  have hc2:wr.cell? ⟨w.heap.size+1+1,j+1,none⟩=some .nilIface:=hb.cell (j+1) _ (by rw[fV (by omega),hlen];simp[hlt])
  have hf2:=hb.free (j+1)
  have hbl:=hb.lt
  go_wp2
  go_roundg (gk - 1)
  case measure=>omega
  case rel =>
   refine⟨j+1,by push_cast;rfl,by omega,by exact((HF.out.set (.inr (by omega))).alloc _),?_,?_⟩
   .refine Blk.alloc (hb.set (j+1) _ ?_) _
    rw[List.take_add_one,hu,Option.toList_some]
    have:=fU (l:=Value.iface tx ux::vs.take j) (n:=n+1) (by omega) (.iface t x)
    rw[hlen]at this
    exact this
   .exact(hx.far (by omega)).alloc _
theorem below0:jR:=⟨str_val,int_val,set_c,rec_c,call_c,meth_c,lu,pat_c,ma,lZ⟩
theorem eP{S X T:TypeId}{z:Value}{d:_}(hu:∀ W,(underlying X).run Tryz.prog W = .ok d W)(hd:∀ m,d ≠ .interface m)(hz:∀ W,(zeroValue X).run Tryz.prog W = .ok z W)(h:¬ T=X)(v:Value)(W:World) :
  (Instr.typeAssert (.iface T v) S X true).run Tryz.prog W = .ok (.tuple #[z,.bool false]) W:=by
 cases d <;> first|exact absurd rfl (hd _)|simp[Instr.typeAssert,hu,hz,h,Result.andThen]
theorem iY{S X:TypeId}{d:_}(hu:∀ W,(underlying X).run Tryz.prog W = .ok d W)(hd:∀ m,d ≠ .interface m)(v:Value)(W:World) :
  (Instr.typeAssert (.iface X v) S X true).run Tryz.prog W = .ok (.tuple #[v,.bool true]) W:=by
 cases d <;> first|exact absurd rfl (hd _)|simp[Instr.typeAssert,hu,Result.andThen]
theorem ji(l:Val)(v:Value)(h:litV l=some v)(w:World):Calls Tryz.prog 71 #[v] w fun e w'=>e = .returned (.tuple #[.agg (eM l).toArray,.bool true])/\New w w':=by
 cases l with
 | none=>cases h
 | bool b =>
  cases h
  have ny:=fun v W=>iY (S:=166) Tryz.runUnderlying250 (by intro m;exact nofun) v W
  cases b
  .go_enter Tryz.func71,Tryz.ntmps71
   go_wp2
   refine bodyPost_ret (v:=(.tuple #[.agg #[.int .i64 1,.int .i64 0,.string ⟨#[]⟩,.string ⟨#[]⟩,.slice none 0 0,.slice none 0 0],.bool true])) (by simp only[results,Tryz.results71];go_simp) rfl ?_
   exact⟨rfl,by((repeat' (with_reducible(first|exact Fr.refl _ _|apply Fr.drew|apply Fr.drewN|apply Fr.alloc|apply Fr.set))) <;> first|exact .inl rfl|exact .inr (Nat.le_refl _)|exact .inr (by omega)|(refine .inl ?_;show ¬ _;omega))⟩
  .go_enter Tryz.func71,Tryz.ntmps71
   go_wp2
   refine bodyPost_ret (v:=(.tuple #[.agg #[.int .i64 1,.int .i64 1,.string ⟨#[]⟩,.string ⟨#[]⟩,.slice none 0 0,.slice none 0 0],.bool true])) (by simp only[results,Tryz.results71];go_simp) rfl ?_
   exact⟨rfl,by((repeat' (with_reducible(first|exact Fr.refl _ _|apply Fr.drew|apply Fr.drewN|apply Fr.alloc|apply Fr.set))) <;> first|exact .inl rfl|exact .inr (Nat.le_refl _)|exact .inr (by omega)|(refine .inl ?_;show ¬ _;omega))⟩
 | long n =>
  cases h
  have n1:=fun v W=>eP (S:=166) (T:=251) Tryz.runUnderlying250 (by intro m;exact nofun) Tryz.zeroValue250 (by decide) v W
  have ny:=fun v W=>iY (S:=166) Tryz.runUnderlying251 (by intro m;exact nofun) v W
  go_enter Tryz.func71,Tryz.ntmps71
  go_wp2
  refine bodyPost_ret (v:=(.tuple #[.agg #[.int .i64 2,.int .i64 n,.string ⟨#[]⟩,.string ⟨#[]⟩,.slice none 0 0,.slice none 0 0],.bool true])) (by simp only[results,Tryz.results71];go_simp) rfl ?_
  exact⟨rfl,by((repeat' (with_reducible(first|exact Fr.refl _ _|apply Fr.drew|apply Fr.drewN|apply Fr.alloc|apply Fr.set))) <;> first|exact .inl rfl|exact .inr (Nat.le_refl _)|exact .inr (by omega)|(refine .inl ?_;show ¬ _;omega))⟩
 | str s =>
  cases h
  have n1:=fun v W=>eP (S:=166) (T:=123) Tryz.runUnderlying250 (by intro m;exact nofun) Tryz.zeroValue250 (by decide) v W
  have n2:=fun v W=>eP (S:=166) (T:=123) Tryz.runUnderlying251 (by intro m;exact nofun) Tryz.zeroValue251 (by decide) v W
  have ny:=fun v W=>iY (S:=166) Tryz.runUnderlying123 (by intro m;exact nofun) v W
  go_enter Tryz.func71,Tryz.ntmps71
  go_wp2
  refine bodyPost_ret (v:=(.tuple #[.agg #[.int .i64 3,.int .i64 0,.string s,.string ⟨#[]⟩,.slice none 0 0,.slice none 0 0],.bool true])) (by simp only[results,Tryz.results71];go_simp) rfl ?_
  exact⟨rfl,by((repeat' (with_reducible(first|exact Fr.refl _ _|apply Fr.drew|apply Fr.drewN|apply Fr.alloc|apply Fr.set))) <;> first|exact .inl rfl|exact .inr (Nat.le_refl _)|exact .inr (by omega)|(refine .inl ?_;show ¬ _;omega))⟩
 | ent t i =>
  cases h
  have n1:=fun v W=>eP (S:=166) (T:=153) Tryz.runUnderlying250 (by intro m;exact nofun) Tryz.zeroValue250 (by decide) v W
  have n2:=fun v W=>eP (S:=166) (T:=153) Tryz.runUnderlying251 (by intro m;exact nofun) Tryz.zeroValue251 (by decide) v W
  have n3:=fun v W=>eP (S:=166) (T:=153) Tryz.runUnderlying123 (by intro m;exact nofun) Tryz.zeroValue123 (by decide) v W
  have ny:=fun v W=>iY (S:=166) Tryz.runUnderlying153 (by intro m;exact nofun) v W
  go_enter Tryz.func71,Tryz.ntmps71
  go_wp2
  refine bodyPost_ret (v:=(.tuple #[.agg #[.int .i64 4,.int .i64 0,.string i,.string t,.slice none 0 0,.slice none 0 0],.bool true])) (by simp only[results,Tryz.results71];go_simp) rfl ?_
  exact⟨rfl,by((repeat' (with_reducible(first|exact Fr.refl _ _|apply Fr.drew|apply Fr.drewN|apply Fr.alloc|apply Fr.set))) <;> first|exact .inl rfl|exact .inr (Nat.le_refl _)|exact .inr (by omega)|(refine .inl ?_;show ¬ _;omega))⟩
def SCX (w:World)(s:Scp)(e:Ending)(w':World):Prop :=
 ∃ (A:Option Addr) (n c:Nat),e = .returned (.agg #[.int .i64 (s.kind:Nat),.string s.ent.1,.string s.ent.2,.slice A n c,.string s.ty])/\Row w' (w.heap.size <= ·) (.slice A n c) s.list.length 2 (aV s.list)/\New w w'
theorem psc_all(w:World):Calls Tryz.prog 48 #[.iface 312 (.agg #[])] w (SCX w Scp.all):=by
 have n0:=fun v W=>eP (S:=150) (T:=312) Tryz.runUnderlying155 (by intro m;exact nofun) Tryz.zeroValue155 (by decide) v W
 have n1:=fun v W=>eP (S:=150) (T:=312) Tryz.runUnderlying157 (by intro m;exact nofun) Tryz.zeroValue157 (by decide) v W
 have n2:=fun v W=>eP (S:=150) (T:=312) Tryz.runUnderlying160 (by intro m;exact nofun) Tryz.zeroValue160 (by decide) v W
 have n3:=fun v W=>eP (S:=150) (T:=312) Tryz.runUnderlying162 (by intro m;exact nofun) Tryz.zeroValue162 (by decide) v W
 have n4:=fun v W=>eP (S:=150) (T:=312) Tryz.runUnderlying164 (by intro m;exact nofun) Tryz.zeroValue164 (by decide) v W
 go_enter Tryz.func48,Tryz.ntmps48
 go_wp2_with fail
 refine bodyPost_ret (v:=(.agg #[.int .i64 0,.string ⟨#[]⟩,.string ⟨#[]⟩,.slice none 0 0,.string ⟨#[]⟩])) (by simp only[results,Tryz.results48];go_simp) rfl ?_
 exact⟨none,0,0,rfl,Row.nil0 _ _ _,by((repeat' (with_reducible(first|exact Fr.refl _ _|apply Fr.drew|apply Fr.drewN|apply Fr.alloc|apply Fr.set))) <;> first|exact .inl rfl|exact .inr (Nat.le_refl _)|exact .inr (by omega)|(refine .inl ?_;show ¬ _;omega))⟩
def SCc (w:World)(Z:Nat->Prop)(s:Scp)(cs:List Value):Prop :=
 ∃ (A:Option Addr) (n c:Nat),cs = [.int .i64 (s.kind:Nat),.string s.ent.1,.string s.ent.2,.slice A n c,.string s.ty]/\Row w Z (.slice A n c) s.list.length 2 (aV s.list)
theorem SCc.frame{S Z:Nat->Prop}{w w':World}{s:Scp}{cs:List Value}(h:SCc w Z s cs)(hf:Fr S w w')(hS:∀ g,Z g->g < w.heap.size->¬ S g):SCc w' Z s cs:=by
 obtain⟨A,n,c,e,h⟩:=h;exact⟨A,n,c,e,h.frame hf hS⟩
theorem SCc.mono{Z Z':Nat->Prop}{w:World}{s:Scp}{cs:List Value}(h:SCc w Z s cs)(hZ:∀ g,g < w.heap.size->Z g->Z' g):SCc w Z' s cs:=by
 obtain⟨A,n,c,e,h⟩:=h;exact⟨A,n,c,e,h.mono hZ⟩
def cxE (w:World)(Z:Nat->Prop)(c:Bool × Ex)(cs:List Value):Prop:=∃ cs',cs = .bool c.1::cs'/\PX w Z c.2 cs'
instance cxOK:bq cxE 12 where
 frame:=fun⟨cs,e,h⟩ hf hS=>⟨cs,e,PX.frame hf hS h⟩
 mono:=fun⟨cs,e,h⟩ hS=>⟨cs,e,PX.mono hS h⟩
 len:=fun⟨cs,e,h⟩=>by rw[e,List.length_cons,pxOK.len h]
 one:=fun⟨cs,e,h⟩ v hv=>by
  rw[e]at hv
  rcases List.mem_cons.1 hv with rfl|hv
  .rfl
  .exact pxOK.one h v hv
theorem cxT:ElT 41 69 12 200:=⟨by kernel_rfl,by
 have h:(Tryz.prog.info? 69).map (fun i=>(i.zero.map (·.cells.size),i.size,i.bytes))=some (some 12,12,200):=by kernel_rfl
 obtain⟨i,hi⟩:∃ i,Tryz.prog.info? 69=some i:=by cases hh:Tryz.prog.info? 69 with|none=>rw[hh]at h;cases h|some i=>exact⟨i,rfl⟩
 rw[hi]at h
 simp at h
 obtain⟨⟨z,hz,hc⟩,h1,h2⟩:=h
 exact⟨i,z,hi,hz,h1,h2,hc⟩,by decide,by decide⟩
def ntE (w:World)(Z:Nat->Prop)(x:ByteArray × ByteArray)(cs:List Value):Prop:=cs = [.string x.1,.string x.2]
instance ntOK:bq ntE 2 where
 frame:=fun h _ _=>h
 mono:=fun h _=>h
 len:=fun h=>by rw[h];rfl
 one:=fun h v hv=>by rw[h]at hv;simp at hv;rcases hv with rfl|rfl <;> rfl
theorem ntT:ElT 35 74 2 32:=⟨by kernel_rfl,by
 have h:(Tryz.prog.info? 74).map (fun i=>(i.zero.map (·.cells.size),i.size,i.bytes))=some (some 2,2,32):=by kernel_rfl
 obtain⟨i,hi⟩:∃ i,Tryz.prog.info? 74=some i:=by cases hh:Tryz.prog.info? 74 with|none=>rw[hh]at h;cases h|some i=>exact⟨i,rfl⟩
 rw[hi]at h
 simp at h
 obtain⟨⟨z,hz,hc⟩,h1,h2⟩:=h
 exact⟨i,z,hi,hz,h1,h2,hc⟩,by decide,by decide⟩
def PP (w:World)(Z:Nat->Prop)(p:Pol)(cs:List Value):Prop :=
 ∃ (nv cv:Value) (c1 c2 c3 xs ys:List Value),cs = .bool p.forbid::nv::(c1++(c2++(c3 ++ [cv])))/\Row w Z nv p.notes.length 2 ys/\EL ntE w Z p.notes ys/\SCc w Z p.principal c1/\SCc w Z p.action c2/\SCc w Z p.resource c3/\Row w Z cv p.conds.length 12 xs/\EL cxE w Z p.conds xs
theorem PP.frame{S Z:Nat->Prop}{w w':World}{p:Pol}{cs:List Value}(h:PP w Z p cs)(hf:Fr S w w')(hS:∀ g,Z g->g < w.heap.size->¬ S g):PP w' Z p cs:=by
 obtain⟨nv,cv,c1,c2,c3,xs,ys,e,h1,h2,h3,h4,h5,h6,h7⟩:=h
 exact⟨nv,cv,c1,c2,c3,xs,ys,e,h1.frame hf hS,h2.frame ntOK hf hS,h3.frame hf hS,h4.frame hf hS,h5.frame hf hS,h6.frame hf hS,h7.frame cxOK hf hS⟩
theorem PP.mono{Z Z':Nat->Prop}{w:World}{p:Pol}{cs:List Value}(h:PP w Z p cs)(hZ:∀ g,g < w.heap.size->Z g->Z' g):PP w Z' p cs:=by
 obtain⟨nv,cv,c1,c2,c3,xs,ys,e,h1,h2,h3,h4,h5,h6,h7⟩:=h
 exact⟨nv,cv,c1,c2,c3,xs,ys,e,h1.mono hZ,h2.mono ntOK hZ,h3.mono hZ,h4.mono hZ,h5.mono hZ,h6.mono hZ,h7.mono cxOK hZ⟩
def bc (w:World)(b:Nat)(l:List Value):World:=w.setCells b 0 l
theorem Fr.setCellsP{S:Nat->Prop}{w:World}{b:Nat}(hp:S b\/w.heap.size<=b)(vs:List Value):∀ {w1:World} (o:Nat),Fr S w w1->Fr S w (w1.setCells b o vs):=by
 induction vs with
 | nil=>intro w1 o h;exact h
 | cons v r ih=>intro w1 o h;exact ih (o+1) (h.set hp)
theorem Fr.rowPut{S:Nat->Prop}{w w1:World}{b:Nat}{v:List Value}(h:Fr S w w1)(hp:S b\/w.heap.size<=b):Fr S w (bc w1 b v):=Fr.setCellsP hp _ 0 h
theorem ones:(∀ s,(Value.string s).oneCell'=true)/\(∀ b,(Value.bool b).oneCell'=true)/\(∀ k n,(Value.int k n).oneCell'=true)/\(∀ A n c,(Value.slice A n c).oneCell'=true):=⟨fun _=>rfl,fun _=>rfl,fun _ _=>rfl,fun _ _ _=>rfl⟩
def ptrB:Value->Nat
 | .pointer (some a)=>a.block
 | _=>0
def aggL:Value->List Value
 | .agg cs=>cs.toList
 | _=>[]
theorem ptrB_eq(b o:Nat):ptrB (.pointer (some ⟨b,o,none⟩))=b:=rfl
theorem aggL_eq(l:List Value):aggL (.agg l.toArray)=l:=rfl
attribute [go_sem] ptrB_eq aggL_eq
def sa (w:World)(p v:Value):Prop:=(Instr.storeAt 43 p v).run Tryz.prog w = .ok () (bc w (ptrB p) (aggL v))
theorem jy(a:Act)(dst:Option Tmp)(x y:Operand)(ty:TypeId)(pos:String)(after:Array Edge)(guard:Option (Nat × Bool))(w:World)(h:sa w (a.eval x) (a.eval y)) :
  (execOp a.eval { dst,op:=.store 43 x y,type:=ty,pos,after,guard }).run Tryz.prog w = .ok .skip (bc w (ptrB (a.eval x)) (aggL (a.eval y))):=by
 unfold sa at h
 simp only[execOp,Sem.run_bind,h,Result.andThen_ok,Sem.run_pure]
theorem stC{w:World}{b:Nat}{c:Array Value}{t:TypeId}(h:Blk w b c t)(hc:c.size=18)(l:List Value)(hl:l.length=18)(h1:l.all (·.oneCell')=true):sa w (.pointer (some ⟨b,0,none⟩)) (.agg l.toArray):=by
 have hi:(Tryz.prog.info? 43).map (·.size)=some 18:=by kernel_rfl
 exact run_storeAt_mid w b 0 43 l.toArray (fun j hj=>by
  have hj2:j < c.size:=by simp at hj;omega
  rw[Nat.zero_add]
  exact⟨by rw[h.cell j _ (Array.getElem?_eq_getElem hj2)];rfl,h.free j⟩) (by rw[hi];simp[hl]) (by simpa using h1)
def kR (w:World)(b:Nat):Value:=match w.heap[b]? with
 | some (.cells cs _ _)=>.agg cs
 | _=>.nilIface
def sj (w:World)(p:Value):Prop:=(Instr.loadAt 43 p).run Tryz.prog w = .ok (kR w (ptrB p)) w
theorem jz(a:Act)(dst:Option Tmp)(x:Operand)(ty:TypeId)(pos:String)(after:Array Edge)(guard:Option (Nat × Bool))(w:World)(h:sj w (a.eval x)) :
  (execOp a.eval { dst,op:=.load 43 x,type:=ty,pos,after,guard }).run Tryz.prog w = .ok (.value (kR w (ptrB (a.eval x)))) w:=by
 unfold sj at h
 simp only[execOp,Sem.run_bind,h,Result.andThen_ok,Sem.run_pure]
theorem polU:∃ d,Tryz.prog.underlying 43=some d/\d.isRow=true:=⟨_,Tryz.underlying43,rfl⟩
theorem getV{w:World}{b:Nat}{c:Array Value}{t:TypeId}(h:Blk w b c t)(hc:c.size=18):(loadVar 43 ⟨b,0,none⟩).run Tryz.prog w = .ok (.agg c) w:=by
 have hi:(Tryz.prog.info? 43).map (·.size)=some 18:=by kernel_rfl
 obtain⟨d,hu,hd⟩:=polU
 exact run_loadVar_mid w b 0 43 c.toList d (fun j v hj=>by rw[Nat.zero_add];exact h.cell j v (by simpa using hj)) hu hd (by rw[hi];simp[hc])
theorem getC{w:World}{b:Nat}{c:Array Value}{t:TypeId}(h:Blk w b c t)(hc:c.size=18):sj w (.pointer (some ⟨b,0,none⟩))/\kR w b = .agg c:=by
 have e:kR w b = .agg c:=by unfold kR;rw[h]
 refine⟨?_,e⟩
 show(Instr.loadAt _ _).run _ _ = .ok (kR w b) w
 rw[e]
 simp only[Instr.loadAt,Instr.sureAddr,Sem.run_bind,Sem.run_pure,Result.andThen_ok,getV h hc]
theorem res2{fn:Func}{t u:Tmp}{ty:TypeId}{tmps:Array Value}{w:World}{b:Nat}{c:Array Value}{v:Value}(h:fn.results=#[.cell t ty,.tmp u])(ht:tmps.getD t undef = .pointer (some ⟨b,0,none⟩))(hl:(loadVar ty ⟨b,0,none⟩).run Tryz.prog w = .ok (.agg c) w)(hu:tmps.getD u undef=v) :
  (results fn tmps).run Tryz.prog w = .ok (.tuple #[.agg c,v]) w:=by
 have ht':tmps[t]?.getD undef = .pointer (some ⟨b,0,none⟩):=by rw[<- ht];simp[Array.getD_eq_getD_getElem?]
 have hu':tmps[u]?.getD undef=v:=by rw[<- hu];simp[Array.getD_eq_getD_getElem?]
 simp[results,h,ht',asAddr,hl,hu',Result.andThen]
theorem Blk.rowPut{w:World}{b:Nat}{c c':Array Value}{t:TypeId}(h:Blk w b c t)(l:List Value)(hl:l.length=c.size)(hc:c'=l.toArray):Blk (bc w b l) b c' t:=by
 have key:∀ (l:List Value) (o:Nat) (w:World) (p r:List Value),Blk w b (p++r).toArray t->p.length=o->l.length=r.length->Blk (w.setCells b o l) b (p++l).toArray t:=by
  intro l
  induction l with
  | nil=>intro o w p r h1 h2 h3;cases r with
   | nil=>exact h1
   | cons _ _=>simp at h3
  | cons v l ih=>intro o w p r h1 h2 h3;cases r with
   | nil=>simp at h3
   | cons u r =>
    have:=ih (o+1) (w.setCell ⟨b,o,none⟩ v) (p ++ [v]) r (h1.set o v (by subst h2;simp)) (by simp[h2]) (by simpa using h3)
    simpa[World.setCells] using this
 subst hc
 have:=key l 0 w [] c.toList (by simpa using h) rfl (by simpa using hl)
 simpa[Go.Proofs.YtbdhlpeckennjaaGreatDoor.bc] using this
theorem EL.at_{α:Type}{E:World->(Nat->Prop)->α->List Value->Prop}{size:Nat}(h:bq E size){w:World}{Z:Nat->Prop}:∀ {l:List α} {cs:List Value} (_:EL E w Z l cs) (j:Nat) (x:α),l[j]? = some x->∃ a,E w Z x a/\∀ i,i < size->cs[j * size+i]? = a[i]?
 | [],_,_,j,x,hj=>by simp at hj
 | y::l,_,⟨a,b,e,hx,h2⟩,0,x,hj=>by
  subst e
  simp at hj;subst hj
  exact⟨a,hx,fun i hi=>by rw[Nat.zero_mul,Nat.zero_add,List.getElem?_append_left (by rw[h.len hx];exact hi)]⟩
 | y::l,_,⟨a,b,e,hx,h2⟩,j+1,x,hj=>by
  subst e
  obtain⟨c,h3,h4⟩:=EL.at_ h h2 j x (by simpa using hj)
  refine⟨c,h3,fun i hi=>?_⟩
  have he:(j+1) * size+i - size=j * size+i:=by rw[Nat.add_mul];omega
  rw[<- h4 i hi,List.getElem?_append_right (by rw[h.len hx,Nat.add_mul];omega),h.len hx,he]
theorem Held.at_{α:Type}{E:World->(Nat->Prop)->α->List Value->Prop}{size:Nat}[h:bq E size]{w:World}{Z:Nat->Prop}{A:Option Addr}{n cap:Nat}{l:List α}(k:Held E w Z (.slice A n cap) l size) :
  n=l.length/\l.length<=200000/\∀ j x,l[j]? = some x->∃ g a,A=some ⟨g,0,none⟩/\g < w.heap.size/\E w Z x a/\∀ i u,i < size->a[i]? = some u->w.cell? ⟨g,j * size+i,none⟩=some u:=by
 obtain⟨xs,⟨h1,h2,A',cap',h3,h4⟩,hel⟩:=k
 cases h3
 refine⟨rfl,h2,fun j x hj=>?_⟩
 obtain⟨g,e,_,hg,hc⟩:=h4 (by have:=(List.getElem?_eq_some_iff.1 hj).1;omega)
 obtain⟨a,ha,hi⟩:=EL.at_ h hel j x hj
 exact⟨g,a,e,hg,ha,fun i u hs hu=>hc _ _ (by rw[hi i hs];exact hu)⟩
end Go.Proofs.YtbdhlpeckennjaaGreatDoor
