/- FnLong (the proof that the law returns true for every input), part 32 of 52; the last part says what is proved, and its condition. -/
import Derived.Deep.DeepCutAuto
import Derived.Deep.CutBlock
import Derived.Test.YtbdhlpeckennjaaGreatDoorM31
set_option linter.unusedVariables false
set_option linter.unusedSimpArgs false
set_option maxHeartbeats 80000000
set_option maxRecDepth 1000000
namespace Go.Proofs.YtbdhlpeckennjaaGreatDoor
open Go Go.RowKit
theorem pS(w:World)(V:Env)(q:Nat)(tk:Option Nat)(er:Bool)(ch:KP)(f:SF)(h:StF w V f q 0 tk er)(hch:f.kp=ch)(hfast:¬ (f.buf f.p).toNat < 128):Calls Tryz.prog 104 #[.pointer (some ⟨V.sb,0,none⟩)] w (NX w V q tk er ch):=by
 obtain⟨B,sb,rb,g,cap,l⟩:=V
 obtain⟨hS,hR,hI,hP⟩:=h
 have hI:=hI.weak
 change Scn w B sb rb f at hS
 change Rd w rb g cap l.length (f.off+f.e)at hR
 change SI l f q 0 tk er at hI
 have hl9:l.length<=90000:=hP.l9
 have c26:w.cell? ⟨sb,1026,none⟩=some (.int .i64 f.p):=hS.cell 1026 (by omega)
 have hp1:=hI.pe
 have hp2:=hI.e1
 have hp3:=hI.len
 have cb:w.cell? ⟨sb,1+f.p,none⟩=some (.int .u8 (f.buf f.p).toNat):=hS.byte f.p (by omega)
 have hlt:=hS.lt
 have hlb:(f.p:Int) < 1025:=by omega
 obtain⟨b,hb⟩:∃ b,b=(f.buf f.p).toNat:=⟨_,rfl⟩
 rw[<- hb]at cb
 have hb256:b < 256:=by rw[hb];exact UInt8.toNat_lt _
 have HS:=hqZ hS
 have HR:=hqZ hR
 have HI:=hqZ hI
 have HP:=hqZ hP
 have HC:=hqZ hch
 have HB:=hqZ hb
 rw[<- hb]at hfast
 clear hS hR hI hP hch hb
 have hslow:(128:Int)<=(b:Int):=by omega
 go_enter Tryz.func104,Tryz.ntmps104
 go_wp2_with fail
 go_quiet (fail)
 go_upto_block 0 with fail
 have HS0:=hqZ (HS.out.new ((Fr.refl _ w).drewN nq))
 have HR0:=hqZ (HR.out.new ((Fr.refl _ w).drewN nq))
 have HP0:=hqZ (HP.out.next ((Fr.refl _ w).drewN nq))
 have HF0:=hqZ (show FS B sb rb w (w.drewN nq)from FS.refl.drewN nq)
 clear HS HR HP HB c26 cb
 generalize w.drewN nq=w0 at *
 go_cut [5] (fun s5 wx=>∃ F8,Scn wx B sb rb F8/\Rd wx rb g cap l.length (F8.off+F8.e)/\SI l F8 q 0 tk er/\Pl wx ⟨B,sb,rb,g,cap,l⟩/\FS B sb rb w wx/\F8.kp=ch/\F8.p < F8.e/\chr (l.drop q)=chr (seg F8 F8.p F8.e)/\clen (l.drop q)=clen (seg F8 F8.p F8.e)/\l.drop q ≠ [])
 case rest =>
  rename_i K1 hT K0 hR
  obtain⟨F8,h1,h2,h3,h4,h5,h6,hpe,h7⟩:=hcut
  exact hR _ _ (pT w wc B sb rb g cap q l tk er ch F8 K1 _ _ _ _ _ _ _ _ _ _ _ _ _ _ _ _ _ _ _ _ _ _ _ _ _ _ _ _ _ _ _ _ _ _ _ _ _ _ _ _ _ _ _ _ _ _ _ _ _ _ _ _ _ _ _ _ _ _ _ _ _ _ _ _ _ _ _ _ _ _ _ _ _ _ _ _ _ _ _ _ _ _ _ _ _ _ _ _ _ _ _ _ _ _ _ _ _ _ _ _ _ _ _ _ _ _ _ _ _ _ _ _ _ _ _ _ _ _ _ _ _ _ _ _ _ _ _ _ _ _ _ _ _ _ _ _ _ _ _ _ _ _ _ _ _ _ _ _ _ _ _ _ _ _ _ _ _ _ _ _ _ _ _ _ _ _ _ _ _ _ _ _ _ _ _ _ _ _ _ _ _ _ _ _ _ _ _ _ _ _ _ _ _ _ _ _ _ _ _ _ _ _ _ _ _ _ _ _ _ _ _ _ _ _ _ _ _ _ _ _ _ _ _ _ _ _ _ _ _ _ _ _ _ _ _ _ _ _ _ _ _ _ _ _ _ _ _ _ _ _ _ _ _ _ _ _ _ _ _ _ _ _ _ _ _ _ (hqZ hT) (hqZ h5) (hqZ h1) (hqZ h2) (hqZ h4) (hqZ h3) (hqZ h7) (hqZ h6) hpe h3.pe h3.e1 h3.len hl9)
 go_wp2_with fail
 go_loopg [5] (l.length+1) (fun k v wr=>∃ f1,Scn wr B sb rb f1/\Rd wr rb g cap l.length (f1.off+f1.e)/\SI l f1 q 0 tk er/\Pl wr ⟨B,sb,rb,g,cap,l⟩/\FS B sb rb w wr/\f1.kp=ch/\l.length+1<=k+(f1.off+f1.e))
 case atStart=>exact⟨f,HS0.out,HR0.out,HI.out,HP0.out,HF0.out,HC.out,by omega⟩
 case round =>
  obtain⟨f1,h1,h2,h3,h4,h5,h6,h7⟩:=hrel
  clear HS0 HR0 HI HP0 HF0 HC hp1 hp2 hp3 hlt hlb
  have HS1:=hqZ h1
  have HR1:=hqZ h2
  have HI:=hqZ h3
  have HP1:=hqZ h4
  have HF:=hqZ h5
  have HC:=hqZ h6
  have hp1:=h3.pe
  have hp2:=h3.e1
  have hp3:=h3.len
  have hlt:=h1.lt
  have c26:wr.cell? ⟨sb,1026,none⟩=some (.int .i64 f1.p):=h1.cell 1026 (by omega)
  have c27:wr.cell? ⟨sb,1027,none⟩=some (.int .i64 f1.e):=h1.cell 1027 (by omega)
  clear h1 h2 h3 h4 h5 h6
  have hw4:IntKind.i64.wrap ((f1.p:Int)+4)=(f1.p:Int)+4:=IntWalk.i64_in _ (by omega)
  by_cases hgd:f1.e < f1.p+4
  case neg =>
   have hd:decide ((f1.e:Int) < (f1.p:Int)+4)=false:=by simp;omega
   have hF:=HI.out.full (.inr (.inl (by omega)))
   have hpe:=hF.1
   have HFULL:=hqZ hF.2
   clear hF
   go_wp2_with fail
   go_quiet (fail)
   go_wp2_with fail
   have HF:=hqZ (HF.out.drewN nq)
   have HS1:=hqZ (HS1.out.new (Fr.r.drewN nq))
   have HR1:=hqZ (HR1.out.new (Fr.r.drewN nq))
   have HP1:=hqZ (HP1.out.next (Fr.r.drewN nq))
   go_meet
   exact⟨f1,HS1.out,HR1.out,HI.out,HP1.out,HF.out,HC.out,hpe,HFULL.out⟩
  case pos =>
   have hd:decide ((f1.e:Int) < (f1.p:Int)+4)=true:=by simp;omega
   have hs1:(f1.p:Int)<=(f1.e:Int):=by omega
   have hs2:(f1.e:Int)<=1025:=by omega
   have hs3:f1.e<=1025:=by omega
   go_wp2_with fail
   go_still_tail 23,(by kernel_rfl)
   change wpList _ _ _ _ _ wr.drew
   go_wp2_with fail
   refine(lF _ B sb rb f1 (HS1.out.new ((Fr.refl _ wr).drew)) f1.p f1.e (1025 - f1.p) (HP1.out.next ((Fr.refl _ wr).drew)).gl hp1 (by omega) (by omega)).mono ?_
   rintro e w1 ⟨rfl,hf⟩
   have hfn:Fr (fun _=>False) wr w1:=((Fr.refl _ wr).drew).trans hf
   have HS1:=hqZ (HS1.out.new hfn)
   have HR1:=hqZ (HR1.out.new hfn)
   have HP1:=hqZ (HP1.out.next (.ofNew hfn))
   have HF:=hqZ (HF.out.trans (FS.new hfn))
   clear hf hfn c26 c27 hd hw4
   cases hfull:jt (seg f1 f1.p f1.e)
   case true =>
    have hF:=HI.out.full (.inl hfull)
    have hpe:=hF.1
    have HFULL:=hqZ hF.2
    clear hF
    go_wp2_with fail
    go_meet
    exact⟨f1,HS1.out,HR1.out,HI.out,HP1.out,HF.out,HC.out,hpe,HFULL.out⟩
   case false =>
    cases tk with
    | none =>
     have htp:f1.tp = -1:=HI.out.tk
     have c36:w1.cell? ⟨sb,1036,none⟩=some (.int .i64 (-1)):=by rw[<- htp];exact HS1.out.cell 1036 (by omega)
     go_wp2_with fail
     clear c36
     have c26:w1.cell? ⟨sb,1026,none⟩=some (.int .i64 f1.p):=HS1.out.cell 1026 (by omega)
     have c27:w1.cell? ⟨sb,1027,none⟩=some (.int .i64 f1.e):=HS1.out.cell 1027 (by omega)
     obtain⟨cs,hcp0,hs2,hfr⟩:=rn (HS1.out.new ((Fr.refl _ w1).drew)) hp1 hp2
     have hcp:(Builtin.copy_ #[67,67] 3 #[.slice (some ⟨sb,1,none⟩) 1025 1025,.slice (some ⟨sb,1+f1.p,none⟩) (f1.e - f1.p) (1025 - f1.p)]).run Tryz.prog w1.drew = .ok (goInt ((f1.e - f1.p:Nat):Int)) (w1.drew.setCells sb 1 cs):=hcp0
     clear hcp0
     have hfr2:=((Fr.refl (fun k=>k=sb) w1).drew).trans hfr
     have HS1:=hqZ hs2
     have HR1:=hqZ (HR1.out.sb hfr2 HP1.out.ne)
     have HP1:=hqZ (HP1.out.fs (FS.sb hfr2))
     have HF:=hqZ (HF.out.trans (FS.sb hfr2))
     clear hs2 hfr hfr2
     go_wp2_with fail
     go_still_tail 16,(by kernel_rfl)
     change wpList _ _ _ _ _ w1.drew
     go_wp2_with fail
     clear hcp c26 c27
     generalize w1.drew.setCells sb 1 cs=w4 at *
     have c26:w4.cell? ⟨sb,1026,none⟩=some (.int .i64 f1.p):=HS1.out.cell 1026 (by omega)
     have c27:w4.cell? ⟨sb,1027,none⟩=some (.int .i64 f1.e):=HS1.out.cell 1027 (by omega)
     have c28:w4.cell? ⟨sb,1028,none⟩=some (.int .i64 f1.off):=HS1.out.cell 1028 (by omega)
     have z28:=HS1.out.free 1028
     have hw8:IntKind.i64.wrap ((f1.off:Int)+(f1.p:Int))=(f1.off:Int)+(f1.p:Int):=IntWalk.i64_in _ (by omega)
     go_still_tail 11,(by kernel_rfl)
     change wpList _ _ _ _ _ w4.drew
     go_wp2_with fail
     have hfr5:Fr (fun k=>k=sb) w4 (w4.setCell ⟨sb,1028,none⟩ (.int .i64 ((f1.off:Int)+(f1.p:Int)))).drew:=((Fr.refl (fun k=>k=sb) w4).set (.inl rfl)).drew
     have HS1:=hqZ (show Scn (w4.setCell ⟨sb,1028,none⟩ (.int .i64 ((f1.off:Int)+(f1.p:Int)))).drew B sb rb _ from HS1.out.soff (f1.off+f1.p) (by push_cast;rfl))
     have HR1:=hqZ (HR1.out.sb hfr5 HP1.out.ne)
     have HP1:=hqZ (HP1.out.fs (FS.sb hfr5))
     have HF:=hqZ (HF.out.trans (FS.sb hfr5))
     clear hfr5 c26 c27 c28 z28 hw8
     generalize (w4.setCell ⟨sb,1028,none⟩ (.int .i64 ((f1.off:Int)+(f1.p:Int)))).drew=w5 at *
     have c26:w5.cell? ⟨sb,1026,none⟩=some (.int .i64 f1.p):=HS1.out.cell 1026 (by omega)
     have c27:w5.cell? ⟨sb,1027,none⟩=some (.int .i64 f1.e):=HS1.out.cell 1027 (by omega)
     obtain⟨i,hi⟩:∃ i,i=f1.e - f1.p:=⟨_,rfl⟩
     have hw9:IntKind.i64.wrap ((f1.e:Int) - (f1.p:Int))=(i:Int):=(IntWalk.i64_in _ (by omega)).trans (by omega)
     have HIi:=hqZ hi
     have hi4:i < 4:=by omega
     clear hi
     go_quiet (fail)
     go_upto_region 10 with fail
     have hfr6:Fr (fun _=>False) w5 (w5.drewN nq):=(Fr.refl _ w5).drewN nq
     have HS1:=hqZ (HS1.out.new hfr6)
     have HR1:=hqZ (HR1.out.new hfr6)
     have HP1:=hqZ (HP1.out.next (.ofNew hfr6))
     have HF:=hqZ (HF.out.trans (FS.new hfr6))
     clear hfr6 c26 c27 hw9
     generalize w5.drewN nq=w6 at *
     have c0:w6.cell? ⟨sb,0,none⟩=some (.iface 133 (.pointer (some ⟨rb,0,none⟩))):=HS1.out.cell 0 (by omega)
     have hi1:(i:Int)<=1024:=by omega
     have hi2:i<=1024:=by omega
     have hi3:¬ 1025=i:=by omega
     obtain⟨F5,hF5⟩:∃ F,F=({ SF.mv f1 with off:=f1.off+f1.p }:SF):=⟨_,rfl⟩
     have HS1:=hqZ (show Scn w6 B sb rb F5 from by rw[hF5];exact HS1.out)
     obtain⟨pe,heof⟩:=HP1.out.eo
     have HE:=hqZ heof
     clear heof
     go_cut [6,7] (fun s6 s7 wx=>∃ (k:Nat) (F7:SF),s6 = .int .i64 (k:Int)/\Scn wx B sb rb F7/\Rd wx rb g cap l.length (f1.off+f1.e+k)/\FS B sb rb w6 wx /\
      ((f1.off+f1.e=l.length/\k=0/\F7=F5/\s7 = .iface 314 (.pointer (some pe)))\/(0 < k/\i+k<=1024/\f1.off+f1.e+k<=l.length/\F7=F5.got l (f1.off+f1.e) i k/\s7 = .nilIface)))
     case first =>
      have mR:=ng (.pointer (some ⟨rb,0,none⟩))
      have eR:=kL
      have hP:=HP1.out
      have hrd:=(my w6.drew B sb rb g cap l F5 (f1.off+f1.e) i (1024 - i) (1025 - i) (.iface 314 (.pointer (some pe))) (HS1.out.new ((Fr.refl _ w6).drew)) (HR1.out.new ((Fr.refl _ w6).drew)) (hP.by_.next (S:=fun _=>False) ((Fr.refl _ w6).drew) id) HE.out hP.ne (by have h1:g < B:=hP.gB;have h2:B<=rb:=hP.rB;omega) (by have h1:g < B:=hP.gB;have h2:B<=sb:=hP.sB;omega) (by have h1:15<=B:=hP.b15;have h2:B<=rb:=hP.rB;omega) hP.lc (by omega) (by omega) hl9)
      have HRD:=hqZ hrd
      have HFq:=hqZ (show FS B sb rb w6 w6.drew from FS.refl.drew)
      clear hrd hP
      by_cases hx:f1.off+f1.e=l.length
      case pos =>
       go_region_with (go_at_fn 291;refine(HRD.out.mono fun _ _ h=>RDp.eof h hx).mono ?_;rintro e w7 ⟨rfl,k1,k2,k3⟩;have K1:=hqZ k1;have K2:=hqZ k2;have K3:=hqZ k3;clear k1 k2 k3)
       all_goals
        go_wp2_with fail
        go_meet
        exact⟨0,F5,rfl,K1.out,K2.out,HFq.out.trans K3.out,.inl ⟨hx,rfl,rfl,rfl⟩⟩
      case neg =>
       go_region_with (go_at_fn 291;refine(HRD.out.mono fun _ _ h=>RDp.more h hx).mono ?_;rintro e w7 ⟨rfl,k1,k2,k3⟩;have K1:=hqZ k1;have K2:=hqZ k2;have K3:=hqZ k3;clear k1 k2 k3)
       all_goals
        go_wp2_with fail
        go_meet
        exact⟨min (1024 - i) (l.length - (f1.off+f1.e)),_,rfl,K1.out,K2.out,HFq.out.trans K3.out,.inr ⟨by omega,by omega,by omega,rfl,rfl⟩⟩
     case rest =>
      obtain⟨k,F7,rfl,h1,h2,h3,hcase⟩:=hcut
      obtain⟨e2,he2⟩:∃ e,e=i+k:=⟨_,rfl⟩
      have hk9:i+k<=1024:=by rcases hcase with ⟨_,rfl,_⟩|⟨_,h,_⟩ <;> omega
      have HFA:=hqZ (nh (Fm:=f1) (e2:=e2) HI.out HIi.out hF5 rfl rfl rfl rfl (by rcases hcase with ⟨a,b,c,_⟩|⟨a,b,c,d,_⟩;exact .inl ⟨a,b,c⟩;exact .inr ⟨a,b,c,d⟩) he2 htp)
      have c26:wc.cell? ⟨sb,1026,none⟩=some (.int .i64 F7.p):=h1.cell 1026 (by omega)
      have c27:wc.cell? ⟨sb,1027,none⟩=some (.int .i64 F7.e):=h1.cell 1027 (by omega)
      have z26:=h1.free 1026
      have z27:=h1.free 1027
      have hw12:IntKind.i64.wrap ((i:Int)+(k:Int))=(e2:Int):=(IntWalk.i64_in _ (by omega)).trans (by omega)
      have HF:=hqZ (HF.out.trans h3)
      have HR1:=hqZ h2
      have HP1:=hqZ (HP1.out.fs h3)
      have HE:=hqZ (((h3.fr HP1.out.sB HP1.out.rB).cell (p:=⟨2,0,none⟩) (World.block_lt_of_cell? w6 _ HE.out) (by have h1:15<=B:=HP1.out.b15;show ¬ B<=2;omega)).trans HE.out)
      have HS1:=hqZ h1
      have HE2:=hqZ he2
      have hq3:e2<=1024:=by omega
      clear h1 h2 h3 c0 hi1 hi2 hi3 hF5 he2
      go_wp2_with fail
      have hfr8:Fr (fun k=>k=sb) wc ((wc.setCell ⟨sb,1026,none⟩ (.int .i64 0)).setCell ⟨sb,1027,none⟩ (.int .i64 (e2:Int))):=((Fr.refl (fun k=>k=sb) wc).set (.inl rfl)).set (.inl rfl)
      have HS1:=hqZ ((HS1.out.sp 0 rfl).se e2 rfl)
      have HF:=hqZ (HF.out.trans (FS.sb hfr8))
      have HR1:=hqZ (HR1.out.sb hfr8 HP1.out.ne)
      have HP1:=hqZ (HP1.out.fs (FS.sb hfr8))
      have HE:=hqZ ((hfr8.cell (p:=⟨2,0,none⟩) (World.block_lt_of_cell? wc _ HE.out) (by have h1:15<=B:=HP1.out.b15;have h2:B<=sb:=HP1.out.sB;show ¬ 2=sb;omega)).trans HE.out)
      clear hfr8 c26 c27 z26 z27 hw12
      generalize (wc.setCell ⟨sb,1026,none⟩ (.int .i64 0)).setCell ⟨sb,1027,none⟩ (.int .i64 (e2:Int))=wd at *
      have c27:wd.cell? ⟨sb,1027,none⟩=some (.int .i64 e2):=HS1.out.cell 1027 (by omega)
      have cq:=HS1.out.byte e2 (by omega)
      have zq:=HS1.out.free (1+e2)
      have hq1:(e2:Int) < 1025:=by omega
      have hq2:e2 < 1025:=by omega
      go_still_tail 8,(by kernel_rfl)
      change wpList _ _ _ _ _ wd.drew
      have HFd:=HF
      have HRd:=HR1
      have HPd:=HP1
      have hfr9:Fr (fun k=>k=sb) wd (wd.setCell ⟨sb,1+e2,none⟩ (.int .u8 128)).drew:=((Fr.refl (fun k=>k=sb) wd).set (.inl rfl)).drew
      have HF:=hqZ (HF.out.trans (FS.sb hfr9))
      have HR1:=hqZ (HR1.out.sb hfr9 HP1.out.ne)
      have HP1:=hqZ (HP1.out.fs (FS.sb hfr9))
      have HS9:=hqZ (show Scn (wd.setCell ⟨sb,1+e2,none⟩ (.int .u8 128)).drew B sb rb _ from HS1.out.sbyte e2 (by omega) 128 rfl rfl)
      have HRn:=hqZ (show Rd (wd.setCell ⟨sb,1+e2,none⟩ (.int .u8 128)).drew rb g cap l.length (F7.off+e2)from by
       have e9:F7.off+e2=f1.off+f1.e+k:=by have h1:=HFA.out.2.1;have h2:=HE2.out;have h3:=HIi.out;omega
       rw[e9];exact HR1.out)
      rcases hcase with ⟨hx,hk0,hF7,rfl⟩|⟨hk1,hk2,hk3,hF7,rfl⟩
      .clear hF7
       have hee:=HE.out
       have hn:=fun W=>nl W pe
       have ne1:(2:Nat) ≠ sb:=by have h1:15<=B:=HP1.out.b15;have h2:B<=sb:=HP1.out.sB;omega
       have ne2:sb ≠ 2:=fun h=>ne1 h.symm
       by_cases hi0:e2=0
       case pos =>
        have hz:((e2:Int) == 0)=true:=by simp;omega
        have HQ:=hqZ (show q=l.length from by have h1:=HI.out.q;have h2:=HE2.out;have h3:=HIi.out;omega)
        have HRe:Rd wd rb g cap l.length (F7.off+e2):=by
         rw[HFA.out.2.1,HE2.out,HIi.out];have:=HRd.out;rw[show f1.off+f1.p+(f1.e - f1.p+k)=f1.off+f1.e+k from by omega];exact this
        have HRq:=hqZ HRe
        clear HRe hi0
        have c32:wd.cell? ⟨sb,1032,none⟩=some (.int .i64 F7.lc):=HS1.out.cell 1032 (by omega)
        have c30:wd.cell? ⟨sb,1030,none⟩=some (.int .i64 F7.col):=HS1.out.cell 1030 (by omega)
        have z32:=HS1.out.free 1032
        have z30:=HS1.out.free 1030
        have qq1:¬ 1+e2=1032:=by omega
        have qq2:¬ 1+e2=1030:=by omega
        have qq3:¬ 1032=1+e2:=by omega
        have qq4:¬ 1030=1+e2:=by omega
        have qq5:¬ 1027=1+e2:=by omega
        have qq6:¬ 1+e2=1027:=by omega
        by_cases hl0:0 < F7.lc
        case pos =>
         have hl:(0:Int) < (F7.lc:Int):=by omega
         have hl2:decide ((0:Int) < (F7.lc:Int))=true:=by simp;omega
         go_wp2_with fail
         go_ret
         exact lB (HFd.out.trans (FS.sb ((((Fr.refl (fun k=>k=sb) wd).set (.inl rfl)).set (.inl rfl)).set (.inl rfl)).drew)) (HRq.out.sb ((((Fr.refl (fun k=>k=sb) wd).set (.inl rfl)).set (.inl rfl)).set (.inl rfl)).drew HPd.out.ne) (HPd.out.fs (FS.sb ((((Fr.refl (fun k=>k=sb) wd).set (.inl rfl)).set (.inl rfl)).set (.inl rfl)).drew)) HFA.out.1 HQ.out (Scn.slc (Scn.scol (HS1.out.sbyte e2 (by omega) 128 rfl rfl) _) 0 rfl) rfl rfl rfl rfl rfl rfl rfl rfl (HFA.out.2.2.2.1.trans HC.out)
        case neg =>
         have hl:¬ (0:Int) < (F7.lc:Int):=by omega
         have hl2:decide ((0:Int) < (F7.lc:Int))=false:=by simp;omega
         go_wp2_with fail
         go_ret
         exact lB (HFd.out.trans (FS.sb (((Fr.refl (fun k=>k=sb) wd).set (.inl rfl)).set (.inl rfl)).drew)) (HRq.out.sb (((Fr.refl (fun k=>k=sb) wd).set (.inl rfl)).set (.inl rfl)).drew HPd.out.ne) (HPd.out.fs (FS.sb (((Fr.refl (fun k=>k=sb) wd).set (.inl rfl)).set (.inl rfl)).drew)) HFA.out.1 HQ.out (Scn.slc (HS1.out.sbyte e2 (by omega) 128 rfl rfl) 0 rfl) rfl rfl rfl rfl rfl rfl rfl rfl (HFA.out.2.2.2.1.trans HC.out)
       case neg =>
        have hz:((e2:Int) == 0)=false:=by simp;omega
        have qq5:¬ 1027=1+e2:=by omega
        have qq6:¬ 1+e2=1027:=by omega
        go_wp2_with fail
        obtain⟨F8,hF8⟩:∃ F,F=({ F7 with p:=0,e:=e2,buf:=fun j=>if j=e2 then 128 else F7.buf j }:SF):=⟨_,rfl⟩
        have HS1:=hqZ (show Scn (wd.setCell ⟨sb,1+e2,none⟩ (.int .u8 128)).drew B sb rb F8 from by rw[hF8];exact HS9.out)
        have HR1:=hqZ (show Rd (wd.setCell ⟨sb,1+e2,none⟩ (.int .u8 128)).drew rb g cap l.length (F8.off+F8.e)from by
         have e9:F8.off+F8.e=f1.off+f1.e+k:=by rw[hF8];show F7.off+e2=_;have h1:=HFA.out.2.1;have h2:=HE2.out;have h3:=HIi.out;omega
         rw[e9];exact HR1.out)
        have HI:=hqZ (show SI l F8 q 0 _ er from by rw[hF8];exact HFA.out.1)
        have HC:=hqZ (show F8.kp=ch from by rw[hF8];exact HFA.out.2.2.2.1.trans HC.out)
        have hx8:F8.off+F8.e=l.length:=by rw[hF8];show F7.off+e2=_;have h1:=HFA.out.2.1;have h2:=HE2.out;have h3:=HIi.out;omega
        have hp0:F8.p=0:=by rw[hF8]
        have hp9:F8.e=e2:=by rw[hF8]
        have hF:=HI.out.full (.inr (.inr ⟨hx8,by omega⟩))
        have hpe:=hF.1
        have HFULL:=hqZ hF.2
        have hp1:=HI.out.pe
        have hp2:=HI.out.e1
        have hp3:=HI.out.len
        go_meet
        exact⟨F8,HS1.out,HR1.out,HI.out,HP1.out,HF.out,HC.out,hpe,HFULL.out⟩
      .go_wp2_with fail
       go_roundg (gk - 1)
       case measure=>omega
       case rel=>exact⟨_,HS9.out,HRn.out,HFA.out.1,HP1.out,HF.out,by show F7.kp=ch;rw[HFA.out.2.2.2.1];exact HC.out,by show l.length+1<=gk - 1+(F7.off+e2);rw[HFA.out.2.1,HE2.out,HIi.out];omega⟩
    | some a =>
     obtain⟨tp,htp,e2,e3,e4⟩:=HI.out.tk
     obtain⟨g1,g2,g3,g4⟩:=HI.out.gathered htp
     have c36:w1.cell? ⟨sb,1036,none⟩=some (.int .i64 tp):=by rw[<- htp];exact HS1.out.cell 1036 (by omega)
     have c26:w1.cell? ⟨sb,1026,none⟩=some (.int .i64 f1.p):=HS1.out.cell 1026 (by omega)
     have z36:=HS1.out.free 1036
     have k1:(0:Int)<=(tp:Int):=by omega
     have k2:(tp:Int)<=(f1.p:Int):=by omega
     have k3:(f1.p:Int)<=1025:=by omega
     have k4:f1.p<=1025:=by omega
     go_wp2_with fail
     go_still_tail 15,(by kernel_rfl)
     change wpList _ _ _ _ _ w1.drew
     go_wp2_with fail
     refine(kn _ B sb rb f1 tp f1.p (1025 - tp) (HS1.out.new ((Fr.refl _ w1).drew)) (HP1.out.next ((Fr.refl _ w1).drew)).Bw g1 k4 (by omega)).mono ?_
     rintro e w2 ⟨⟨n2,rfl⟩,hs2,hb2,ho2⟩
     have hsz:w1.heap.size<=w2.heap.size:=hb2.size
     have hfs:FS B sb rb w1 w2:=FS.trans (FS.refl.drew) (FS.kept hb2 ho2 hsz)
     have c36:w2.cell? ⟨sb,1036,none⟩=some (.int .i64 f1.tp):=hs2.cell 1036 (by omega)
     have z36:=hs2.free 1036
     have HS1:=hqZ (hs2.stp 0)
     have HR1:=hqZ (((HR1.out.new ((Fr.refl _ w1).drew)).kept ho2 HP1.out.ne).set (sb:=sb) (i:=1036) (v:=.int .i64 0) HP1.out.ne)
     have HF:=hqZ ((HF.out.trans hfs).set (.inl rfl) 1036 (.int .i64 0))
     have HP1:=hqZ (HP1.out.fs (hfs.set (.inl rfl) 1036 (.int .i64 0)))
     clear hs2 hb2 ho2 hsz hfs
     go_wp2_with fail
     clear c36 z36 k1 k2 k3 c26
     generalize w2.setCell ⟨sb,1036,none⟩ (.int .i64 0)=w3 at *
     have c26:w3.cell? ⟨sb,1026,none⟩=some (.int .i64 f1.p):=HS1.out.cell 1026 (by omega)
     have c27:w3.cell? ⟨sb,1027,none⟩=some (.int .i64 f1.e):=HS1.out.cell 1027 (by omega)
     obtain⟨cs,hcp0,hs2,hfr⟩:=rn (HS1.out.new ((Fr.refl _ w3).drew)) hp1 hp2
     have hcp:(Builtin.copy_ #[67,67] 3 #[.slice (some ⟨sb,1,none⟩) 1025 1025,.slice (some ⟨sb,1+f1.p,none⟩) (f1.e - f1.p) (1025 - f1.p)]).run Tryz.prog w3.drew = .ok (goInt ((f1.e - f1.p:Nat):Int)) (w3.drew.setCells sb 1 cs):=hcp0
     clear hcp0
     have hfr2:=((Fr.refl (fun k=>k=sb) w3).drew).trans hfr
     have HS1:=hqZ hs2
     have HR1:=hqZ (HR1.out.sb hfr2 HP1.out.ne)
     have HP1:=hqZ (HP1.out.fs (FS.sb hfr2))
     have HF:=hqZ (HF.out.trans (FS.sb hfr2))
     clear hs2 hfr hfr2
     go_wp2_with fail
     go_still_tail 16,(by kernel_rfl)
     change wpList _ _ _ _ _ w3.drew
     go_wp2_with fail
     clear hcp c26 c27
     generalize w3.drew.setCells sb 1 cs=w4 at *
     have c26:w4.cell? ⟨sb,1026,none⟩=some (.int .i64 f1.p):=HS1.out.cell 1026 (by omega)
     have c27:w4.cell? ⟨sb,1027,none⟩=some (.int .i64 f1.e):=HS1.out.cell 1027 (by omega)
     have c28:w4.cell? ⟨sb,1028,none⟩=some (.int .i64 f1.off):=HS1.out.cell 1028 (by omega)
     have z28:=HS1.out.free 1028
     have hw8:IntKind.i64.wrap ((f1.off:Int)+(f1.p:Int))=(f1.off:Int)+(f1.p:Int):=IntWalk.i64_in _ (by omega)
     go_still_tail 11,(by kernel_rfl)
     change wpList _ _ _ _ _ w4.drew
     go_wp2_with fail
     have hfr5:Fr (fun k=>k=sb) w4 (w4.setCell ⟨sb,1028,none⟩ (.int .i64 ((f1.off:Int)+(f1.p:Int)))).drew:=((Fr.refl (fun k=>k=sb) w4).set (.inl rfl)).drew
     have HS1:=hqZ (show Scn (w4.setCell ⟨sb,1028,none⟩ (.int .i64 ((f1.off:Int)+(f1.p:Int)))).drew B sb rb _ from HS1.out.soff (f1.off+f1.p) (by push_cast;rfl))
     have HR1:=hqZ (HR1.out.sb hfr5 HP1.out.ne)
     have HP1:=hqZ (HP1.out.fs (FS.sb hfr5))
     have HF:=hqZ (HF.out.trans (FS.sb hfr5))
     clear hfr5 c26 c27 c28 z28 hw8
     generalize (w4.setCell ⟨sb,1028,none⟩ (.int .i64 ((f1.off:Int)+(f1.p:Int)))).drew=w5 at *
     have c26:w5.cell? ⟨sb,1026,none⟩=some (.int .i64 f1.p):=HS1.out.cell 1026 (by omega)
     have c27:w5.cell? ⟨sb,1027,none⟩=some (.int .i64 f1.e):=HS1.out.cell 1027 (by omega)
     obtain⟨i,hi⟩:∃ i,i=f1.e - f1.p:=⟨_,rfl⟩
     have hw9:IntKind.i64.wrap ((f1.e:Int) - (f1.p:Int))=(i:Int):=(IntWalk.i64_in _ (by omega)).trans (by omega)
     have HIi:=hqZ hi
     have hi4:i < 4:=by omega
     clear hi
     go_quiet (fail)
     go_upto_region 10 with fail
     have hfr6:Fr (fun _=>False) w5 (w5.drewN nq):=(Fr.refl _ w5).drewN nq
     have HS1:=hqZ (HS1.out.new hfr6)
     have HR1:=hqZ (HR1.out.new hfr6)
     have HP1:=hqZ (HP1.out.next (.ofNew hfr6))
     have HF:=hqZ (HF.out.trans (FS.new hfr6))
     clear hfr6 c26 c27 hw9
     generalize w5.drewN nq=w6 at *
     have c0:w6.cell? ⟨sb,0,none⟩=some (.iface 133 (.pointer (some ⟨rb,0,none⟩))):=HS1.out.cell 0 (by omega)
     have hi1:(i:Int)<=1024:=by omega
     have hi2:i<=1024:=by omega
     have hi3:¬ 1025=i:=by omega
     obtain⟨F5,hF5⟩:∃ F,F=({ SF.mv ({ f1 with tok:=f1.tok++seg f1 tp f1.p,tp:=0 }:SF)with off:=f1.off+f1.p }:SF):=⟨_,rfl⟩
     have HS1:=hqZ (show Scn w6 B sb rb F5 from by rw[hF5];exact HS1.out)
     obtain⟨pe,heof⟩:=HP1.out.eo
     have HE:=hqZ heof
     clear heof
     go_cut [6,7] (fun s6 s7 wx=>∃ (k:Nat) (F7:SF),s6 = .int .i64 (k:Int)/\Scn wx B sb rb F7/\Rd wx rb g cap l.length (f1.off+f1.e+k)/\FS B sb rb w6 wx /\
      ((f1.off+f1.e=l.length/\k=0/\F7=F5/\s7 = .iface 314 (.pointer (some pe)))\/(0 < k/\i+k<=1024/\f1.off+f1.e+k<=l.length/\F7=F5.got l (f1.off+f1.e) i k/\s7 = .nilIface)))
     case first =>
      have mR:=ng (.pointer (some ⟨rb,0,none⟩))
      have eR:=kL
      have hP:=HP1.out
      have hrd:=(my w6.drew B sb rb g cap l F5 (f1.off+f1.e) i (1024 - i) (1025 - i) (.iface 314 (.pointer (some pe))) (HS1.out.new ((Fr.refl _ w6).drew)) (HR1.out.new ((Fr.refl _ w6).drew)) (hP.by_.next (S:=fun _=>False) ((Fr.refl _ w6).drew) id) HE.out hP.ne (by have h1:g < B:=hP.gB;have h2:B<=rb:=hP.rB;omega) (by have h1:g < B:=hP.gB;have h2:B<=sb:=hP.sB;omega) (by have h1:15<=B:=hP.b15;have h2:B<=rb:=hP.rB;omega) hP.lc (by omega) (by omega) hl9)
      have HRD:=hqZ hrd
      have HFq:=hqZ (show FS B sb rb w6 w6.drew from FS.refl.drew)
      clear hrd hP
      by_cases hx:f1.off+f1.e=l.length
      case pos =>
       go_region_with (go_at_fn 291;refine(HRD.out.mono fun _ _ h=>RDp.eof h hx).mono ?_;rintro e w7 ⟨rfl,k1,k2,k3⟩;have K1:=hqZ k1;have K2:=hqZ k2;have K3:=hqZ k3;clear k1 k2 k3)
       all_goals
        go_wp2_with fail
        go_meet
        exact⟨0,F5,rfl,K1.out,K2.out,HFq.out.trans K3.out,.inl ⟨hx,rfl,rfl,rfl⟩⟩
      case neg =>
       go_region_with (go_at_fn 291;refine(HRD.out.mono fun _ _ h=>RDp.more h hx).mono ?_;rintro e w7 ⟨rfl,k1,k2,k3⟩;have K1:=hqZ k1;have K2:=hqZ k2;have K3:=hqZ k3;clear k1 k2 k3)
       all_goals
        go_wp2_with fail
        go_meet
        exact⟨min (1024 - i) (l.length - (f1.off+f1.e)),_,rfl,K1.out,K2.out,HFq.out.trans K3.out,.inr ⟨by omega,by omega,by omega,rfl,rfl⟩⟩
     case rest =>
      obtain⟨k,F7,rfl,h1,h2,h3,hcase⟩:=hcut
      obtain⟨e2,he2⟩:∃ e,e=i+k:=⟨_,rfl⟩
      have hk9:i+k<=1024:=by rcases hcase with ⟨_,rfl,_⟩|⟨_,h,_⟩ <;> omega
      have HFA:=hqZ (nh (Fm:=({ f1 with tok:=f1.tok++seg f1 tp f1.p,tp:=0 }:SF)) (e2:=e2) HI.out HIi.out hF5 rfl rfl rfl rfl (by rcases hcase with ⟨a,b,c,_⟩|⟨a,b,c,d,_⟩;exact .inl ⟨a,b,c⟩;exact .inr ⟨a,b,c,d⟩) he2 ⟨rfl,by omega,g4⟩)
      have c26:wc.cell? ⟨sb,1026,none⟩=some (.int .i64 F7.p):=h1.cell 1026 (by omega)
      have c27:wc.cell? ⟨sb,1027,none⟩=some (.int .i64 F7.e):=h1.cell 1027 (by omega)
      have z26:=h1.free 1026
      have z27:=h1.free 1027
      have hw12:IntKind.i64.wrap ((i:Int)+(k:Int))=(e2:Int):=(IntWalk.i64_in _ (by omega)).trans (by omega)
      have HF:=hqZ (HF.out.trans h3)
      have HR1:=hqZ h2
      have HP1:=hqZ (HP1.out.fs h3)
      have HE:=hqZ (((h3.fr HP1.out.sB HP1.out.rB).cell (p:=⟨2,0,none⟩) (World.block_lt_of_cell? w6 _ HE.out) (by have h1:15<=B:=HP1.out.b15;show ¬ B<=2;omega)).trans HE.out)
      have HS1:=hqZ h1
      have HE2:=hqZ he2
      have hq3:e2<=1024:=by omega
      clear h1 h2 h3 c0 hi1 hi2 hi3 hF5 he2
      go_wp2_with fail
      have hfr8:Fr (fun k=>k=sb) wc ((wc.setCell ⟨sb,1026,none⟩ (.int .i64 0)).setCell ⟨sb,1027,none⟩ (.int .i64 (e2:Int))):=((Fr.refl (fun k=>k=sb) wc).set (.inl rfl)).set (.inl rfl)
      have HS1:=hqZ ((HS1.out.sp 0 rfl).se e2 rfl)
      have HF:=hqZ (HF.out.trans (FS.sb hfr8))
      have HR1:=hqZ (HR1.out.sb hfr8 HP1.out.ne)
      have HP1:=hqZ (HP1.out.fs (FS.sb hfr8))
      have HE:=hqZ ((hfr8.cell (p:=⟨2,0,none⟩) (World.block_lt_of_cell? wc _ HE.out) (by have h1:15<=B:=HP1.out.b15;have h2:B<=sb:=HP1.out.sB;show ¬ 2=sb;omega)).trans HE.out)
      clear hfr8 c26 c27 z26 z27 hw12
      generalize (wc.setCell ⟨sb,1026,none⟩ (.int .i64 0)).setCell ⟨sb,1027,none⟩ (.int .i64 (e2:Int))=wd at *
      have c27:wd.cell? ⟨sb,1027,none⟩=some (.int .i64 e2):=HS1.out.cell 1027 (by omega)
      have cq:=HS1.out.byte e2 (by omega)
      have zq:=HS1.out.free (1+e2)
      have hq1:(e2:Int) < 1025:=by omega
      have hq2:e2 < 1025:=by omega
      go_still_tail 8,(by kernel_rfl)
      change wpList _ _ _ _ _ wd.drew
      have HFd:=HF
      have HRd:=HR1
      have HPd:=HP1
      have hfr9:Fr (fun k=>k=sb) wd (wd.setCell ⟨sb,1+e2,none⟩ (.int .u8 128)).drew:=((Fr.refl (fun k=>k=sb) wd).set (.inl rfl)).drew
      have HF:=hqZ (HF.out.trans (FS.sb hfr9))
      have HR1:=hqZ (HR1.out.sb hfr9 HP1.out.ne)
      have HP1:=hqZ (HP1.out.fs (FS.sb hfr9))
      have HS9:=hqZ (show Scn (wd.setCell ⟨sb,1+e2,none⟩ (.int .u8 128)).drew B sb rb _ from HS1.out.sbyte e2 (by omega) 128 rfl rfl)
      have HRn:=hqZ (show Rd (wd.setCell ⟨sb,1+e2,none⟩ (.int .u8 128)).drew rb g cap l.length (F7.off+e2)from by
       have e9:F7.off+e2=f1.off+f1.e+k:=by have h1:=HFA.out.2.1;have h2:=HE2.out;have h3:=HIi.out;omega
       rw[e9];exact HR1.out)
      rcases hcase with ⟨hx,hk0,hF7,rfl⟩|⟨hk1,hk2,hk3,hF7,rfl⟩
      .clear hF7
       have hee:=HE.out
       have hn:=fun W=>nl W pe
       have ne1:(2:Nat) ≠ sb:=by have h1:15<=B:=HP1.out.b15;have h2:B<=sb:=HP1.out.sB;omega
       have ne2:sb ≠ 2:=fun h=>ne1 h.symm
       by_cases hi0:e2=0
       case pos =>
        have hz:((e2:Int) == 0)=true:=by simp;omega
        have HQ:=hqZ (show q=l.length from by have h1:=HI.out.q;have h2:=HE2.out;have h3:=HIi.out;omega)
        have HRe:Rd wd rb g cap l.length (F7.off+e2):=by
         rw[HFA.out.2.1,HE2.out,HIi.out];have:=HRd.out;rw[show f1.off+f1.p+(f1.e - f1.p+k)=f1.off+f1.e+k from by omega];exact this
        have HRq:=hqZ HRe
        clear HRe hi0
        have c32:wd.cell? ⟨sb,1032,none⟩=some (.int .i64 F7.lc):=HS1.out.cell 1032 (by omega)
        have c30:wd.cell? ⟨sb,1030,none⟩=some (.int .i64 F7.col):=HS1.out.cell 1030 (by omega)
        have z32:=HS1.out.free 1032
        have z30:=HS1.out.free 1030
        have qq1:¬ 1+e2=1032:=by omega
        have qq2:¬ 1+e2=1030:=by omega
        have qq3:¬ 1032=1+e2:=by omega
        have qq4:¬ 1030=1+e2:=by omega
        have qq5:¬ 1027=1+e2:=by omega
        have qq6:¬ 1+e2=1027:=by omega
        by_cases hl0:0 < F7.lc
        case pos =>
         have hl:(0:Int) < (F7.lc:Int):=by omega
         have hl2:decide ((0:Int) < (F7.lc:Int))=true:=by simp;omega
         go_wp2_with fail
         go_ret
         exact lB (HFd.out.trans (FS.sb ((((Fr.refl (fun k=>k=sb) wd).set (.inl rfl)).set (.inl rfl)).set (.inl rfl)).drew)) (HRq.out.sb ((((Fr.refl (fun k=>k=sb) wd).set (.inl rfl)).set (.inl rfl)).set (.inl rfl)).drew HPd.out.ne) (HPd.out.fs (FS.sb ((((Fr.refl (fun k=>k=sb) wd).set (.inl rfl)).set (.inl rfl)).set (.inl rfl)).drew)) HFA.out.1 HQ.out (Scn.slc (Scn.scol (HS1.out.sbyte e2 (by omega) 128 rfl rfl) _) 0 rfl) rfl rfl rfl rfl rfl rfl rfl rfl (HFA.out.2.2.2.1.trans HC.out)
        case neg =>
         have hl:¬ (0:Int) < (F7.lc:Int):=by omega
         have hl2:decide ((0:Int) < (F7.lc:Int))=false:=by simp;omega
         go_wp2_with fail
         go_ret
         exact lB (HFd.out.trans (FS.sb (((Fr.refl (fun k=>k=sb) wd).set (.inl rfl)).set (.inl rfl)).drew)) (HRq.out.sb (((Fr.refl (fun k=>k=sb) wd).set (.inl rfl)).set (.inl rfl)).drew HPd.out.ne) (HPd.out.fs (FS.sb (((Fr.refl (fun k=>k=sb) wd).set (.inl rfl)).set (.inl rfl)).drew)) HFA.out.1 HQ.out (Scn.slc (HS1.out.sbyte e2 (by omega) 128 rfl rfl) 0 rfl) rfl rfl rfl rfl rfl rfl rfl rfl (HFA.out.2.2.2.1.trans HC.out)
       case neg =>
        have hz:((e2:Int) == 0)=false:=by simp;omega
        have qq5:¬ 1027=1+e2:=by omega
        have qq6:¬ 1+e2=1027:=by omega
        go_wp2_with fail
        obtain⟨F8,hF8⟩:∃ F,F=({ F7 with p:=0,e:=e2,buf:=fun j=>if j=e2 then 128 else F7.buf j }:SF):=⟨_,rfl⟩
        have HS1:=hqZ (show Scn (wd.setCell ⟨sb,1+e2,none⟩ (.int .u8 128)).drew B sb rb F8 from by rw[hF8];exact HS9.out)
        have HR1:=hqZ (show Rd (wd.setCell ⟨sb,1+e2,none⟩ (.int .u8 128)).drew rb g cap l.length (F8.off+F8.e)from by
         have e9:F8.off+F8.e=f1.off+f1.e+k:=by rw[hF8];show F7.off+e2=_;have h1:=HFA.out.2.1;have h2:=HE2.out;have h3:=HIi.out;omega
         rw[e9];exact HR1.out)
        have HI:=hqZ (show SI l F8 q 0 _ er from by rw[hF8];exact HFA.out.1)
        have HC:=hqZ (show F8.kp=ch from by rw[hF8];exact HFA.out.2.2.2.1.trans HC.out)
        have hx8:F8.off+F8.e=l.length:=by rw[hF8];show F7.off+e2=_;have h1:=HFA.out.2.1;have h2:=HE2.out;have h3:=HIi.out;omega
        have hp0:F8.p=0:=by rw[hF8]
        have hp9:F8.e=e2:=by rw[hF8]
        have hF:=HI.out.full (.inr (.inr ⟨hx8,by omega⟩))
        have hpe:=hF.1
        have HFULL:=hqZ hF.2
        have hp1:=HI.out.pe
        have hp2:=HI.out.e1
        have hp3:=HI.out.len
        go_meet
        exact⟨F8,HS1.out,HR1.out,HI.out,HP1.out,HF.out,HC.out,hpe,HFULL.out⟩
      .go_wp2_with fail
       go_roundg (gk - 1)
       case measure=>omega
       case rel=>exact⟨_,HS9.out,HRn.out,HFA.out.1,HP1.out,HF.out,by show F7.kp=ch;rw[HFA.out.2.2.2.1];exact HC.out,by show l.length+1<=gk - 1+(F7.off+e2);rw[HFA.out.2.1,HE2.out,HIi.out];omega⟩
end Go.Proofs.YtbdhlpeckennjaaGreatDoor
