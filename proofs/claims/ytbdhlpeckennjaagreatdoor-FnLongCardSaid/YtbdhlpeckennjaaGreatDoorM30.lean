/- FnLong (the proof that the law returns true for every input), part 30 of 52; the last part says what is proved, and its condition. -/
import Derived.Deep.RegionHeld3
import Derived.StillTailTactics
import Derived.Shelf.Lays7
import Derived.Shelf.Spec.DecodeRune
import Derived.Shelf.Spec.NilArms
import Derived.Test.YtbdhlpeckennjaaGreatDoorProg
import Derived.Deep.LoopGhost
import Derived.LaidEql
import Derived.Deep.DeepCutAuto
import Derived.Deep.CutBlock
import Derived.Test.YtbdhlpeckennjaaGreatDoorM04
import Derived.Test.YtbdhlpeckennjaaGreatDoorM05
import Derived.Test.YtbdhlpeckennjaaGreatDoorM27
import Derived.Test.YtbdhlpeckennjaaGreatDoorM28
import Derived.Test.YtbdhlpeckennjaaGreatDoorM29
set_option linter.unusedVariables false
set_option linter.unusedSimpArgs false
set_option maxHeartbeats 80000000
set_option maxRecDepth 1000000
namespace Go.Proofs.YtbdhlpeckennjaaGreatDoor
open Go Go.RowKit
theorem nk(w:World)(m:ByteArray):Calls Tryz.prog 127 #[.string m] w fun e w'=>(∃ (t:TypeId) (u:Value),e = .returned (.iface t u))/\New w w':=by
 have T0:=hqZ (Fr.refl (fun _=>False) w)
 go_enter Tryz.func127,Tryz.ntmps127
 go_wp2
 go_ret
 exact⟨⟨_,_,rfl⟩,by exact(T0.out.alloc _)⟩
theorem fx(w:World)(B sb rb:Nat)(f:SF)(h:Scn w B sb rb f)(m:ByteArray) :
  Calls Tryz.prog 138 #[.pointer (some ⟨sb,0,none⟩),.string m] w fun e w'=>e = .returned (.tuple #[])/\(∃ (t:TypeId) (u:Value) (te:Int),Scn w' B sb rb { f with te:=te,er:=.iface t u })/\Fr (· = sb) w w':=by
 have c1:w.cell? ⟨sb,1026,none⟩=some (.int .i64 f.p):=h.cell 1026 (by omega)
 have c2:w.cell? ⟨sb,1032,none⟩=some (.int .i64 f.lc):=h.cell 1032 (by omega)
 have c3:w.cell? ⟨sb,1037,none⟩=some (.int .i64 f.te):=h.cell 1037 (by omega)
 have z3:=h.free 1037
 have hlt:=h.lt
 have HL:=hqZ h
 clear h
 go_enter Tryz.func138,Tryz.ntmps138
 go_wp2_with fail
 go_still_tail 12,(by kernel_rfl)
 change wpList _ _ _ _ _ w.drew
 go_wp2_with fail
 refine(nk _ _).mono ?_
 rintro e w1 ⟨⟨t,u,rfl⟩,hf⟩
 have H1:=HL.out.ste (wrap64 ((f.p:Int) - (f.lc:Int)))
 have H2:=hqZ (Scn.new (w:=(w.setCell ⟨sb,1037,none⟩ (.int .i64 (wrap64 ((f.p:Int) - (f.lc:Int))))).drew) H1 hf)
 have hfr:Fr (fun k=>k=sb) w w1:=(((Fr.refl (fun k=>k=sb) w).set (.inl rfl)).drew).trans hf.ofNew
 have c4:w1.cell? ⟨sb,1039,none⟩=some f.er:=H2.out.cell 1039 (by omega)
 have z4:=H2.out.free 1039
 clear hf H1 c1 c2 c3
 go_wp2
 go_end0
 exact⟨rfl,⟨t,u,_,H2.out.ser _⟩,hfr.set (.inl rfl)⟩
end Go.Proofs.YtbdhlpeckennjaaGreatDoor
namespace Go.Proofs
open Go.Shelf
def Tryz.lays7n32_ren:Go.Shelf.Ren:=⟨fun|32=>139|49=>156|n=>n,fun|30=>67|21=>21|3=>3|0=>0|5=>5|4=>4|33=>225|66=>220|25=>224|69=>223|68=>222|n=>n,fun|2=>0|3=>1|n=>n⟩
theorem Tryz.lays7n32:Go.Proofs.Lays7.n32 Tryz.prog Tryz.lays7n32_ren:={
 mixed:=by kernel_rfl
 f32:=Tryz.func139.trans (congrArg some (by kernel_rfl))
 f49:=Tryz.func156.trans (congrArg some (by kernel_rfl))
 t0:=Tryz.underlying0
 a0:=Tryz.isAgg0
 z0:=Tryz.sizeOf0
 v0:=Tryz.zeroValue0
 i0:=by kernel_rfl
 t3:=Tryz.underlying3
 a3:=Tryz.isAgg3
 z3:=Tryz.sizeOf3
 v3:=Tryz.zeroValue3
 i3:=by kernel_rfl
 t4:=Tryz.underlying4
 a4:=Tryz.isAgg4
 z4:=Tryz.sizeOf4
 v4:=Tryz.zeroValue4
 i4:=by kernel_rfl
 t5:=Tryz.underlying5
 a5:=Tryz.isAgg5
 z5:=Tryz.sizeOf5
 v5:=Tryz.zeroValue5
 i5:=by kernel_rfl
 t21:=Tryz.underlying21
 a21:=Tryz.isAgg21
 z21:=Tryz.sizeOf21
 v21:=Tryz.zeroValue21
 i21:=by kernel_rfl
 t25:=Tryz.underlying224
 a25:=Tryz.isAgg224
 z25:=Tryz.sizeOf224
 v25:=Tryz.zeroValue224
 i25:=by kernel_rfl
 t30:=Tryz.underlying67
 a30:=Tryz.isAgg67
 z30:=Tryz.sizeOf67
 v30:=Tryz.zeroValue67
 i30:=by kernel_rfl
 t33:=Tryz.underlying225
 a33:=Tryz.isAgg225
 z33:=Tryz.sizeOf225
 v33:=Tryz.zeroValue225
 i33:=by kernel_rfl
 t66:=Tryz.underlying220
 a66:=Tryz.isAgg220
 z66:=Tryz.sizeOf220
 t68:=Tryz.underlying222
 a68:=Tryz.isAgg222
 z68:=Tryz.sizeOf222
 v68:=Tryz.zeroValue222
 i68:=by kernel_rfl
 t69:=Tryz.underlying223
 a69:=Tryz.isAgg223
 z69:=Tryz.sizeOf223
 v69:=Tryz.zeroValue223
 i69:=by kernel_rfl
 g2:=by kernel_rfl
 g3:=by kernel_rfl }
open Go.RowKit in
theorem Tryz.utf8_DecodeRune(s:ByteArray)(b off cap:Nat)(w:World)(hT:Lib.Utf8Tabs 0 1 w)
  (hp:∀ j,j < s.size->w.cell? ⟨b,off+j,none⟩=some (.int .u8 (s.get! j).toNat)) :
  Calls Tryz.prog 139 #[.slice (some ⟨b,off,none⟩) s.size cap] w fun e w'=>e = .returned (.tuple #[.int .i32 (Lib.decodeGo s).1,.int .i64 (Lib.decodeGo s).2])/\Below w.heap.size w w':=Any7.utf8_DecodeRune Tryz.lays7n32 s b off cap w hT hp
end Go.Proofs
namespace Go.Proofs.YtbdhlpeckennjaaGreatDoor
open Go Go.RowKit
def BA (w:World)(g off:Nat)(s:ByteArray):Prop:=g < w.heap.size/\∀ j,j < s.size->w.cell? ⟨g,off+j,none⟩=some (.int .u8 (s.get! j).toNat)
theorem BA.fr{w w':World}{g off:Nat}{s:ByteArray}(h:BA w g off s){S:Nat->Prop}(hf:Fr S w w')(hS:¬ S g):BA w' g off s :=
 ⟨Nat.lt_of_lt_of_le h.1 hf.size,fun j hj=>(hf.cell (p:=⟨g,off+j,none⟩) h.1 hS).trans (h.2 j hj)⟩
theorem nc(s:ByteArray)(i j:Nat)(h:i+j < s.size):(s.extract i s.size).get! j=s.get! (i+j):=by
 obtain⟨⟨l⟩⟩:=s
 rw[ByteArray.extract_mk]
 simp only[ByteArray.get!,ByteArray.size,List.size_toArray]at *
 simp[getElem!_def,List.getElem?_take,List.getElem?_drop,h]
 rw[if_pos (by omega)]
theorem BA.drop{w:World}{g off:Nat}{s:ByteArray}(h:BA w g off s){i:Nat}(hi:i<=s.size):BA w g (off+i) (s.extract i s.size):=by
 refine⟨h.1,fun j hj=>?_⟩
 have hj':j < s.size - i:=by simpa[ByteArray.size_extract] using hj
 rw[nc s i j (by omega),Nat.add_assoc]
 exact h.2 (i+j) (by omega)
theorem decN_le(n b0 b1 b2 b3:Nat)(hn:1<=n)(h0:b0 < 256):(Lib.decodeN n b0 b1 b2 b3).2<=n/\(Lib.decodeN n b0 b1 b2 b3).1<=1114111:=by
 unfold Lib.decodeN
 repeat' split
 all_goals simp
 all_goals omega
theorem dR(s:ByteArray):(Lib.decodeGo s).2<=s.size/\(Lib.decodeGo s).1<=1114111:=by
 unfold Lib.decodeGo
 by_cases h:s.size=0
 .rw[if_pos h];exact⟨Nat.zero_le _,by decide⟩
 .rw[if_neg h,Lib.decode_at]
  exact decN_le _ _ _ _ _ (by omega) (by have:=(s.get! 0).toNat_lt;omega)
theorem bp(s:ByteArray)(i:Nat)(h:i<=s.size):i+(ah s i).2<=s.size:=by
 have:=(dR (s.extract i s.size)).1
 simp only[ByteArray.size_extract]at this
 unfold ah;omega
theorem cL(s:ByteArray)(i:Nat):(ah s i).1<=1114111:=(dR _).2
theorem Glob.frN{w w':World}(h:Glob w)(hf:Fr (fun _=>False) w w'):Glob w':=by
 obtain⟨⟨h1,h2⟩,⟨v1,h3,h4⟩,⟨v2,h5,h6⟩⟩:=h
 have e:∀ (b o:Nat) (v:Value),w.cell? ⟨b,o,none⟩=some v->w'.cell? ⟨b,o,none⟩=some v:=fun b o v hv=>(hf.cell (p:=⟨b,o,none⟩) (World.block_lt_of_cell? w _ hv) id).trans hv
 exact⟨⟨fun c hc=>e _ _ _ (h1 c hc),fun i hi=>⟨e _ _ _ (h2 i hi).1,e _ _ _ (h2 i hi).2⟩⟩,⟨v1,e _ _ _ h3,h4⟩,⟨v2,e _ _ _ h5,h6⟩⟩
def NR (w:World)(s:ByteArray)(i:Nat)(e:Ending)(w':World):Prop :=
 (if(ah s i).1=65533 then ∃ (t:TypeId) (u:Value),e = .returned (.tuple #[.int .i32 65533,.int .i64 i,.iface t u])
  else e = .returned (.tuple #[.int .i32 (ah s i).1,.int .i64 ((i+(ah s i).2:Nat):Int),.nilIface]))/\New w w'
theorem fW(w:World)(g off cap n:Nat)(s:ByteArray)(hn:s.size=n)(hb:BA w g off s)(hg:Glob w) :
  Calls Tryz.prog 139 #[.slice (some ⟨g,off,none⟩) n cap] w fun e w'=>e = .returned (.tuple #[.int .i32 (Lib.decodeGo s).1,.int .i64 (Lib.decodeGo s).2])/\New w w':=by
 subst hn
 refine(Tryz.utf8_DecodeRune s g off cap w hg.1 hb.2).mono ?_
 rintro e w' ⟨rfl,hf⟩
 exact⟨rfl,Fr.of_below hf (by intro k h1 h2;omega)⟩
theorem bv(w:World)(m:ByteArray):Calls Tryz.prog 127 #[.string m] w fun e w'=>(∃ (t:TypeId) (u:Value),e = .returned (.iface t u))/\New w w':=by
 have T0:=hqZ (Fr.refl (fun _=>False) w)
 go_enter Tryz.func127,Tryz.ntmps127
 go_wp2
 go_ret
 exact⟨⟨_,_,rfl⟩,by exact(T0.out.alloc _)⟩
theorem aM(w:World)(g off cap:Nat)(s:ByteArray)(i:Nat)(hi:i<=s.size)(hcap:s.size<=cap)(hmax:s.size<=1000000)(hb:BA w g off s)(hg:Glob w) :
  Calls Tryz.prog 161 #[.slice (some ⟨g,off,none⟩) s.size cap,.int .i64 i] w (NR w s i):=by
 have T0:=hqZ (Fr.refl (fun _=>False) w)
 have HB:=hqZ hb
 have HG:=hqZ hg
 clear hb hg
 go_enter Tryz.func161,Tryz.ntmps161
 have HR:=hqZ (bp s i hi)
 go_wp2_with fail
 .rename_i h
  have e:i=s.size:=by omega
  subst e
  subst h
  (go_wp2_with fail;refine(fW _ _ _ _ _ (s.extract s.size s.size) (by simp[ByteArray.size_extract];try omega) (BA.fr (S:=fun _=>False) (show BA w g off (s.extract s.size s.size)from⟨HB.out.1,fun j hj=>by simp[ByteArray.size_extract]at hj⟩) (by exact T0.out) id) HG.out).mono ?_;rintro e w1 ⟨rfl,hf⟩;(have xs0:=Fr.size hf;have T1:=hqZ (Fr.transN T0.out hf);clear T0;clear hf))
  rw[show Lib.decodeGo (s.extract s.size s.size)=ah s s.size from rfl]
  cases q:(((ah s s.size).1:Int) == 65533)
  case true =>
   have q':(ah s s.size).1=65533:=by simp at q;omega
   (go_wp2_with fail;refine(bv _ _).mono ?_;rintro e w2 ⟨⟨t,u,rfl⟩,hf⟩;(have xs2:=Fr.size hf;have T0:=hqZ (Fr.transN T1.out hf);clear T1;clear hf))
   go_wp2
   refine bodyPost_ret (v:=(.tuple #[.int .i32 ((ah s s.size).1:Int),.int .i64 s.size,.iface t u])) (by simp only[results,Tryz.results161];go_simp) rfl ?_
   refine⟨?_,by exact T0.out⟩
   rw[if_pos q']
   exact⟨_,_,by rw[q'];rfl⟩
  case false =>
   have q':¬ (ah s s.size).1=65533:=by simp at q;omega
   have hw:IntKind.i64.wrap ((s.size:Int)+((ah s s.size).2:Int))=(s.size:Int)+((ah s s.size).2:Int):=IntWalk.i64_in _ (by have:=HR.out;omega)
   go_wp2
   refine bodyPost_ret (v:=(.tuple #[.int .i32 ((ah s s.size).1:Int),.int .i64 ((s.size:Int)+((ah s s.size).2:Int)),.nilIface])) (by simp only[results,Tryz.results161];go_simp) rfl ?_
   refine⟨?_,by exact T1.out⟩
   rw[if_neg q']
   push_cast
   rfl
 ·
  (go_wp2_with fail;refine(fW _ _ _ _ _ (s.extract i s.size) (by simp[ByteArray.size_extract];try omega) (BA.fr (S:=fun _=>False) (HB.out.drop hi) (by exact T0.out) id) HG.out).mono ?_;rintro e w1 ⟨rfl,hf⟩;(have xs0:=Fr.size hf;have T1:=hqZ (Fr.transN T0.out hf);clear T0;clear hf))
  rw[show Lib.decodeGo (s.extract i s.size)=ah s i from rfl]
  cases q:(((ah s i).1:Int) == 65533)
  case true =>
   have q':(ah s i).1=65533:=by simp at q;omega
   (go_wp2_with fail;refine(bv _ _).mono ?_;rintro e w2 ⟨⟨t,u,rfl⟩,hf⟩;(have xs2:=Fr.size hf;have T0:=hqZ (Fr.transN T1.out hf);clear T1;clear hf))
   go_wp2
   refine bodyPost_ret (v:=(.tuple #[.int .i32 ((ah s i).1:Int),.int .i64 i,.iface t u])) (by simp only[results,Tryz.results161];go_simp) rfl ?_
   refine⟨?_,by exact T0.out⟩
   rw[if_pos q']
   exact⟨_,_,by rw[q'];rfl⟩
  case false =>
   have q':¬ (ah s i).1=65533:=by simp at q;omega
   have hw:IntKind.i64.wrap ((i:Int)+((ah s i).2:Int))=(i:Int)+((ah s i).2:Int):=IntWalk.i64_in _ (by have:=HR.out;omega)
   go_wp2
   refine bodyPost_ret (v:=(.tuple #[.int .i32 ((ah s i).1:Int),.int .i64 ((i:Int)+((ah s i).2:Int)),.nilIface])) (by simp only[results,Tryz.results161];go_simp) rfl ?_
   refine⟨?_,by exact T1.out⟩
   rw[if_neg q']
   push_cast
   rfl
theorem FS.sb{B sb rb:Nat}{w w1:World}(h:Fr (fun k=>k=sb) w w1):FS B sb rb w w1:=⟨h.os,h.tape,h.output,h.size,fun k o hk e1 _ _=>(h.block k (Array.getElem?_eq_some_iff.1 hk).1 e1).trans hk⟩
theorem Rd.sb{w w1:World}{rb sb g cap n x:Nat}(h:Rd w rb g cap n x)(hf:Fr (fun k=>k=sb) w w1)(hne:rb ≠ sb):Rd w1 rb g cap n x:=by
 obtain⟨m,o,lr,hb,r⟩:=h
 exact⟨m,o,lr,hb.next hf hne,r⟩
theorem fP{w wr W:World}{B sb rb g cap:Nat}{l:List UInt8}{f f2:SF}{q n:Nat}{tk:Option Nat}{er er2:Bool}{ch:KP}{c:Int}(hfs:FS B sb rb w wr)(hR:Rd wr rb g cap l.length (f.off+f.e))(hP:Pl wr ⟨B,sb,rb,g,cap,l⟩)(hI:SI l f q 0 tk er)
  (hfr:Fr (fun k=>k=sb) wr W) (hS2:Scn W B sb rb f2) (hn:clen (l.drop q)=n) (hc:chr (l.drop q)=c) (hpe:f.p+n<=f.e) (h1:f2.p=f.p+n) (h2:f2.e=f.e) (h3:f2.off=f.off) (h4:f2.buf=f.buf) (h5:f2.tok=f.tok) (h6:f2.tp=f.tp) (h8:f2.lc=n) (h9:f2.kp=ch)
  (h7:if er2=true then ∃ t u,f2.er = .iface t u else f2.er = .nilIface) (hbad:(er || badc (l.drop q))=er2):NX w ⟨B,sb,rb,g,cap,l⟩ q tk er ch (.returned (.int .i32 c)) W:=by
 refine⟨by rw[<- hc],⟨f2,⟨hS2,?_,?_,hP.fs (FS.sb hfr)⟩,by rw[h8,<- hn],h9⟩,hfs.trans (FS.sb hfr)⟩
 .show Rd W rb g cap l.length (f2.off+f2.e)
  rw[h2,h3];exact hR.sb hfr hP.ne
 .show SI l f2 (q+clen (l.drop q)) (clen (l.drop q)) tk (er || badc (l.drop q))
  rw[hn,hbad];exact hI.take hpe h1 h2 h3 h4 h5 h6 h7
theorem jJ{v:List UInt8}{b:Nat}(h:v ≠ [])(hc:chr v=(b:Nat))(hb:b < 128):badc v=((b:Int) == 0):=by
 rw[lL h,hc]
 have:((b:Int) == 65533)=false:=by simp;omega
 rw[this,Bool.false_and,Bool.false_or]
theorem lb{f:SF}{lo hi:Nat}(h:lo < hi):seg f lo hi=f.buf lo::seg f (lo+1) hi:=by
 unfold seg
 rw[show hi - lo=(hi - (lo+1))+1 from by omega,List.range_succ_eq_map]
 simp only[List.map_cons,List.map_map,Nat.add_zero]
 congr 1
 apply List.map_congr_left
 intro j _
 simp only[Function.comp]
 congr 1;omega
theorem dN(f:SF)(lo hi:Nat):(seg f lo hi).length=hi - lo:=by simp[seg]
theorem fo(f:SF)(lo hi j:Nat)(h:j < hi - lo):(seg f lo hi)[j]? = some (f.buf (lo+j)):=by unfold seg;rw[List.getElem?_map,List.getElem?_range h];rfl
theorem rO(l:List UInt8)(h:l ≠ []):Lib.decodeGo ⟨l.toArray⟩=dec l:=by
 unfold Lib.decodeGo dec
 rw[if_neg (by show ¬ l.toArray.size=0;simp[h])]
theorem seg_ba{w:World}{B sb rb:Nat}{f:SF}(h:Scn w B sb rb f){lo hi:Nat}(hh:hi<=1025):BA w sb (1+lo) ⟨(seg f lo hi).toArray⟩:=by
 refine⟨h.lt,fun j hj=>?_⟩
 have hj':j < hi - lo:=by have:j < (seg f lo hi).toArray.size:=hj;simpa[dN] using this
 rw[show 1+lo+j=1+(lo+j)from by omega,h.byte _ (by omega)]
 congr 3
 show _=((seg f lo hi).toArray[j]!).toNat
 rw[getElem!_def,List.getElem?_toArray,fo f lo hi j hj']
theorem pU(w:World)(V:Env)(q:Nat)(tk:Option Nat)(er:Bool)(ch:KP)(f:SF)(h:StF w V f q 0 tk er)(hch:f.kp=ch)(hfast:(f.buf f.p).toNat < 128):Calls Tryz.prog 104 #[.pointer (some ⟨V.sb,0,none⟩)] w (NX w V q tk er ch):=by
 obtain⟨B,sb,rb,g,cap,l⟩:=V
 obtain⟨hS,hR,hI,hP⟩:=h
 have hI:=hI.weak
 change Scn w B sb rb f at hS
 change Rd w rb g cap l.length (f.off+f.e)at hR
 change SI l f q 0 tk er at hI
 have hl9:l.length<=90000:=hP.l9
 have c26:w.cell? ⟨sb,1026,none⟩=some (.int .i64 f.p):=hS.cell 1026 (by omega)
 have hp1:=hI.pe
 have hp2:=hI.e1
 have hp3:=hI.len
 have cb:w.cell? ⟨sb,1+f.p,none⟩=some (.int .u8 (f.buf f.p).toNat):=hS.byte f.p (by omega)
 have hlt:=hS.lt
 have hlb:(f.p:Int) < 1025:=by omega
 obtain⟨b,hb⟩:∃ b,b=(f.buf f.p).toNat:=⟨_,rfl⟩
 rw[<- hb]at cb
 have hb256:b < 256:=by rw[hb];exact UInt8.toNat_lt _
 have HS:=hqZ hS
 have HR:=hqZ hR
 have HI:=hqZ hI
 have HP:=hqZ hP
 have HC:=hqZ hch
 have HB:=hqZ hb
 rw[<- hb]at hfast
 clear hS hR hI hP hch hb
 have hfast':¬ (128:Int)<=(b:Int):=by omega
 have hpe:=HI.out.lt (by rw[<- HB.out];exact hfast)
 obtain⟨r,hr⟩:=HI.out.head hpe
 obtain⟨a1,a2,a3⟩:=aK r (by rw[<- HB.out];exact hfast:(f.buf f.p).toNat < 128)
 rw[<- hr,<- HB.out]at a1
 rw[<- hr]at a2
 have HN:=hqZ a2
 have HC0:=hqZ a1
 have HBD:=hqZ (jJ (v:=l.drop q) (by rw[hr];simp) a1 hfast)
 clear a1 a2 a3 hr
 go_enter Tryz.func104,Tryz.ntmps104
 go_wp2_with fail
 go_quiet (fail)
 have HF:=hqZ (show FS B sb rb w (w.drewN nq)from FS.refl.drewN nq)
 have HS1:=hqZ (HS.out.new ((Fr.refl _ w).drewN nq))
 have HR1:=hqZ (HR.out.new ((Fr.refl _ w).drewN nq))
 have HP1:=hqZ (HP.out.next ((Fr.refl _ w).drewN nq))
 clear c26 cb
 generalize w.drewN nq=wr at *
 have c26:wr.cell? ⟨sb,1026,none⟩=some (.int .i64 f.p):=HS1.out.cell 1026 (by omega)
 have c30:wr.cell? ⟨sb,1030,none⟩=some (.int .i64 f.col):=HS1.out.cell 1030 (by omega)
 have c32:wr.cell? ⟨sb,1032,none⟩=some (.int .i64 f.lc):=HS1.out.cell 1032 (by omega)
 have c29:wr.cell? ⟨sb,1029,none⟩=some (.int .i64 f.ln):=HS1.out.cell 1029 (by omega)
 have c31:wr.cell? ⟨sb,1031,none⟩=some (.int .i64 f.ll):=HS1.out.cell 1031 (by omega)
 have z26:=HS1.out.free 1026
 have z30:=HS1.out.free 1030
 have z32:=HS1.out.free 1032
 have z29:=HS1.out.free 1029
 have z31:=HS1.out.free 1031
 have hw1:IntKind.i64.wrap ((f.p:Int)+(1:Int))=((f.p+1:Nat):Int):=(IntWalk.i64_in _ (by omega)).trans (by push_cast;rfl)
 by_cases h0:b=0
 case pos =>
  subst h0
  go_wp2_with fail
  refine(fx _ B sb rb _ (Scn.scol (Scn.slc (Scn.sp HS1.out (f.p+1) (by push_cast;rfl)) 1 (by push_cast;rfl)) _) _).mono ?_
  rintro e w9 ⟨rfl,⟨t,u,te,h9⟩,hf9⟩
  have H9:=hqZ (fP (q:=q) HF.out HR1.out HP1.out HI.out ((((Fr.refl (fun k=>k=sb) wr).set (.inl rfl)).set (.inl rfl) |>.set (.inl rfl)).trans hf9) h9 HN.out (HC0.out) hpe rfl rfl rfl rfl rfl rfl rfl HC.out (er2:=true) ⟨t,u,rfl⟩ (by rw[HBD.out];simp))
  clear h9 hf9
  go_wp2
  go_ret
  exact H9.out
 have hc0:¬ ((b:Nat):Int)=0:=by omega
 by_cases h10:b=10
 case pos =>
  subst h10
  go_wp2
  go_ret
  exact fP (q:=q) HF.out HR1.out HP1.out HI.out ((((((Fr.refl (fun k=>k=sb) wr).set (.inl rfl)).set (.inl rfl)).set (.inl rfl)).set (.inl rfl)).set (.inl rfl) |>.set (.inl rfl)) (Scn.scol (Scn.sll (Scn.sln (Scn.scol (Scn.slc (Scn.sp HS1.out (f.p+1) (by push_cast;rfl)) 1 (by push_cast;rfl)) _) _) _) _) HN.out (HC0.out) hpe rfl rfl rfl rfl rfl rfl rfl HC.out (er2:=er) HI.out.er (by rw[HBD.out];simp)
 have hc10:¬ ((b:Nat):Int)=10:=by omega
 go_wp2
 go_ret
 exact fP (q:=q) HF.out HR1.out HP1.out HI.out ((((Fr.refl (fun k=>k=sb) wr).set (.inl rfl)).set (.inl rfl)).set (.inl rfl)) (Scn.scol (Scn.slc (Scn.sp HS1.out (f.p+1) (by push_cast;rfl)) 1 (by push_cast;rfl)) _) HN.out (HC0.out) hpe rfl rfl rfl rfl rfl rfl rfl HC.out (er2:=er) HI.out.er (by rw[HBD.out];simp[h0])
theorem lF(w:World)(B sb rb:Nat)(f:SF)(h:Scn w B sb rb f)(lo hi c:Nat)(hg:Glob w)(hlo:lo<=hi)(hhi:hi<=1025)(hc:hi - lo<=c) :
  Calls Tryz.prog 136 #[.slice (some ⟨sb,1+lo,none⟩) (hi - lo) c] w fun e w'=>e = .returned (.bool (jt (seg f lo hi)))/\New w w':=by
 have hl:=dN f lo hi
 have:=lG w sb (1+lo) c (seg f lo hi) (fun j b hj=>by
  have hjl:j < hi - lo:=by rw[<- hl];exact(List.getElem?_eq_some_iff.1 hj).1
  rw[fo f lo hi j hjl]at hj
  cases hj
  rw[show 1+lo+j=1+(lo+j)from by omega]
  exact h.byte _ (by omega)) hg (by omega) (by omega)
 rw[hl]at this
 exact this
theorem pd(w:World)(B sb rb:Nat)(f:SF)(h:Scn w B sb rb f)(lo hi c:Nat)(hg:Glob w)(hlo:lo < hi)(hhi:hi<=1025) :
  Calls Tryz.prog 139 #[.slice (some ⟨sb,1+lo,none⟩) (hi - lo) c] w fun e w'=>e = .returned (.tuple #[.int .i32 (dec (seg f lo hi)).1,.int .i64 (dec (seg f lo hi)).2])/\New w w':=by
 have hne:seg f lo hi ≠ []:=by rw[lb hlo];simp
 have:=fW w sb (1+lo) c (hi - lo) ⟨(seg f lo hi).toArray⟩ (by show(seg f lo hi).toArray.size=_;simp[dN]) (seg_ba h hhi) hg
 rw[rO _ hne]at this
 exact this
def SF.mv(f:SF):SF:={ f with buf:=fun k=>if k < f.e - f.p then f.buf (f.p+k)else f.buf k }
theorem Fr.setCells{b:Nat}{w:World}:∀ (vs:List Value) (i:Nat) (w1:World),Fr (fun k=>k=b) w w1->Fr (fun k=>k=b) w (w1.setCells b i vs)
 | [],_,_,h=>h
 | v::vs,i,w1,h=>Fr.setCells vs (i+1) _ (h.set (.inl rfl))
theorem rn{W:World}{B sb rb:Nat}{f:SF}(h:Scn W B sb rb f)(hp:f.p<=f.e)(he:f.e<=1024) :
  ∃ cs,(Builtin.copy_ #[67,67] 3 #[.slice (some ⟨sb,1,none⟩) 1025 1025,.slice (some ⟨sb,1+f.p,none⟩) (f.e - f.p) (1025 - f.p)]).run Tryz.prog W = .ok (goInt ((f.e - f.p:Nat):Int)) (W.setCells sb 1 cs)/\Scn (W.setCells sb 1 cs) B sb rb f.mv/\Fr (fun k=>k=sb) W (W.setCells sb 1 cs):=by
 have hl:=dN f f.p f.e
 have hcl:(Lib.byteCells (seg f f.p f.e)).length=f.e - f.p:=by rw[Lib.byteCells_length,hl]
 refine⟨Lib.byteCells (seg f f.p f.e),?_,?_,Fr.setCells _ _ _ Fr.r⟩
 .have hcp:=run_copy_cells (P:=Tryz.prog) W 67 67 3 5 sb 1 1025 1025 ⟨sb,1+f.p,none⟩ (f.e - f.p) (1025 - f.p) (Lib.byteCells (seg f f.p f.e)) u8S u8I (by rw[hcl];exact(Nat.min_eq_left (by omega)).symm)
   (fun j v hj=>by
    obtain⟨b,hb,rfl⟩:=gA _ _ _ hj
    have hjl:j < f.e - f.p:=by rw[<- hl];exact(List.getElem?_eq_some_iff.1 hb).1
    rw[fo f _ _ j hjl]at hb
    cases hb
    rw[show((⟨sb,1+f.p,none⟩:Addr).add j)=⟨sb,1+(f.p+j),none⟩from by unfold Addr.add;split <;> simp_all [Nat.add_assoc]]
    exact h.byte _ (by omega))
   (fun j hj=>by rw[hcl]at hj;exact Option.isSome_iff_exists.2 ⟨_,h.byte j (by omega)⟩) (fun j hj=>h.free _) (iI _)
  rw[hcl]at hcp
  exact hcp
 .have:=Scn.sbs (seg f f.p f.e) 0 W f h (by rw[hl];omega)
  rw[hl,Nat.add_zero]at this
  have e:(fun k=>if 0<=k/\k < 0+(f.e - f.p)then(seg f f.p f.e).getD (k - 0) 0 else f.buf k)=(fun k=>if k < f.e - f.p then f.buf (f.p+k)else f.buf k):=by
   funext k
   by_cases hk:k < f.e - f.p
   .rw[if_pos (by omega),if_pos hk,Nat.sub_zero,List.getD_eq_getElem?_getD,fo f _ _ k hk];rfl
   .rw[if_neg (by omega),if_neg hk]
  rw[e]at this
  exact this
theorem lB{w W:World}{B sb rb g cap:Nat}{l:List UInt8}{f f2:SF}{q:Nat}{tk:Option Nat}{er:Bool}{ch:KP}(hfs:FS B sb rb w W)(hR:Rd W rb g cap l.length (f.off+f.e))(hP:Pl W ⟨B,sb,rb,g,cap,l⟩)(hI:SI l f q 0 tk er)(hq:q=l.length)
  (hS2:Scn W B sb rb f2) (h1:f2.p=f.p) (h2:f2.e=f.e) (h3:f2.off=f.off) (h4:f2.buf=f.buf) (h5:f2.tok=f.tok) (h6:f2.tp=f.tp) (h7:f2.er=f.er) (h8:f2.lc=0) (h9:f2.kp=ch):NX w ⟨B,sb,rb,g,cap,l⟩ q tk er ch (.returned (.int .i32 (-1))) W:=by
 have hd:l.drop q = []:=by rw[hq];exact List.drop_length
 refine⟨by show _=Ending.returned (.int .i32 (chr (l.drop q)));rw[hd];rfl,⟨f2,⟨hS2,?_,?_,hP⟩,by show f2.lc=clen (l.drop q);rw[h8,hd];rfl,h9⟩,hfs⟩
 .show Rd W rb g cap l.length (f2.off+f2.e)
  rw[h2,h3];exact hR
 .show SI l f2 (q+clen (l.drop q)) (clen (l.drop q)) tk (er || badc (l.drop q))
  rw[hd,show clen []=0 from rfl,show badc []=false from rfl,Bool.or_false]
  exact hI.take (n:=0) (by have:=hI.pe;omega) (by omega) h2 h3 h4 h5 h6 (by rw[h7];exact hI.er)
theorem SI.full{l:List UInt8}{f:SF}{q m:Nat}{tk:Option Nat}{er:Bool}(h:SI l f q m tk er)(hf:jt (seg f f.p f.e)=true\/f.p+4<=f.e\/(f.off+f.e=l.length/\f.p < f.e)) :
  f.p < f.e/\chr (l.drop q)=chr (seg f f.p f.e)/\clen (l.drop q)=clen (seg f f.p f.e)/\l.drop q ≠ []:=by
 have hl:=dN f f.p f.e
 have ha:=h.ahead
 rcases hf with hf|hf|⟨h1,h2⟩
 .obtain⟨a1,a2,a3⟩:=nd (l.drop (f.off+f.e)) (.inl hf)
  have:0 < (seg f f.p f.e).length:=List.length_pos_iff.2 a1
  rw[ha]
  exact⟨by omega,a2,a3,by simp[a1]⟩
 .obtain⟨a1,a2,a3⟩:=nd (l.drop (f.off+f.e)) (.inr (by rw[hl];omega:4<=(seg f f.p f.e).length))
  rw[ha]
  exact⟨by omega,a2,a3,by simp[a1]⟩
 .rw[h1,List.drop_length,List.append_nil]at ha
  rw[ha]
  exact⟨h2,rfl,rfl,by rw[lb h2];simp⟩
theorem ng(rv:Value)(w:World):(method 534 133 rv "Read").run Tryz.prog w = .ok (291,rv) w:=by kernel_rfl
theorem kL(args:Array Value)(w:World):(callFunc 291 args).run Tryz.prog w = .ok (.enter 291 args) w:=by kernel_rfl
theorem errI:∃ ms,Tryz.prog.underlying 82=some (.interface ms):=⟨_,Tryz.underlying82⟩
theorem errP:Tryz.prog.underlying 314=some (.pointer 316):=by kernel_rfl
theorem errC:(Tryz.prog.info? 314).map (·.comparable)=some true:=by kernel_rfl
theorem errS:(Tryz.prog.info? 316).isSome=true:=by kernel_rfl
theorem nl(W:World)(a:Addr):(binOp .neq 82 (.iface 314 (.pointer (some a))) (.iface 314 (.pointer (some a)))).run Tryz.prog W = .ok (.bool false) W:=by
 obtain⟨ms,hi⟩:=errI
 obtain⟨i,hinfo,hc⟩:=Option.map_eq_some_iff.1 errC
 obtain⟨j,hj⟩:=Option.isSome_iff_exists.1 errS
 simp only[binOp]
 simp[Op.equal,Op.maxDepth,run_equalIn_iface_ptr_same W 9998 a hi errP hinfo hc hj]
theorem nh{l:List UInt8}{f1 Fm F5 F7:SF}{q i k e2:Nat}{tk:Option Nat}{er:Bool}(h:SI l f1 q 0 tk er)(hi:i=f1.e - f1.p)(hF5:F5=({ SF.mv Fm with off:=f1.off+f1.p }:SF))(m1:Fm.buf=f1.buf)(m2:Fm.p=f1.p)(m3:Fm.e=f1.e)(m4:Fm.er=f1.er)
  (hcase:(f1.off+f1.e=l.length/\k=0/\F7=F5)\/(0 < k/\i+k<=1024/\f1.off+f1.e+k<=l.length/\F7=F5.got l (f1.off+f1.e) i k)) (he2:e2=i+k)
  (ht:match tk with|none=>Fm.tp = -1|some a=>Fm.tp=0/\a<=f1.off+f1.p/\Fm.tok=(l.drop a).take (f1.off+f1.p - a)) :
  SI l ({ F7 with p:=0,e:=e2,buf:=fun j=>if j=e2 then 128 else F7.buf j }:SF) q 0 tk er/\F7.off=f1.off+f1.p/\F7.lc=Fm.lc/\F7.kp=Fm.kp/\F7.col=Fm.col:=by
 have e1:=h.pe
 have e2':=h.e1
 have e3:=h.len
 have hb5:∀ j,j < i->F5.buf j=f1.buf (f1.p+j):=fun j hj=>by
  rw[hF5]
  show(if j < Fm.e - Fm.p then Fm.buf (Fm.p+j)else Fm.buf j)=_
  rw[if_pos (by omega),m1,m2]
 have hall:F7.tp=Fm.tp/\F7.tok=Fm.tok/\F7.er=Fm.er/\F7.off=f1.off+f1.p/\F7.lc=Fm.lc/\F7.kp=Fm.kp/\F7.col=Fm.col:=by
  rcases hcase with ⟨_,_,rfl⟩|⟨_,_,_,rfl⟩ <;> subst hF5 <;> exact⟨rfl,rfl,rfl,rfl,rfl,rfl,rfl⟩
 obtain⟨t1,t2,t3,t4,t5,t6,t7⟩:=hall
 refine⟨h.fill (i:=i) (k:=k) hi (by rcases hcase with ⟨_,rfl,_⟩|⟨_,_,h3,_⟩ <;> omega) (by rcases hcase with ⟨_,rfl,_⟩|⟨_,h3,_,_⟩ <;> omega) rfl he2 t4 (t3.trans m4) (fun j hj=>?_) (fun j hj=>?_) (by show(if i+k=e2 then _ else _)=_;rw[if_pos he2.symm]) ?_,t4,t5,t6,t7⟩
 .show(if j=e2 then 128 else F7.buf j)=_
  rw[if_neg (by omega)]
  rcases hcase with ⟨_,_,rfl⟩|⟨_,_,_,rfl⟩
  .exact hb5 j hj
  .show(if i<=j/\j < i+k then _ else F5.buf j)=_
   rw[if_neg (by omega)];exact hb5 j hj
 .show(if i+j=e2 then 128 else F7.buf (i+j))=_
  rw[if_neg (by omega)]
  rcases hcase with ⟨_,rfl,_⟩|⟨_,_,_,rfl⟩
  .omega
  .show(if i<=i+j/\i+j < i+k then((l.drop (f1.off+f1.e)).take k).getD (i+j - i) 0 else F5.buf (i+j))=_
   rw[if_pos (by omega),show i+j - i=j from by omega,List.getD_eq_getElem?_getD,List.getD_eq_getElem?_getD,List.getElem?_take_of_lt hj]
 .cases tk with
  | none=>exact t1.trans ht
  | some a=>exact⟨t1.trans ht.1,ht.2.1,t2.trans ht.2.2⟩
theorem RDp.eof{w w':World}{B sb rb g cap:Nat}{l:List UInt8}{f:SF}{x i d:Nat}{eofv:Value}{e:Ending}(h:RDp w B sb rb g cap l f x i d eofv e w')(hx:x=l.length):e = .returned (.tuple #[.int .i64 0,eofv])/\Scn w' B sb rb f/\Rd w' rb g cap l.length x/\FS B sb rb w w':=by
 have h1:=h.1
 rw[if_pos hx]at h1
 exact⟨h1.1,h1.2.1,h1.2.2,h.2⟩
theorem RDp.more{w w':World}{B sb rb g cap:Nat}{l:List UInt8}{f:SF}{x i d:Nat}{eofv:Value}{e:Ending}(h:RDp w B sb rb g cap l f x i d eofv e w')(hx:¬ x=l.length) :
  e = .returned (.tuple #[.int .i64 (min d (l.length - x):Nat),.nilIface])/\Scn w' B sb rb (f.got l x i (min d (l.length - x)))/\Rd w' rb g cap l.length (x+min d (l.length - x))/\FS B sb rb w w':=by
 have h1:=h.1
 rw[if_neg hx]at h1
 exact⟨h1.1,h1.2.1,h1.2.2,h.2⟩
def sndC:Code->Code
 | .seq _ b=>b
 | c=>c
noncomputable def mL:Code:=sndC (sndC (sndC (Tryz.f104.body.getD .skip)))
theorem gK(w wr:World)(B sb rb g cap q:Nat)(l:List UInt8)(tk:Option Nat)(er:Bool)(ch:KP)(f:SF)(c n:Nat)(u1 u2 u5 u6 u7 u8 u9 u10 u11 u12 u13 u14 u15 u16 u17 u18 u19 u20 u21 u22 u23 u24 u25 u26 u27 u28 u29 u30 u31 u32 u33 u34 u35 u36 u37 u38 u39 u40 u41 u42 u43 u44 u45 u46 u47 u48 u49 u50 u51 u52 u53 u54 u55 u56 u57 u58 u59 u60 u61 u62 u63 u64 u65 u66 u67 u68 u69 u70 u71 u72 u73 u74 u75 u76 u77 u78 u79 u80 u81 u82 u83 u84 u85 u86 u87 u88 u89 u90 u91 u92 u93 u94 u95 u96 u97 u98 u99 u100 u101 u102 u103 u104 u105 u106 u107 u108 u109 u110 u111 u112 u113 u114 u115 u116 u117 u118 u119 u120 u121 u122 u123 u124 u125 u126 u127 u128 u129 u130 u131 u132 u133 u134 u135 u136 u137 u138 u139 u140 u141 u142 u143 u144 u145 u146 u147 u148 u149 u150 u151 u152 u153 u154 u155 u156 u157 u158 u159 u160 u161 u162 u163 u164 u165 u166 u167 u168 u169 u170 u171 u172 u173 u174 u175 u176 u177 u178 u179 u180 u181 u182 u183 u184 u185 u186 u187 u188 u189 u190 u191 u192 u193 u194 u195 u196 u197 u198 u199 u200 u201 u202 u203 u204 u205 u206 u207 u208 u209 u210 u211 u212 u213 u214 u215 u216 u217 u218 u219 u220 u221 u222 u223 u224 u225 u226 u227 u228 u229 u230 u231 u232 u233 u234 u235 u236 u237 u238 u239 u240 u241 u242 u243 u244 u245 u246 u247 u248 u249 u250 u251 u252 u253 u254 u255 u256 u257 u258 u259 u260 u261 u262 u263 u264 u265 u266 u267:Value)
  (HF:Hid (FS B sb rb w wr)) (HS1:Hid (Scn wr B sb rb f)) (HR1:Hid (Rd wr rb g cap l.length (f.off+f.e))) (HP1:Hid (Pl wr ⟨B,sb,rb,g,cap,l⟩)) (HI:Hid (SI l f q 0 tk er)) (HN:Hid (clen (l.drop q)=n)) (HC0:Hid (chr (l.drop q)=(c:Nat)))
  (HC:Hid (f.kp=ch)) (hpe:f.p+n<=f.e) (HBD:Hid (badc (l.drop q)=((c:Int) == 0))) (hp1:f.p<=f.e) (hp2:f.e<=1024) (hp3:f.off+f.e<=l.length) (hl9:l.length<=90000) (hcm:c<=1114111) :
  Code.wp Tryz.prog mL (bodyPost Tryz.prog Tryz.f104 (NX w ⟨B,sb,rb,g,cap,l⟩ q tk er ch)) { tmps:=#[.pointer (some ⟨sb,0,none⟩),u1,u2,.int .i32 (c:Nat),.int .i64 (n:Nat),u5,u6,u7,u8,u9,u10,u11,u12,u13,u14,u15,u16,u17,u18,u19,u20,u21,u22,u23,u24,u25,u26,u27,u28,u29,u30,u31,u32,u33,u34,u35,u36,u37,u38,u39,u40,u41,u42,u43,u44,u45,u46,u47,u48,u49,u50,u51,u52,u53,u54,u55,u56,u57,u58,u59,u60,u61,u62,u63,u64,u65,u66,u67,u68,u69,u70,u71,u72,u73,u74,u75,u76,u77,u78,u79,u80,u81,u82,u83,u84,u85,u86,u87,u88,u89,u90,u91,u92,u93,u94,u95,u96,u97,u98,u99,u100,u101,u102,u103,u104,u105,u106,u107,u108,u109,u110,u111,u112,u113,u114,u115,u116,u117,u118,u119,u120,u121,u122,u123,u124,u125,u126,u127,u128,u129,u130,u131,u132,u133,u134,u135,u136,u137,u138,u139,u140,u141,u142,u143,u144,u145,u146,u147,u148,u149,u150,u151,u152,u153,u154,u155,u156,u157,u158,u159,u160,u161,u162,u163,u164,u165,u166,u167,u168,u169,u170,u171,u172,u173,u174,u175,u176,u177,u178,u179,u180,u181,u182,u183,u184,u185,u186,u187,u188,u189,u190,u191,u192,u193,u194,u195,u196,u197,u198,u199,u200,u201,u202,u203,u204,u205,u206,u207,u208,u209,u210,u211,u212,u213,u214,u215,u216,u217,u218,u219,u220,u221,u222,u223,u224,u225,u226,u227,u228,u229,u230,u231,u232,u233,u234,u235,u236,u237,u238,u239,u240,u241,u242,u243,u244,u245,u246,u247,u248,u249,u250,u251,u252,u253,u254,u255,u256,u257,u258,u259,u260,u261,u262,u263,u264,u265,u266,u267],defers:=[] } wr:=by
 have hlt:=HS1.out.lt
 conv=>arg 2;whnf
 have c26:wr.cell? ⟨sb,1026,none⟩=some (.int .i64 f.p):=HS1.out.cell 1026 (by omega)
 have c30:wr.cell? ⟨sb,1030,none⟩=some (.int .i64 f.col):=HS1.out.cell 1030 (by omega)
 have c32:wr.cell? ⟨sb,1032,none⟩=some (.int .i64 f.lc):=HS1.out.cell 1032 (by omega)
 have c29:wr.cell? ⟨sb,1029,none⟩=some (.int .i64 f.ln):=HS1.out.cell 1029 (by omega)
 have c31:wr.cell? ⟨sb,1031,none⟩=some (.int .i64 f.ll):=HS1.out.cell 1031 (by omega)
 have z26:=HS1.out.free 1026
 have z30:=HS1.out.free 1030
 have z32:=HS1.out.free 1032
 have z29:=HS1.out.free 1029
 have z31:=HS1.out.free 1031
 have hw1:IntKind.i64.wrap ((f.p:Int)+(n:Int))=((f.p+n:Nat):Int):=(IntWalk.i64_in _ (by omega)).trans (by push_cast;rfl)
 by_cases h0:c=0
 case pos =>
  subst h0
  go_wp2_with fail
  refine(fx _ B sb rb _ (Scn.scol (Scn.slc (Scn.sp HS1.out (f.p+n) (by push_cast;rfl)) n (by push_cast;rfl)) _) _).mono ?_
  rintro e w9 ⟨rfl,⟨t,u,te,h9⟩,hf9⟩
  have H9:=hqZ (fP (q:=q) HF.out HR1.out HP1.out HI.out ((((Fr.refl (fun k=>k=sb) wr).set (.inl rfl)).set (.inl rfl) |>.set (.inl rfl)).trans hf9) h9 HN.out (HC0.out) hpe rfl rfl rfl rfl rfl rfl rfl HC.out (er2:=true) ⟨t,u,rfl⟩ (by rw[HBD.out];simp))
  clear h9 hf9
  go_wp2
  go_ret
  exact H9.out
 have hc0:¬ ((c:Nat):Int)=0:=by omega
 by_cases h10:c=10
 case pos =>
  subst h10
  go_wp2
  go_ret
  exact fP (q:=q) HF.out HR1.out HP1.out HI.out ((((((Fr.refl (fun k=>k=sb) wr).set (.inl rfl)).set (.inl rfl)).set (.inl rfl)).set (.inl rfl)).set (.inl rfl) |>.set (.inl rfl)) (Scn.scol (Scn.sll (Scn.sln (Scn.scol (Scn.slc (Scn.sp HS1.out (f.p+n) (by push_cast;rfl)) n (by push_cast;rfl)) _) _) _) _) HN.out (HC0.out) hpe rfl rfl rfl rfl rfl rfl rfl HC.out (er2:=er) HI.out.er (by rw[HBD.out];simp)
 have hc10:¬ ((c:Nat):Int)=10:=by omega
 go_wp2
 go_ret
 exact fP (q:=q) HF.out HR1.out HP1.out HI.out ((((Fr.refl (fun k=>k=sb) wr).set (.inl rfl)).set (.inl rfl)).set (.inl rfl)) (Scn.scol (Scn.slc (Scn.sp HS1.out (f.p+n) (by push_cast;rfl)) n (by push_cast;rfl)) _) HN.out (HC0.out) hpe rfl rfl rfl rfl rfl rfl rfl HC.out (er2:=er) HI.out.er (by rw[HBD.out];simp[h0])
end Go.Proofs.YtbdhlpeckennjaaGreatDoor
