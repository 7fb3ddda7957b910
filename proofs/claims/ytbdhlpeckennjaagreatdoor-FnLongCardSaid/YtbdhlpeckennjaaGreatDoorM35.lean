/- FnLong (the proof that the law returns true for every input), part 35 of 52; the last part says what is proved, and its condition. -/
import Derived.Test.YtbdhlpeckennjaaGreatDoorM26
import Derived.Test.YtbdhlpeckennjaaGreatDoorM33
import Derived.Test.YtbdhlpeckennjaaGreatDoorM34
set_option linter.unusedVariables false
set_option linter.unusedSimpArgs false
set_option maxHeartbeats 80000000
set_option maxRecDepth 1000000
namespace Go.Proofs.YtbdhlpeckennjaaGreatDoor
open Go Go.RowKit
def dd (k:Nat)(v:List UInt8):Nat × List UInt8 × List UInt8 × Bool :=
 let c:=chr v
 if c = -1 then(0,v,v,true)
 else if bh c true then
  let r:=skip (bh · false) (nxt v)
  (if bW (v.take (v.length - r.length))then 3 else 1,v,r,true)
 else if decB c then(2,v,skip decB v,true)
 else if c=34 then
  let r:=aI (v.length+1) (nxt v)
  (4,v,nxt r.1,r.2)
 else if c=47 then
  if chr (nxt v)=47 then am k (skip (fun c=>!(c == 10) && decide (0<=c)) (nxt (nxt v)))
  else if chr (nxt v)=42 then
   let r:=bN (v.length+1) (nxt (nxt v))
   let s:=am k r.1
   (s.1,s.2.1,s.2.2.1,r.2 && s.2.2.2)
  else(6,v,nxt v,true)
 else
  let r:=az c (nxt v)
  (r.1,v,r.2,true)
theorem pL(k:Nat)(v:List UInt8):am (k+1) v=dd k (skip wsB v):=rfl
def NTa (sb rc:Nat)(c:Int)(a:Act):Prop:=a={ tmps:=#[.pointer (some ⟨sb,0,none⟩),a.tmps.getD 1 undef,.pointer (some ⟨rc,0,none⟩),.int .i32 c,a.tmps.getD 4 undef,a.tmps.getD 5 undef,a.tmps.getD 6 undef,a.tmps.getD 7 undef,a.tmps.getD 8 undef,a.tmps.getD 9 undef,a.tmps.getD 10 undef,a.tmps.getD 11 undef,a.tmps.getD 12 undef,a.tmps.getD 13 undef,a.tmps.getD 14 undef,a.tmps.getD 15 undef,a.tmps.getD 16 undef,a.tmps.getD 17 undef,a.tmps.getD 18 undef,a.tmps.getD 19 undef,a.tmps.getD 20 undef,a.tmps.getD 21 undef,a.tmps.getD 22 undef,a.tmps.getD 23 undef,a.tmps.getD 24 undef,a.tmps.getD 25 undef,a.tmps.getD 26 undef,a.tmps.getD 27 undef,a.tmps.getD 28 undef,a.tmps.getD 29 undef,a.tmps.getD 30 undef,a.tmps.getD 31 undef,a.tmps.getD 32 undef,a.tmps.getD 33 undef,a.tmps.getD 34 undef,a.tmps.getD 35 undef,a.tmps.getD 36 undef,a.tmps.getD 37 undef,a.tmps.getD 38 undef,a.tmps.getD 39 undef,a.tmps.getD 40 undef,a.tmps.getD 41 undef,a.tmps.getD 42 undef,a.tmps.getD 43 undef,a.tmps.getD 44 undef,a.tmps.getD 45 undef,a.tmps.getD 46 undef,a.tmps.getD 47 undef,a.tmps.getD 48 undef,a.tmps.getD 49 undef,a.tmps.getD 50 undef,a.tmps.getD 51 undef,a.tmps.getD 52 undef,a.tmps.getD 53 undef,a.tmps.getD 54 undef,a.tmps.getD 55 undef,a.tmps.getD 56 undef,a.tmps.getD 57 undef,a.tmps.getD 58 undef,a.tmps.getD 59 undef,a.tmps.getD 60 undef,a.tmps.getD 61 undef,a.tmps.getD 62 undef,a.tmps.getD 63 undef,a.tmps.getD 64 undef,a.tmps.getD 65 undef,a.tmps.getD 66 undef,a.tmps.getD 67 undef,a.tmps.getD 68 undef,a.tmps.getD 69 undef,a.tmps.getD 70 undef,a.tmps.getD 71 undef,a.tmps.getD 72 undef,a.tmps.getD 73 undef,a.tmps.getD 74 undef,a.tmps.getD 75 undef,a.tmps.getD 76 undef,a.tmps.getD 77 undef,a.tmps.getD 78 undef,a.tmps.getD 79 undef,a.tmps.getD 80 undef,a.tmps.getD 81 undef,a.tmps.getD 82 undef,a.tmps.getD 83 undef,a.tmps.getD 84 undef,a.tmps.getD 85 undef,a.tmps.getD 86 undef,a.tmps.getD 87 undef,a.tmps.getD 88 undef,a.tmps.getD 89 undef,a.tmps.getD 90 undef,a.tmps.getD 91 undef,a.tmps.getD 92 undef,a.tmps.getD 93 undef,a.tmps.getD 94 undef,a.tmps.getD 95 undef,a.tmps.getD 96 undef,a.tmps.getD 97 undef,a.tmps.getD 98 undef,a.tmps.getD 99 undef,a.tmps.getD 100 undef,a.tmps.getD 101 undef,a.tmps.getD 102 undef,a.tmps.getD 103 undef,a.tmps.getD 104 undef,a.tmps.getD 105 undef,a.tmps.getD 106 undef,a.tmps.getD 107 undef,a.tmps.getD 108 undef,a.tmps.getD 109 undef,a.tmps.getD 110 undef,a.tmps.getD 111 undef,a.tmps.getD 112 undef,a.tmps.getD 113 undef,a.tmps.getD 114 undef,a.tmps.getD 115 undef,a.tmps.getD 116 undef,a.tmps.getD 117 undef,a.tmps.getD 118 undef,a.tmps.getD 119 undef,a.tmps.getD 120 undef,a.tmps.getD 121 undef,a.tmps.getD 122 undef,a.tmps.getD 123 undef,a.tmps.getD 124 undef,a.tmps.getD 125 undef,a.tmps.getD 126 undef,a.tmps.getD 127 undef,a.tmps.getD 128 undef,a.tmps.getD 129 undef,a.tmps.getD 130 undef,a.tmps.getD 131 undef,a.tmps.getD 132 undef,a.tmps.getD 133 undef,a.tmps.getD 134 undef,a.tmps.getD 135 undef,a.tmps.getD 136 undef,a.tmps.getD 137 undef,a.tmps.getD 138 undef,a.tmps.getD 139 undef,a.tmps.getD 140 undef,a.tmps.getD 141 undef,a.tmps.getD 142 undef,a.tmps.getD 143 undef,a.tmps.getD 144 undef,a.tmps.getD 145 undef,a.tmps.getD 146 undef,a.tmps.getD 147 undef,a.tmps.getD 148 undef,a.tmps.getD 149 undef,a.tmps.getD 150 undef,a.tmps.getD 151 undef,a.tmps.getD 152 undef,a.tmps.getD 153 undef,a.tmps.getD 154 undef,a.tmps.getD 155 undef,a.tmps.getD 156 undef,a.tmps.getD 157 undef,a.tmps.getD 158 undef,a.tmps.getD 159 undef,a.tmps.getD 160 undef,a.tmps.getD 161 undef,a.tmps.getD 162 undef,a.tmps.getD 163 undef,a.tmps.getD 164 undef,a.tmps.getD 165 undef,a.tmps.getD 166 undef,a.tmps.getD 167 undef,a.tmps.getD 168 undef,a.tmps.getD 169 undef,a.tmps.getD 170 undef,a.tmps.getD 171 undef,a.tmps.getD 172 undef,a.tmps.getD 173 undef,a.tmps.getD 174 undef,a.tmps.getD 175 undef,a.tmps.getD 176 undef,a.tmps.getD 177 undef,a.tmps.getD 178 undef,a.tmps.getD 179 undef,a.tmps.getD 180 undef,a.tmps.getD 181 undef,a.tmps.getD 182 undef,a.tmps.getD 183 undef],defers:=[] }
def NTJ (w0:World)(V:Env)(v:List UInt8)(er:Bool)(rc:Nat)(r:Nat × List UInt8 × List UInt8 × Bool)(x:List UInt8)(w:World):Prop :=
 ∃ (er2:Bool) (kp:KP) (a0 a1 a2 a3 a4 a5:Value),Er v x true er er2/\Cu w V x none er2 kp/\FS V.B V.sb V.rb w0 w/\Blk w rc #[a0,a1,a2,a3,a4,a5] 95/\r=am (x.length+1) x
theorem nX(c:Int)(v:List UInt8):(az c v).1=5\/(az c v).1=6:=by
 unfold az
 repeat' split
 all_goals simp
theorem Cu.notok{w:World}{V:Env}{x:List UInt8}{tk:Option Nat}{er:Bool}{kp:KP}(h:Cu w V x tk er kp):Cu (w.setCell ⟨V.sb,1036,none⟩ (.int .i64 (-1))) V x none er kp:=by
 obtain⟨hs,f,⟨hS,hR,hI,hP⟩,hlc,hch⟩:=h
 have hfr:Fr (fun k=>k=V.sb) w (w.setCell ⟨V.sb,1036,none⟩ (.int .i64 (-1))):=(Fr.refl _ w).set (.inl rfl)
 exact⟨hs,_,⟨hS.stp (-1),hR.sb hfr hP.ne,⟨hI.pe,hI.e1,hI.len,hI.buf,hI.sen,hI.q,hI.mp,hI.er,rfl⟩,hP.fs (FS.sb hfr)⟩,hlc,hch⟩
theorem nb_no{L u:List UInt8}(hs:Suf L u)(hnb:NB L)(h1:chr u=47)(h2:chr (nxt u)=42):False:=by
 obtain⟨b,r,rfl,hb,hn⟩:=cB (c:=47) (by decide) h1
 rw[hn]at h2
 obtain⟨b2,r2,rfl,hb2,_⟩:=cB (c:=42) (by decide) h2
 have e1:b=47:=UInt8.toNat_inj.1 hb
 have e2:b2=42:=UInt8.toNat_inj.1 hb2
 subst e1 e2
 unfold Suf at hs
 exact hnb ⟨L.take (L.length - (47::42::r2:List UInt8).length),r2,by(conv=>lhs;rw[<- List.take_append_drop (L.length - (47::42::r2:List UInt8).length) L]);rw[<- hs]⟩
theorem kz(w wr:World)(B sb rb g cap:Nat)(L:List UInt8)(v u:List UInt8)(er er2:Bool)(kc l c:Int)(k rc:Nat)(J:Act->World->Prop)(a0 a1 a2 a3 a4 a5:Value)(r:Nat × List UInt8 × List UInt8 × Bool)
  (u1 u4 u5 u6 u7 u8 u9 u10 u11 u12 u13 u14 u15 u16 u17 u18 u19 u20 u21 u22 u23 u24 u25 u26 u27 u28 u29 u30 u31 u32 u33 u34 u35 u36 u37 u38 u39 u40 u41 u42 u43 u44 u45 u46 u47 u48 u49 u50 u51 u52 u53 u54 u55 u56 u57 u58 u59 u60 u61 u62 u63 u64 u65 u66 u67 u68 u69 u70 u71 u72 u73 u74 u75 u76 u77 u78 u79 u80 u81 u82 u83 u84 u85 u86 u87 u88 u89 u90 u91 u92 u93 u94 u95 u96 u97 u98 u99 u100 u101 u102 u103 u104 u105 u106 u107 u108 u109 u110 u111 u112 u113 u114 u115 u116 u117 u118 u119 u120 u121 u122 u123 u124 u125 u126 u127 u128 u129 u130 u131 u132 u133 u134 u135 u136 u137 u138 u139 u140 u141 u142 u143 u144 u145 u146 u147 u148 u149 u150 u151 u152 u153 u154 u155 u156 u157 u158 u159 u160 u161 u162 u163 u164 u165 u166 u167 u168 u169 u170 u171 u172 u173 u174 u175 u176 u177 u178 u179 u180 u181 u182 u183:Value)
  (HE:Hid (Er v u true er er2)) (HC:Hid (Cu wr ⟨B,sb,rb,g,cap,L⟩ u (some (L.length - u.length)) er2 (kc,((L.length - u.length:Nat):Int),l,c))) (HF:Hid (FS B sb rb w wr)) (HB:Hid (Blk wr rc #[a0,a1,a2,a3,a4,a5] 95)) (HR:Hid (rc ≠ sb/\rc ≠ rb/\w.heap.size<=rc/\B<=rc)) (hk:u.length<=k)
  (HQ:Hid (r=dd k u)) (HNB:Hid (NB L)) (HJ:Hid (∀ x a w',NTa sb rc (chr x) a->NTJ w ⟨B,sb,rb,g,cap,L⟩ v er rc r x w'->(nxt x).length < (nxt u).length->J a w')) (cx:Int) (hcx:cx=chr u) :
  Code.wp Tryz.prog mJ (Exit.jump 0 J (bodyPost Tryz.prog Tryz.f76 (NTq w ⟨B,sb,rb,g,cap,L⟩ v er r))) { tmps:=#[.pointer (some ⟨sb,0,none⟩),u1,.pointer (some ⟨rc,0,none⟩),.int .i32 cx,u4,u5,u6,u7,u8,u9,u10,u11,u12,u13,u14,u15,u16,u17,u18,u19,u20,u21,u22,u23,u24,u25,u26,u27,u28,u29,u30,u31,u32,u33,u34,u35,u36,u37,u38,u39,u40,u41,u42,u43,u44,u45,u46,u47,u48,u49,u50,u51,u52,u53,u54,u55,u56,u57,u58,u59,u60,u61,u62,u63,u64,u65,u66,u67,u68,u69,u70,u71,u72,u73,u74,u75,u76,u77,u78,u79,u80,u81,u82,u83,u84,u85,u86,u87,u88,u89,u90,u91,u92,u93,u94,u95,u96,u97,u98,u99,u100,u101,u102,u103,u104,u105,u106,u107,u108,u109,u110,u111,u112,u113,u114,u115,u116,u117,u118,u119,u120,u121,u122,u123,u124,u125,u126,u127,u128,u129,u130,u131,u132,u133,u134,u135,u136,u137,u138,u139,u140,u141,u142,u143,u144,u145,u146,u147,u148,u149,u150,u151,u152,u153,u154,u155,u156,u157,u158,u159,u160,u161,u162,u163,u164,u165,u166,u167,u168,u169,u170,u171,u172,u173,u174,u175,u176,u177,u178,u179,u180,u181,u182,u183],defers:=[] } wr:=by
 subst hcx
 have HU:=hqZ (show Suf L u from HC.out.1)
 have H0:=hqZ (Ran.start HC.out)
 obtain⟨c0,hc⟩:∃ c0,chr u=c0:=⟨_,rfl⟩
 rw[hc]
 have HCH:=hqZ hc
 have hlt:=(show sb < wr.heap.size from by obtain⟨_,f,⟨hS,_⟩,_⟩:=HC.out;exact hS.lt)
 conv=>arg 2;whnf
 go_upto_block 2 with fail
 rename_i K hK
 have HK:=hqZ hK
 clear hK
 by_cases h0:c0 = -1
 case pos =>
  subst h0
  have ER:=hqZ (show r=(0,u,u,true)from by rw[HQ.out];unfold dd;simp[HCH.out])
  go_wp2_with fail
  obtain⟨er3,g1,g2,g3⟩:=H0.out
  have HBW:=HB
  have HXU:=hqZ (Nat.le_refl u.length)
  exact HK.out _ _ (gJ w _ B sb rb g cap L v u u er er3 true _ l c 0 rc J _ _ _ _ _ _ r _ _ _ _ _ _ _ _ _ _ _ _ _ _ _ _ _ _ _ _ _ _ _ _ _ _ _ _ _ _ _ _ _ _ _ _ _ _ _ _ _ _ _ _ _ _ _ _ _ _ _ _ _ _ _ _ _ _ _ _ _ _ _ _ _ _ _ _ _ _ _ _ _ _ _ _ _ _ _ _ _ _ _ _ _ _ _ _ _ _ _ _ _ _ _ _ _ _ _ _ _ _ _ _ _ _ _ _ _ _ _ _ _ _ _ _ _ _ _ _ _ _ _ _ _ _ _ _ _ _ _ _ _ _ _ _ _ _ _ _ _ _ _ _ _ _ _ _ _ _ _ _ _ _ _ _ _ _ _ _ _ _ _ _ _ _ _ _ _ _ _ _ _ _ _ _ _ _ _ _ (hqZ ((HE.out.trans g1).as (Bool.true_and _))) (hqZ g2) (hqZ (HF.out.trans g3)) (hqZ HBW.out) HR HU HXU.out (by omega) (hqZ (by rw[ER.out];first|rfl|(rw[if_neg (by omega)])|(simp;done))) _ (by first|rfl|exact HCH.out.symm|exact HD.out.symm))
 by_cases h1:bh c0 true=true
 case pos =>
  have ER:=hqZ (show r=(if bW (u.take (u.length - (skip (bh · false) (nxt u)).length))=true then 3 else 1,u,skip (bh · false) (nxt u),true)from by
   rw[HQ.out];unfold dd;rw[HCH.out];simp only[if_neg h0,if_pos h1])
  go_wp2_with fail
  refine(dx _ c0 true).mono ?_
  rintro e w1 ⟨rfl,rfl⟩
  rw[h1]
  go_wp2_with fail
  refine(jU _ ⟨B,sb,rb,g,cap,L⟩ u _ er2 _ HC.out).mono ?_
  rintro e w2 ⟨rfl,er3,g1,g2,g3⟩
  have HXU:=hqZ (show(skip (bh · false) (nxt u)).length<=u.length from Nat.le_trans (aN (fv false) _ (nxt u) (Nat.le_refl _)).2.len (dV u))
  generalize skip (bh · false) (nxt u)=x at *
  have HBW:=hqZ (HB.out.fs g3 HR.out.1 HR.out.2.1 (by decide))
  have G1:=hqZ g1
  have G2:=hqZ g2
  have G3F:=hqZ g3
  clear g1 g2 g3
  go_wp2_with fail
  have g1:=G1.out
  have g2:=G2.out
  have g3:=G3F.out
  exact HK.out _ _ (gJ w _ B sb rb g cap L v u x er er3 true _ l c 1 rc J _ _ _ _ _ _ r _ _ _ _ _ _ _ _ _ _ _ _ _ _ _ _ _ _ _ _ _ _ _ _ _ _ _ _ _ _ _ _ _ _ _ _ _ _ _ _ _ _ _ _ _ _ _ _ _ _ _ _ _ _ _ _ _ _ _ _ _ _ _ _ _ _ _ _ _ _ _ _ _ _ _ _ _ _ _ _ _ _ _ _ _ _ _ _ _ _ _ _ _ _ _ _ _ _ _ _ _ _ _ _ _ _ _ _ _ _ _ _ _ _ _ _ _ _ _ _ _ _ _ _ _ _ _ _ _ _ _ _ _ _ _ _ _ _ _ _ _ _ _ _ _ _ _ _ _ _ _ _ _ _ _ _ _ _ _ _ _ _ _ _ _ _ _ _ _ _ _ _ _ _ _ _ _ _ _ _ (hqZ ((HE.out.trans g1).as (Bool.true_and _))) (hqZ g2) (hqZ (HF.out.trans g3)) (hqZ HBW.out) HR HU HXU.out (by omega) (hqZ (by rw[ER.out];first|rfl|(rw[if_neg (by omega)])|(simp;done))) _ (by first|rfl|exact HCH.out.symm|exact HD.out.symm))
 have h1:bh c0 true=false:=by simpa using h1
 by_cases h2:decB c0=true
 case pos =>
  have ER:=hqZ (show r=(2,u,skip decB u,true)from by rw[HQ.out];unfold dd;simp only[HCH.out,if_neg h0,h1,h2];simp)
  go_wp2_with fail
  refine(dx _ c0 true).mono ?_
  rintro e w1 ⟨rfl,rfl⟩
  rw[h1]
  go_wp2_with fail
  refine(ef _ c0).mono ?_
  rintro e w1 ⟨rfl,rfl⟩
  rw[h2]
  go_wp2_with fail
  have HSI:=mj w1 ⟨B,sb,rb,g,cap,L⟩ u _ er2 _ HC.out
  rw[HCH.out]at HSI
  refine HSI.mono ?_
  clear HSI
  rintro e w2 ⟨rfl,er3,g1,g2,g3⟩
  have HXU:=hqZ (show(skip decB u).length<=u.length from(aN iL _ u (Nat.le_refl _)).2.len)
  generalize skip decB u=x at *
  have HBW:=hqZ (HB.out.fs g3 HR.out.1 HR.out.2.1 (by decide))
  have G1:=hqZ g1
  have G2:=hqZ g2
  have G3F:=hqZ g3
  clear g1 g2 g3
  go_wp2_with fail
  have g1:=G1.out
  have g2:=G2.out
  have g3:=G3F.out
  exact HK.out _ _ (gJ w _ B sb rb g cap L v u x er er3 true _ l c 2 rc J _ _ _ _ _ _ r _ _ _ _ _ _ _ _ _ _ _ _ _ _ _ _ _ _ _ _ _ _ _ _ _ _ _ _ _ _ _ _ _ _ _ _ _ _ _ _ _ _ _ _ _ _ _ _ _ _ _ _ _ _ _ _ _ _ _ _ _ _ _ _ _ _ _ _ _ _ _ _ _ _ _ _ _ _ _ _ _ _ _ _ _ _ _ _ _ _ _ _ _ _ _ _ _ _ _ _ _ _ _ _ _ _ _ _ _ _ _ _ _ _ _ _ _ _ _ _ _ _ _ _ _ _ _ _ _ _ _ _ _ _ _ _ _ _ _ _ _ _ _ _ _ _ _ _ _ _ _ _ _ _ _ _ _ _ _ _ _ _ _ _ _ _ _ _ _ _ _ _ _ _ _ _ _ _ _ _ (hqZ ((HE.out.trans g1).as (Bool.true_and _))) (hqZ g2) (hqZ (HF.out.trans g3)) (hqZ HBW.out) HR HU HXU.out (by omega) (hqZ (by rw[ER.out];first|rfl|(rw[if_neg (by omega)])|(simp;done))) _ (by first|rfl|exact HCH.out.symm|exact HD.out.symm))
 have h2:decB c0=false:=by simpa using h2
 by_cases h3:c0=34
 case pos =>
  subst h3
  have ER:=hqZ (show r=(4,u,nxt (aI (u.length+1) (nxt u)).1,(aI (u.length+1) (nxt u)).2)from by rw[HQ.out];unfold dd;simp only[HCH.out,h1,h2];simp)
  go_wp2_with fail
  refine(dx _ 34 true).mono ?_
  rintro e w1 ⟨rfl,rfl⟩
  rw[h1]
  go_wp2_with fail
  refine(ef _ 34).mono ?_
  rintro e w1 ⟨rfl,rfl⟩
  rw[h2]
  go_wp2_with fail
  refine(mi _ ⟨B,sb,rb,g,cap,L⟩ u _ er2 _ HC.out).mono ?_
  rintro e w2 ⟨⟨z,rfl⟩,hr2⟩
  have HR2:=hqZ hr2
  clear hr2
  have HXU:=hqZ (show(nxt (aI (u.length+1) (nxt u)).1).length<=u.length from Nat.le_trans (dV _) (Nat.le_trans (de _ (nxt u)).len (dV u)))
  go_wp2_with fail
  refine(HR2.out.next).mono ?_
  rintro e w3 ⟨rfl,er3,g1,g2,g3⟩
  generalize nxt (aI (u.length+1) (nxt u)).1=x at *
  generalize (aI (u.length+1) (nxt u)).2=ok at *
  have HBW:=hqZ (HB.out.fs g3 HR.out.1 HR.out.2.1 (by decide))
  have G1:=hqZ g1
  have G2:=hqZ g2
  have G3F:=hqZ g3
  clear g1 g2 g3
  go_wp2_with fail
  have g1:=G1.out
  have g2:=G2.out
  have g3:=G3F.out
  exact HK.out _ _ (gJ w _ B sb rb g cap L v u x er er3 ok _ l c 4 rc J _ _ _ _ _ _ r _ _ _ _ _ _ _ _ _ _ _ _ _ _ _ _ _ _ _ _ _ _ _ _ _ _ _ _ _ _ _ _ _ _ _ _ _ _ _ _ _ _ _ _ _ _ _ _ _ _ _ _ _ _ _ _ _ _ _ _ _ _ _ _ _ _ _ _ _ _ _ _ _ _ _ _ _ _ _ _ _ _ _ _ _ _ _ _ _ _ _ _ _ _ _ _ _ _ _ _ _ _ _ _ _ _ _ _ _ _ _ _ _ _ _ _ _ _ _ _ _ _ _ _ _ _ _ _ _ _ _ _ _ _ _ _ _ _ _ _ _ _ _ _ _ _ _ _ _ _ _ _ _ _ _ _ _ _ _ _ _ _ _ _ _ _ _ _ _ _ _ _ _ _ _ _ _ _ _ _ (hqZ ((HE.out.trans g1).as (Bool.true_and _))) (hqZ g2) (hqZ (HF.out.trans g3)) (hqZ HBW.out) HR HU HXU.out (by omega) (hqZ (by rw[ER.out];first|rfl|(rw[if_neg (by omega)])|(simp;done))) _ (by first|rfl|exact HCH.out.symm|exact HD.out.symm))
 by_cases h4:c0=47
 case pos =>
  subst h4
  go_wp2_with fail
  refine(dx _ 47 true).mono ?_
  rintro e w1 ⟨rfl,rfl⟩
  rw[h1]
  go_wp2_with fail
  refine(ef _ 47).mono ?_
  rintro e w1 ⟨rfl,rfl⟩
  rw[h2]
  go_wp2_with fail
  refine(H0.out.next).mono ?_
  rintro e w2 ⟨rfl,er3,g1,g2,g3⟩
  have hn42:¬ chr (nxt u)=42:=fun h=>nb_no HU.out HNB.out HCH.out h
  obtain⟨d,hd⟩:∃ d,chr (nxt u)=d:=⟨_,rfl⟩
  rw[hd]at hn42 ⊢
  have HD:=hqZ hd
  by_cases hd47:d=47
  case pos =>
   subst hd47
   have ER:=hqZ (show r=am k (skip dW (nxt (nxt u)))from by rw[HQ.out];unfold dd;simp only[HCH.out,h1,h2,HD.out];simp;rfl)
   have hne:u ≠ []:=by intro h;have:=HCH.out;rw[h]at this;exact absurd this (by decide)
   have hne2:nxt u ≠ []:=by intro h;rw[h]at hd;exact absurd hd (by decide)
   have hl1:=bZ hne
   have hl2:=bZ hne2
   have hl3:=(aN fp _ (nxt (nxt u)) (Nat.le_refl _)).2.len
   have c36:∃ y,w2.cell? ⟨sb,1036,none⟩=some y:=by obtain⟨_,f,⟨hS,_⟩,_⟩:=g2;exact⟨_,hS.cell 1036 (by omega)⟩
   obtain⟨y36,c36⟩:=c36
   have z36:w2.frozen? ⟨sb,1036,none⟩=false:=by obtain⟨_,f,⟨hS,_⟩,_⟩:=g2;exact hS.free 1036
   have hlt2:sb < w2.heap.size:=Nat.lt_of_lt_of_le hlt g3.size
   have g2':=hqZ (Cu.notok g2)
   have g3':=hqZ (g3.set (b:=sb) (.inl rfl) 1036 (.int .i64 (-1)))
   have HE3:=hqZ ((HE.out.trans g1).as (Bool.true_and _))
   have HB3:=hqZ ((HB.out.fs g3 HR.out.1 HR.out.2.1 (by decide)).far (o:=1036) (u:=.int .i64 (-1)) HR.out.1)
   clear g1 g2 g3
   go_wp2_with fail
   refine(mq _ ⟨B,sb,rb,g,cap,L⟩ (nxt u) none er3 _ g2'.out).mono ?_
   rintro e w4 ⟨rfl,er4,k1,k2,k3⟩
   have HJ0:=hqZ (show NTJ w ⟨B,sb,rb,g,cap,L⟩ v er rc r (skip dW (nxt (nxt u))) w4 from⟨er4,_,a0,a1,a2,a3,a4,a5,(HE3.out.trans k1).as (Bool.true_and _),k2,(HF.out.trans g3'.out).trans k3,HB3.out.fs k3 HR.out.1 HR.out.2.1 (by decide),by rw[ER.out];exact gh _ _ _ (by omega) (by omega)⟩)
   clear k1 k2 k3
   go_wp2_with fail
   go_step3
   refine⟨rfl,HJ.out _ _ _ ?_ HJ0.out (by have:=dV (skip dW (nxt (nxt u)));omega)⟩
   exact rfl
  case neg =>
   have ER:=hqZ (show r=(6,u,nxt u,true)from by rw[HQ.out];unfold dd;simp only[HCH.out,h1,h2,HD.out,if_neg hd47,if_neg hn42];simp)
   have b47:(d == 47)=false:=by simp[hd47]
   have b42:(d == 42)=false:=by simp[hn42]
   have HOP:=je w2 ⟨B,sb,rb,g,cap,L⟩ (nxt u) _ er3 _ g2 47
   rw[HD.out,show az 47 (nxt u)=(6,nxt u)from by unfold az;simp]at HOP
   have HE3:=hqZ (g1)
   have G3:=hqZ g3
   clear g1 g2 g3
   go_wp2_with fail
   refine HOP.mono ?_
   clear HOP
   rintro e w3 ⟨rfl,er4,k1,k2,k3⟩
   have HXU:=hqZ (dV u)
   have g1:Er u (nxt u) true er2 er4:=(HE3.out.trans k1).as (Bool.true_and _)
   have g3:=G3.out.trans k3
   have g2:=k2
   have HBW:=hqZ (HB.out.fs g3 HR.out.1 HR.out.2.1 (by decide))
   have G1:=hqZ g1
   have G2:=hqZ g2
   have G3F:=hqZ g3
   clear g1 g2 g3
   go_wp2_with fail
   have g1:=G1.out
   have g2:=G2.out
   have g3:=G3F.out
   exact HK.out _ _ (gJ w _ B sb rb g cap L v u (nxt u) er er4 true _ l c 6 rc J _ _ _ _ _ _ r _ _ _ _ _ _ _ _ _ _ _ _ _ _ _ _ _ _ _ _ _ _ _ _ _ _ _ _ _ _ _ _ _ _ _ _ _ _ _ _ _ _ _ _ _ _ _ _ _ _ _ _ _ _ _ _ _ _ _ _ _ _ _ _ _ _ _ _ _ _ _ _ _ _ _ _ _ _ _ _ _ _ _ _ _ _ _ _ _ _ _ _ _ _ _ _ _ _ _ _ _ _ _ _ _ _ _ _ _ _ _ _ _ _ _ _ _ _ _ _ _ _ _ _ _ _ _ _ _ _ _ _ _ _ _ _ _ _ _ _ _ _ _ _ _ _ _ _ _ _ _ _ _ _ _ _ _ _ _ _ _ _ _ _ _ _ _ _ _ _ _ _ _ _ _ _ _ _ _ _ (hqZ ((HE.out.trans g1).as (Bool.true_and _))) (hqZ g2) (hqZ (HF.out.trans g3)) (hqZ HBW.out) HR HU HXU.out (by omega) (hqZ (by rw[ER.out];first|rfl|(rw[if_neg (by omega)])|(simp;done))) _ (by first|rfl|exact HCH.out.symm|exact HD.out.symm))
 have ER:=hqZ (show r=((az c0 (nxt u)).1,u,(az c0 (nxt u)).2,true)from by rw[HQ.out];unfold dd;simp only[HCH.out,if_neg h0,h1,h2,if_neg h3,if_neg h4];simp)
 go_wp2_with fail
 refine(dx _ c0 true).mono ?_
 rintro e w1 ⟨rfl,rfl⟩
 rw[h1]
 go_wp2_with fail
 refine(ef _ c0).mono ?_
 rintro e w1 ⟨rfl,rfl⟩
 rw[h2]
 go_wp2_with fail
 refine(H0.out.next).mono ?_
 rintro e w2 ⟨rfl,er3,g1,g2,g3⟩
 have HOP:=hqZ (je w2 ⟨B,sb,rb,g,cap,L⟩ (nxt u) _ er3 _ g2 c0)
 have HE3:=hqZ (g1)
 have G3:=hqZ g3
 clear g1 g2 g3
 go_wp2_with fail
 refine HOP.out.mono ?_
 clear HOP
 rintro e w3 ⟨rfl,er4,k1,k2,k3⟩
 have hkd:=nX c0 (nxt u)
 have HXU:=hqZ (Nat.le_trans (ly c0 (nxt u)).len (dV u))
 generalize (az c0 (nxt u)).2=x at *
 generalize (az c0 (nxt u)).1=kd at *
 have g1:Er u x true er2 er4:=(HE3.out.trans k1).as (Bool.true_and _)
 have g3:=G3.out.trans k3
 have g2:=k2
 have HBW:=hqZ (HB.out.fs g3 HR.out.1 HR.out.2.1 (by decide))
 have G1:=hqZ g1
 have G2:=hqZ g2
 have G3F:=hqZ g3
 clear g1 g2 g3
 go_wp2_with fail
 have g1:=G1.out
 have g2:=G2.out
 have g3:=G3F.out
 exact HK.out _ _ (gJ w _ B sb rb g cap L v u x er er4 true _ l c kd rc J _ _ _ _ _ _ r _ _ _ _ _ _ _ _ _ _ _ _ _ _ _ _ _ _ _ _ _ _ _ _ _ _ _ _ _ _ _ _ _ _ _ _ _ _ _ _ _ _ _ _ _ _ _ _ _ _ _ _ _ _ _ _ _ _ _ _ _ _ _ _ _ _ _ _ _ _ _ _ _ _ _ _ _ _ _ _ _ _ _ _ _ _ _ _ _ _ _ _ _ _ _ _ _ _ _ _ _ _ _ _ _ _ _ _ _ _ _ _ _ _ _ _ _ _ _ _ _ _ _ _ _ _ _ _ _ _ _ _ _ _ _ _ _ _ _ _ _ _ _ _ _ _ _ _ _ _ _ _ _ _ _ _ _ _ _ _ _ _ _ _ _ _ _ _ _ _ _ _ _ _ _ _ _ _ _ _ (hqZ ((HE.out.trans g1).as (Bool.true_and _))) (hqZ g2) (hqZ (HF.out.trans g3)) (hqZ HBW.out) HR HU HXU.out (by omega) (hqZ (by rw[ER.out];first|rfl|(rw[if_neg (by omega)])|(simp;done))) _ (by first|rfl|exact HCH.out.symm|exact HD.out.symm))
theorem fj:wsB (-1)=false:=by decide
theorem mh(u:List UInt8):(nxt (skip wsB u)).length<=(nxt u).length/\(skip wsB u).length<=u.length:=by
 refine⟨?_,(aN fj _ u (Nat.le_refl _)).2.len⟩
 rw[bP fj]
 by_cases h:wsB (chr u)=true
 .rw[if_pos h]
  exact Nat.le_trans (dV _) (aN fj _ (nxt u) (Nat.le_refl _)).2.len
 .rw[if_neg h];exact Nat.le_refl _
theorem Cu.begun{w w1:World}{B sb rb g cap:Nat}{L y:List UInt8}{f:SF}{er:Bool}{l c:Int}(hsy:Suf L y)(hR:Rd w rb g cap L.length (f.off+f.e))(hI:SI L f (L.length - y.length+clen y) (clen y) none er)(hP:Pl w ⟨B,sb,rb,g,cap,L⟩)(hlc:f.lc=clen y)(hfr:Fr (fun k=>k=sb) w w1)
  (hS:Scn w1 B sb rb { f with tok:=[],tp:=((f.p - clen y:Nat):Int),po:=((L.length - y.length:Nat):Int),pl:=l,pc:=c }):Cu w1 ⟨B,sb,rb,g,cap,L⟩ y (some (L.length - y.length)) er (f.ch,((L.length - y.length:Nat):Int),l,c):=by
 have hmp:=hI.mp
 have hq:=hI.q
 have hyl:=hsy.len
 refine⟨hsy,_,⟨hS,hR.sb hfr hP.ne,⟨hI.pe,hI.e1,hI.len,hI.buf,hI.sen,hI.q,hI.mp,hI.er,⟨f.p - clen y,rfl,?_,?_,?_⟩⟩,hP.fs (FS.sb hfr)⟩,hlc,rfl⟩
 .show f.p - clen y+clen y<=f.p;omega
 .show L.length - y.length<=f.off+(f.p - clen y);omega
 .show([]:List UInt8)=(L.drop (L.length - y.length)).take (f.off+(f.p - clen y) - (L.length - y.length))
  rw[show f.off+(f.p - clen y) - (L.length - y.length)=0 from by omega];rfl
theorem iJ(w wr:World)(B sb rb g cap:Nat)(L:List UInt8)(v u:List UInt8)(er:Bool)(rc:Nat)(J:Act->World->Prop)(r:Nat × List UInt8 × List UInt8 × Bool)
  (u1 u4 u5 u6 u7 u8 u9 u10 u11 u12 u13 u14 u15 u16 u17 u18 u19 u20 u21 u22 u23 u24 u25 u26 u27 u28 u29 u30 u31 u32 u33 u34 u35 u36 u37 u38 u39 u40 u41 u42 u43 u44 u45 u46 u47 u48 u49 u50 u51 u52 u53 u54 u55 u56 u57 u58 u59 u60 u61 u62 u63 u64 u65 u66 u67 u68 u69 u70 u71 u72 u73 u74 u75 u76 u77 u78 u79 u80 u81 u82 u83 u84 u85 u86 u87 u88 u89 u90 u91 u92 u93 u94 u95 u96 u97 u98 u99 u100 u101 u102 u103 u104 u105 u106 u107 u108 u109 u110 u111 u112 u113 u114 u115 u116 u117 u118 u119 u120 u121 u122 u123 u124 u125 u126 u127 u128 u129 u130 u131 u132 u133 u134 u135 u136 u137 u138 u139 u140 u141 u142 u143 u144 u145 u146 u147 u148 u149 u150 u151 u152 u153 u154 u155 u156 u157 u158 u159 u160 u161 u162 u163 u164 u165 u166 u167 u168 u169 u170 u171 u172 u173 u174 u175 u176 u177 u178 u179 u180 u181 u182 u183:Value)
  (HS:Hid (NTJ w ⟨B,sb,rb,g,cap,L⟩ v er rc r u wr)) (HR:Hid (rc ≠ sb/\rc ≠ rb/\w.heap.size<=rc/\B<=rc)) (HNB:Hid (NB L)) (HJ:Hid (∀ x a w',NTa sb rc (chr x) a->NTJ w ⟨B,sb,rb,g,cap,L⟩ v er rc r x w'->(nxt x).length < (nxt u).length->J a w')) (cx:Int) (hcx:cx=chr u) :
  Code.wp Tryz.prog rk (Exit.jump 0 J (bodyPost Tryz.prog Tryz.f76 (NTq w ⟨B,sb,rb,g,cap,L⟩ v er r))) { tmps:=#[.pointer (some ⟨sb,0,none⟩),u1,.pointer (some ⟨rc,0,none⟩),.int .i32 cx,u4,u5,u6,u7,u8,u9,u10,u11,u12,u13,u14,u15,u16,u17,u18,u19,u20,u21,u22,u23,u24,u25,u26,u27,u28,u29,u30,u31,u32,u33,u34,u35,u36,u37,u38,u39,u40,u41,u42,u43,u44,u45,u46,u47,u48,u49,u50,u51,u52,u53,u54,u55,u56,u57,u58,u59,u60,u61,u62,u63,u64,u65,u66,u67,u68,u69,u70,u71,u72,u73,u74,u75,u76,u77,u78,u79,u80,u81,u82,u83,u84,u85,u86,u87,u88,u89,u90,u91,u92,u93,u94,u95,u96,u97,u98,u99,u100,u101,u102,u103,u104,u105,u106,u107,u108,u109,u110,u111,u112,u113,u114,u115,u116,u117,u118,u119,u120,u121,u122,u123,u124,u125,u126,u127,u128,u129,u130,u131,u132,u133,u134,u135,u136,u137,u138,u139,u140,u141,u142,u143,u144,u145,u146,u147,u148,u149,u150,u151,u152,u153,u154,u155,u156,u157,u158,u159,u160,u161,u162,u163,u164,u165,u166,u167,u168,u169,u170,u171,u172,u173,u174,u175,u176,u177,u178,u179,u180,u181,u182,u183],defers:=[] } wr:=by
 subst hcx
 obtain⟨er2,kp,a0,a1,a2,a3,a4,a5,hE,hC,hF,hB,hr⟩:=HS.out
 have H0:=hqZ (Ran.start hC)
 have HE:=hqZ hE
 have HF:=hqZ hF
 have HB:=hqZ hB
 have HQ:=hqZ hr
 clear hE hC hF hB hr HS
 conv=>arg 2;whnf
 go_wp2_with fail
 go_loopg [3] (u.length+1) (fun k sl wq=>∃ y,sl = .int .i32 (chr y)/\Ran wr ⟨B,sb,rb,g,cap,L⟩ u none er2 kp y true wq/\skip wsB u=skip wsB y/\y.length < k)
 case atStart=>exact⟨u,rfl,H0.out,rfl,Nat.lt_succ_self _⟩
 case round =>
  obtain⟨y,rfl,h2,hs,hk⟩:=hrel
  have H2:=hqZ h2
  have HS:=hqZ hs
  clear h2 hs H0
  obtain⟨cy,hcy⟩:∃ c,c=chr y:=⟨_,rfl⟩
  rw[<- hcy]
  have HYX:=hqZ hcy
  clear hcy
  go_wp2_with fail
  refine(ry _ cy).mono ?_
  rintro e w2 ⟨rfl,rfl⟩
  cases hq:wsB cy
  case true =>
   have hq2:wsB (chr y)=true:=by rw[<- HYX.out];exact hq
   go_wp2_with fail
   refine(H2.out.next).mono ?_
   rintro e w3 ⟨rfl,h3⟩
   have HN:=hqZ h3
   clear h3
   go_wp2_with fail
   go_roundg (gk - 1)
   case measure=>omega
   case rel=>exact⟨nxt y,rfl,HN.out,by rw[HS.out,bP fj,if_pos hq2],by have:=lA (p:=wsB) fj hq2;omega⟩
  case false =>
   have hq2:wsB (chr y)=false:=by rw[<- HYX.out];exact hq
   have hyu:skip wsB u=y:=by rw[HS.out,bj fj hq2]
   obtain⟨er3,g1,⟨hsy,f,⟨hS,hRd,hI,hP⟩,hlc,hkp⟩,g3⟩:=H2.out
   change Scn w2 B sb rb f at hS
   change Rd w2 rb g cap L.length (f.off+f.e)at hRd
   change SI L f _ _ _ _ at hI
   change Suf L y at hsy
   have hmp:=hI.mp
   have hp1:=hI.pe
   have hp2:=hI.e1
   have hp3:=hI.len
   have hqq:=hI.q
   have hyl:=hsy.len
   have hl9:L.length<=90000:=hP.l9
   have HSC:=hqZ hS
   have HE3:=hqZ (show Er v y true er er3 from(HE.out.trans g1).as (Bool.true_and _))
   have HYU:=hqZ (show y.length<=u.length from by rw[<- hyu];exact(mh u).2)
   have HQ3:=hqZ (show r=dd u.length y from by rw[HQ.out,pL,hyu])
   have HJ3:=hqZ (show ∀ x a w',NTa sb rc (chr x) a->NTJ w ⟨B,sb,rb,g,cap,L⟩ v er rc r x w'->(nxt x).length < (nxt y).length->J a w' from fun x a w' h1 h2 h3=>HJ.out x a w' h1 h2 (Nat.lt_of_lt_of_le h3 (by rw[<- hyu];exact(mh u).1)))
   have HF3:=hqZ (HF.out.trans g3)
   have HB3:=hqZ (HB.out.fs g3 HR.out.1 HR.out.2.1 (by decide))
   have HR3:=hqZ hRd
   have HP3:=hqZ hP
   have HI:=hqZ hI
   have HLC:=hqZ hlc
   have HSY:=hqZ hsy
   have hmp':clen y<=f.p:=hmp
   have hqq':f.off+f.p=L.length - y.length+clen y:=hqq
   clear hS hRd hI hP hlc hkp hsy hmp hqq g1 g3 HE HF HB HQ HJ hyu H2 HS
   obtain⟨cl,hcl⟩:∃ n,n=clen y:=⟨_,rfl⟩
   have HCL:=hqZ hcl
   rw[<- hcl]at hmp' hqq'
   clear hcl
   go_wp2_with fail
   refine(pO w2 B sb rb f HSC.out).mono ?_
   rintro e w3 ⟨rfl,hs3,hf3⟩
   have HS8:=hqZ hs3
   have HR8:=hqZ (HR3.out.sb hf3 HP3.out.ne)
   have HP8:=hqZ (HP3.out.fs (FS.sb hf3))
   have HF8:=hqZ (HF3.out.trans (FS.sb hf3))
   have HB8:=hqZ (HB3.out.next hf3 HR.out.1)
   have c26:w3.cell? ⟨sb,1026,none⟩=some (.int .i64 f.p):=hs3.cell 1026 (by omega)
   have c28:w3.cell? ⟨sb,1028,none⟩=some (.int .i64 f.off):=hs3.cell 1028 (by omega)
   have c32:w3.cell? ⟨sb,1032,none⟩=some (.int .i64 cl):=by rw[HCL.out,<- HLC.out];exact hs3.cell 1032 (by omega)
   have c29:w3.cell? ⟨sb,1029,none⟩=some (.int .i64 f.ln):=hs3.cell 1029 (by omega)
   have c30:w3.cell? ⟨sb,1030,none⟩=some (.int .i64 f.col):=hs3.cell 1030 (by omega)
   have c31:w3.cell? ⟨sb,1031,none⟩=some (.int .i64 f.ll):=hs3.cell 1031 (by omega)
   have c36:w3.cell? ⟨sb,1036,none⟩=some (.int .i64 f.tp):=hs3.cell 1036 (by omega)
   have c41:w3.cell? ⟨sb,1041,none⟩=some (.int .i64 f.po):=hs3.cell 1041 (by omega)
   have c42:w3.cell? ⟨sb,1042,none⟩=some (.int .i64 f.pl):=hs3.cell 1042 (by omega)
   have c43:w3.cell? ⟨sb,1043,none⟩=some (.int .i64 f.pc):=hs3.cell 1043 (by omega)
   have z36:=hs3.free 1036
   have z41:=hs3.free 1041
   have z42:=hs3.free 1042
   have z43:=hs3.free 1043
   have hlt3:=hs3.lt
   have hw1:IntKind.i64.wrap ((f.p:Int) - (cl:Int))=((f.p - cl:Nat):Int):=(IntWalk.i64_in _ (by omega)).trans (by omega)
   have hw2:IntKind.i64.wrap ((f.off:Int)+((f.p - cl:Nat):Int))=((L.length - y.length:Nat):Int):=(IntWalk.i64_in _ (by omega)).trans (by omega)
   clear hs3 hf3 HR3 HP3 HF3 HB3 HSC
   go_wp2_with fail
   go_still_tail 12,(by kernel_rfl)
   change wpList _ _ _ _ _ w3.drew
   go_wp2_with fail
   have hf4:Fr (fun k=>k=sb) w3 (w3.setCell ⟨sb,1036,none⟩ (.int .i64 ((f.p - cl:Nat):Int))).drew:=((Fr.refl (fun k=>k=sb) w3).set (.inl rfl)).drew
   have HS8:=hqZ (show Scn (w3.setCell ⟨sb,1036,none⟩ (.int .i64 ((f.p - cl:Nat):Int))).drew B sb rb _ from HS8.out.stp ((f.p - cl:Nat):Int))
   have HR8:=hqZ (HR8.out.sb hf4 HP8.out.ne)
   have HP8:=hqZ (HP8.out.fs (FS.sb hf4))
   have HF8:=hqZ (HF8.out.trans (FS.sb hf4))
   have HB8:=hqZ (HB8.out.next hf4 HR.out.1)
   clear hf4 c26 c28 c32 c29 c30 c31 c36 c41 c42 c43 z36 z41 z42 z43 hlt3 hw1
   generalize (w3.setCell ⟨sb,1036,none⟩ (.int .i64 ((f.p - cl:Nat):Int))).drew=w4 at *
   have c28:w4.cell? ⟨sb,1028,none⟩=some (.int .i64 f.off):=HS8.out.cell 1028 (by omega)
   have c36:w4.cell? ⟨sb,1036,none⟩=some (.int .i64 ((f.p - cl:Nat):Int)):=HS8.out.cell 1036 (by omega)
   have c41:w4.cell? ⟨sb,1041,none⟩=some (.int .i64 f.po):=HS8.out.cell 1041 (by omega)
   have z41:=HS8.out.free 1041
   have hlt4:=HS8.out.lt
   go_still_tail 13,(by kernel_rfl)
   change wpList _ _ _ _ _ w4.drew
   go_upto_region 11 with fail
   rename_i K hK K2 hK2
   have HK:=hqZ hK
   clear hK
   have hf5:Fr (fun k=>k=sb) w4 (w4.setCell ⟨sb,1041,none⟩ (.int .i64 ((L.length - y.length:Nat):Int))).drew:=((Fr.refl (fun k=>k=sb) w4).set (.inl rfl)).drew
   have HS8:=hqZ (show Scn (w4.setCell ⟨sb,1041,none⟩ (.int .i64 ((L.length - y.length:Nat):Int))).drew B sb rb _ from HS8.out.spo ((L.length - y.length:Nat):Int))
   have HR8:=hqZ (HR8.out.sb hf5 HP8.out.ne)
   have HP8:=hqZ (HP8.out.fs (FS.sb hf5))
   have HF8:=hqZ (HF8.out.trans (FS.sb hf5))
   have HB8:=hqZ (HB8.out.next hf5 HR.out.1)
   clear hf5 c28 c36 c41 z41 hlt4 hw2
   generalize (w4.setCell ⟨sb,1041,none⟩ (.int .i64 ((L.length - y.length:Nat):Int))).drew=w5 at *
   have c29:w5.cell? ⟨sb,1029,none⟩=some (.int .i64 f.ln):=HS8.out.cell 1029 (by omega)
   have c30:w5.cell? ⟨sb,1030,none⟩=some (.int .i64 f.col):=HS8.out.cell 1030 (by omega)
   have c31:w5.cell? ⟨sb,1031,none⟩=some (.int .i64 f.ll):=HS8.out.cell 1031 (by omega)
   have c42:w5.cell? ⟨sb,1042,none⟩=some (.int .i64 f.pl):=HS8.out.cell 1042 (by omega)
   have c43:w5.cell? ⟨sb,1043,none⟩=some (.int .i64 f.pc):=HS8.out.cell 1043 (by omega)
   have z42:=HS8.out.free 1042
   have z43:=HS8.out.free 1043
   have hlt5:=HS8.out.lt
   have HI2:=hqZ HI.out
   by_cases hcol:0 < f.col
   case pos =>
    go_wp2_with fail
    have hf6:Fr (fun k=>k=sb) w5 ((w5.setCell ⟨sb,1042,none⟩ (.int .i64 f.ln)).setCell ⟨sb,1043,none⟩ (.int .i64 f.col)):=((Fr.refl (fun k=>k=sb) w5).set (.inl rfl)).set (.inl rfl)
    have HC9:=hqZ (Cu.begun HSY.out HR8.out HI2.out HP8.out HLC.out hf6 (show Scn ((w5.setCell ⟨sb,1042,none⟩ (.int .i64 f.ln)).setCell ⟨sb,1043,none⟩ (.int .i64 f.col)) B sb rb _ from by rw[<- HCL.out];exact(HS8.out.spl f.ln).spc f.col))
    have HF9:=hqZ (HF8.out.trans (FS.sb hf6))
    have HB9:=hqZ (HB8.out.next hf6 HR.out.1)
    exact HK.out _ _ (kz w _ B sb rb g cap L v y er er3 f.ch _ _ u.length rc J a0 a1 a2 a3 a4 a5 r _ _ _ _ _ _ _ _ _ _ _ _ _ _ _ _ _ _ _ _ _ _ _ _ _ _ _ _ _ _ _ _ _ _ _ _ _ _ _ _ _ _ _ _ _ _ _ _ _ _ _ _ _ _ _ _ _ _ _ _ _ _ _ _ _ _ _ _ _ _ _ _ _ _ _ _ _ _ _ _ _ _ _ _ _ _ _ _ _ _ _ _ _ _ _ _ _ _ _ _ _ _ _ _ _ _ _ _ _ _ _ _ _ _ _ _ _ _ _ _ _ _ _ _ _ _ _ _ _ _ _ _ _ _ _ _ _ _ _ _ _ _ _ _ _ _ _ _ _ _ _ _ _ _ _ _ _ _ _ _ _ _ _ _ _ _ _ _ _ _ _ _ _ _ _ _ _ _ _ _ _ HE3 HC9 HF9 HB9 HR HYU.out HQ3 HNB HJ3 _ HYX.out)
   case neg =>
    go_wp2_with fail
    have hf6:Fr (fun k=>k=sb) w5 ((w5.setCell ⟨sb,1042,none⟩ (.int .i64 (wrap64 (f.ln - 1)))).setCell ⟨sb,1043,none⟩ (.int .i64 f.ll)):=((Fr.refl (fun k=>k=sb) w5).set (.inl rfl)).set (.inl rfl)
    have HC9:=hqZ (Cu.begun HSY.out HR8.out HI2.out HP8.out HLC.out hf6 (show Scn ((w5.setCell ⟨sb,1042,none⟩ (.int .i64 (wrap64 (f.ln - 1)))).setCell ⟨sb,1043,none⟩ (.int .i64 f.ll)) B sb rb _ from by rw[<- HCL.out];exact(HS8.out.spl (wrap64 (f.ln - 1))).spc f.ll))
    have HF9:=hqZ (HF8.out.trans (FS.sb hf6))
    have HB9:=hqZ (HB8.out.next hf6 HR.out.1)
    exact HK.out _ _ (kz w _ B sb rb g cap L v y er er3 f.ch _ _ u.length rc J a0 a1 a2 a3 a4 a5 r _ _ _ _ _ _ _ _ _ _ _ _ _ _ _ _ _ _ _ _ _ _ _ _ _ _ _ _ _ _ _ _ _ _ _ _ _ _ _ _ _ _ _ _ _ _ _ _ _ _ _ _ _ _ _ _ _ _ _ _ _ _ _ _ _ _ _ _ _ _ _ _ _ _ _ _ _ _ _ _ _ _ _ _ _ _ _ _ _ _ _ _ _ _ _ _ _ _ _ _ _ _ _ _ _ _ _ _ _ _ _ _ _ _ _ _ _ _ _ _ _ _ _ _ _ _ _ _ _ _ _ _ _ _ _ _ _ _ _ _ _ _ _ _ _ _ _ _ _ _ _ _ _ _ _ _ _ _ _ _ _ _ _ _ _ _ _ _ _ _ _ _ _ _ _ _ _ _ _ _ _ HE3 HC9 HF9 HB9 HR HYU.out HQ3 HNB HJ3 _ HYX.out)
end Go.Proofs.YtbdhlpeckennjaaGreatDoor
