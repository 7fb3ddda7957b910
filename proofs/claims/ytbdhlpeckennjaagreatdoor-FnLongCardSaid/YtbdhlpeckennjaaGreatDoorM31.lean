/- FnLong (the proof that the law returns true for every input), part 31 of 52; the last part says what is proved, and its condition. -/
import Derived.Test.YtbdhlpeckennjaaGreatDoorM30
set_option linter.unusedVariables false
set_option linter.unusedSimpArgs false
set_option maxHeartbeats 80000000
set_option maxRecDepth 1000000
namespace Go.Proofs.YtbdhlpeckennjaaGreatDoor
open Go Go.RowKit
def fstC:Code->Code
 | .seq a _=>a
 | c=>c
def thnC:Code->Code
 | .cond _ a _=>a
 | c=>c
noncomputable def rm:Code:=sndC (thnC (sndC (fstC (sndC (sndC (Tryz.f104.body.getD .skip))))))
theorem pT(w wc:World)(B sb rb g cap q:Nat)(l:List UInt8)(tk:Option Nat)(er:Bool)(ch:KP)(f:SF)(K:Act->World->Prop)(u1 u2 u3 u5 u6 u7 u8 u9 u10 u11 u12 u13 u14 u15 u16 u17 u18 u19 u20 u21 u22 u23 u24 u25 u26 u27 u28 u29 u30 u31 u32 u33 u34 u35 u36 u37 u38 u39 u40 u41 u42 u43 u44 u45 u46 u47 u48 u49 u50 u51 u52 u53 u54 u55 u56 u57 u58 u59 u60 u61 u62 u63 u64 u65 u66 u67 u68 u69 u70 u71 u72 u73 u74 u75 u76 u77 u78 u79 u80 u81 u82 u83 u84 u85 u86 u87 u88 u89 u90 u91 u92 u93 u94 u95 u96 u97 u98 u99 u100 u101 u102 u103 u104 u105 u106 u107 u108 u109 u110 u111 u112 u113 u114 u115 u116 u117 u118 u119 u120 u121 u122 u123 u124 u125 u126 u127 u128 u129 u130 u131 u132 u133 u134 u135 u136 u137 u138 u139 u140 u141 u142 u143 u144 u145 u146 u147 u148 u149 u150 u151 u152 u153 u154 u155 u156 u157 u158 u159 u160 u161 u162 u163 u164 u165 u166 u167 u168 u169 u170 u171 u172 u173 u174 u175 u176 u177 u178 u179 u180 u181 u182 u183 u184 u185 u186 u187 u188 u189 u190 u191 u192 u193 u194 u195 u196 u197 u198 u199 u200 u201 u202 u203 u204 u205 u206 u207 u208 u209 u210 u211 u212 u213 u214 u215 u216 u217 u218 u219 u220 u221 u222 u223 u224 u225 u226 u227 u228 u229 u230 u231 u232 u233 u234 u235 u236 u237 u238 u239 u240 u241 u242 u243 u244 u245 u246 u247 u248 u249 u250 u251 u252 u253 u254 u255 u256 u257 u258 u259 u260 u261 u262 u263 u264 u265 u266 u267:Value)
  (HK:Hid (∀ a w',Code.wp Tryz.prog mL (bodyPost Tryz.prog Tryz.f104 (NX w ⟨B,sb,rb,g,cap,l⟩ q tk er ch)) a w'->K a w'))
  (HF:Hid (FS B sb rb w wc)) (HS1:Hid (Scn wc B sb rb f)) (HR1:Hid (Rd wc rb g cap l.length (f.off+f.e))) (HP1:Hid (Pl wc ⟨B,sb,rb,g,cap,l⟩)) (HI:Hid (SI l f q 0 tk er))
  (HFULL:Hid (chr (l.drop q)=chr (seg f f.p f.e)/\clen (l.drop q)=clen (seg f f.p f.e)/\l.drop q ≠ [])) (HC:Hid (f.kp=ch)) (hpe:f.p < f.e) (hp1:f.p<=f.e) (hp2:f.e<=1024) (hp3:f.off+f.e<=l.length) (hl9:l.length<=90000) :
  Code.wp Tryz.prog rm (Exit.then K (bodyPost Tryz.prog Tryz.f104 (NX w ⟨B,sb,rb,g,cap,l⟩ q tk er ch))) { tmps:=#[.pointer (some ⟨sb,0,none⟩),u1,u2,u3,.int .i64 1,u5,u6,u7,u8,u9,u10,u11,u12,u13,u14,u15,u16,u17,u18,u19,u20,u21,u22,u23,u24,u25,u26,u27,u28,u29,u30,u31,u32,u33,u34,u35,u36,u37,u38,u39,u40,u41,u42,u43,u44,u45,u46,u47,u48,u49,u50,u51,u52,u53,u54,u55,u56,u57,u58,u59,u60,u61,u62,u63,u64,u65,u66,u67,u68,u69,u70,u71,u72,u73,u74,u75,u76,u77,u78,u79,u80,u81,u82,u83,u84,u85,u86,u87,u88,u89,u90,u91,u92,u93,u94,u95,u96,u97,u98,u99,u100,u101,u102,u103,u104,u105,u106,u107,u108,u109,u110,u111,u112,u113,u114,u115,u116,u117,u118,u119,u120,u121,u122,u123,u124,u125,u126,u127,u128,u129,u130,u131,u132,u133,u134,u135,u136,u137,u138,u139,u140,u141,u142,u143,u144,u145,u146,u147,u148,u149,u150,u151,u152,u153,u154,u155,u156,u157,u158,u159,u160,u161,u162,u163,u164,u165,u166,u167,u168,u169,u170,u171,u172,u173,u174,u175,u176,u177,u178,u179,u180,u181,u182,u183,u184,u185,u186,u187,u188,u189,u190,u191,u192,u193,u194,u195,u196,u197,u198,u199,u200,u201,u202,u203,u204,u205,u206,u207,u208,u209,u210,u211,u212,u213,u214,u215,u216,u217,u218,u219,u220,u221,u222,u223,u224,u225,u226,u227,u228,u229,u230,u231,u232,u233,u234,u235,u236,u237,u238,u239,u240,u241,u242,u243,u244,u245,u246,u247,u248,u249,u250,u251,u252,u253,u254,u255,u256,u257,u258,u259,u260,u261,u262,u263,u264,u265,u266,u267],defers:=[] } wc:=by
 have hlt:=HS1.out.lt
 conv=>arg 2;whnf
 go_wp2_with fail
 have hA:seg f f.p f.e ≠ []:=by rw[lb hpe];simp
 have c26:wc.cell? ⟨sb,1026,none⟩=some (.int .i64 (f.p:Nat)):=HS1.out.cell 1026 (by omega)
 have c27:wc.cell? ⟨sb,1027,none⟩=some (.int .i64 (f.e:Nat)):=HS1.out.cell 1027 (by omega)
 have cb:wc.cell? ⟨sb,1+f.p,none⟩=some (.int .u8 (f.buf f.p).toNat):=HS1.out.byte f.p (by omega)
 obtain⟨b1,hb1⟩:∃ b,b=(f.buf f.p).toNat:=⟨_,rfl⟩
 rw[<- hb1]at cb
 have hb256':b1 < 256:=by rw[hb1];exact UInt8.toNat_lt _
 have HB1:=hqZ hb1
 have hlb':(f.p:Int) < 1025:=by omega
 clear hb1
 by_cases hasc:b1 < 128
 case pos =>
  have hasc':¬ (128:Int)<=(b1:Int):=by omega
  have HQ:=hqZ (show chr (l.drop q)=(b1:Nat)/\clen (l.drop q)=1/\l.drop q ≠ []from by
   obtain⟨a1,a2,a3⟩:=aK (seg f (f.p+1) f.e) (by rw[<- HB1.out];exact hasc:(f.buf f.p).toNat < 128)
   rw[<- lb hpe]at a1 a2
   exact⟨by rw[HFULL.out.1,a1,<- HB1.out],by rw[HFULL.out.2.1,a2],HFULL.out.2.2⟩)
  have HN:=hqZ HQ.out.2.1
  have HC0:=hqZ HQ.out.1
  have HBD:=hqZ (jJ HQ.out.2.2 HQ.out.1 hasc)
  have hpe:f.p+1<=f.e:=hpe
  clear HQ
  go_quiet (fail)
  have HF:=hqZ (HF.out.drewN nq)
  have HS1:=hqZ (HS1.out.new (Fr.r.drewN nq))
  have HR1:=hqZ (HR1.out.new (Fr.r.drewN nq))
  have HP1:=hqZ (HP1.out.next (Fr.r.drewN nq))
  clear c26 cb c27
  generalize wc.drewN nq=wr at *
  go_wp2_with fail
  refine HK.out _ _ (gK w _ B sb rb g cap q l tk er ch f b1 1 _ _ _ _ _ _ _ _ _ _ _ _ _ _ _ _ _ _ _ _ _ _ _ _ _ _ _ _ _ _ _ _ _ _ _ _ _ _ _ _ _ _ _ _ _ _ _ _ _ _ _ _ _ _ _ _ _ _ _ _ _ _ _ _ _ _ _ _ _ _ _ _ _ _ _ _ _ _ _ _ _ _ _ _ _ _ _ _ _ _ _ _ _ _ _ _ _ _ _ _ _ _ _ _ _ _ _ _ _ _ _ _ _ _ _ _ _ _ _ _ _ _ _ _ _ _ _ _ _ _ _ _ _ _ _ _ _ _ _ _ _ _ _ _ _ _ _ _ _ _ _ _ _ _ _ _ _ _ _ _ _ _ _ _ _ _ _ _ _ _ _ _ _ _ _ _ _ _ _ _ _ _ _ _ _ _ _ _ _ _ _ _ _ _ _ _ _ _ _ _ _ _ _ _ _ _ _ _ _ _ _ _ _ _ _ _ _ _ _ _ _ _ _ _ _ _ _ _ _ _ _ _ _ _ _ _ _ _ _ _ _ _ _ _ _ _ _ _ _ _ _ _ _ _ _ _ _ _ _ _ _ _ _ _ _ HF HS1 HR1 HP1 HI HN HC0 HC hpe HBD hp1 hp2 hp3 hl9 (by omega))
 have hasc':(128:Int)<=(b1:Int):=by omega
 go_quiet (fail)
 go_upto_region 24 with fail
 have HF:=hqZ (HF.out.drewN nq)
 have HS1:=hqZ (HS1.out.new (Fr.r.drewN nq))
 have HR1:=hqZ (HR1.out.new (Fr.r.drewN nq))
 have HP1:=hqZ (HP1.out.next (Fr.r.drewN nq))
 clear c26 cb c27 HB1
 generalize wc.drewN nq=wg at *
 have c26:wg.cell? ⟨sb,1026,none⟩=some (.int .i64 (f.p:Nat)):=HS1.out.cell 1026 (by omega)
 have c27:wg.cell? ⟨sb,1027,none⟩=some (.int .i64 (f.e:Nat)):=HS1.out.cell 1027 (by omega)
 have hs1:(f.p:Int)<=(f.e:Int):=by omega
 have hs2:(f.e:Int)<=1025:=by omega
 have hs3:f.e<=1025:=by omega
 have hs4:¬ 1025=f.p:=by omega
 have HD:=hqZ (pd wg.drew B sb rb _ (HS1.out.new ((Fr.refl _ wg).drew)) f.p f.e (1025 - f.p) ((HP1.out.next ((Fr.refl _ wg).drew)).gl) hpe (by omega))
 go_cut [3,4] (fun s3 s4 wy=>s3 = .int .i32 ((dec (seg f f.p f.e)).1:Nat)/\s4 = .int .i64 ((dec (seg f f.p f.e)).2:Nat)/\New wg wy)
 case first =>
  have HNw:=hqZ ((Fr.refl (fun _=>False) wg).drew)
  go_region_with (refine HD.out.mono ?_;rintro e w7 ⟨rfl,k1⟩;have K1:=hqZ k1;clear k1)
  all_goals
   go_wp2_with fail
   go_meet
   exact⟨rfl,rfl,HNw.out.trans K1.out⟩
 case rest =>
  obtain⟨rfl,rfl,hnew⟩:=hcut
  have HF:=hqZ (HF.out.trans (FS.new hnew))
  have HS1:=hqZ (HS1.out.new hnew)
  have HR1:=hqZ (HR1.out.new hnew)
  have HP1:=hqZ (HP1.out.next (.ofNew hnew))
  clear hnew c26 c27 hs1 hs2 hs3 hs4 HD
  obtain⟨c,hc⟩:∃ c,c=(dec (seg f f.p f.e)).1:=⟨_,rfl⟩
  obtain⟨n,hn⟩:∃ c,c=(dec (seg f f.p f.e)).2:=⟨_,rfl⟩
  have HC0:=hqZ (show chr (l.drop q)=(c:Nat)from by rw[HFULL.out.1,dX hA,hc])
  have HN:=hqZ (show clen (l.drop q)=n from by rw[HFULL.out.2.1,cV hA,hn])
  have HNE:=hqZ HFULL.out.2.2
  have hn4:=dJ hA
  rw[cV hA,<- hn,dN]at hn4
  have hcm:c<=1114111:=by rw[hc,<- rO _ hA];exact(dR _).2
  rw[<- hc,<- hn]
  clear hc hn
  have hpn:f.p+n<=f.e:=by omega
  have hpe:=hpn
  generalize wc=wr at *
  by_cases hbad:c=65533/\n=1
  case pos =>
   obtain⟨rfl,rfl⟩:=hbad
   have c26:wr.cell? ⟨sb,1026,none⟩=some (.int .i64 (f.p:Nat)):=HS1.out.cell 1026 (by omega)
   have c30:wr.cell? ⟨sb,1030,none⟩=some (.int .i64 f.col):=HS1.out.cell 1030 (by omega)
   have c32:wr.cell? ⟨sb,1032,none⟩=some (.int .i64 (f.lc:Nat)):=HS1.out.cell 1032 (by omega)
   have z26:=HS1.out.free 1026
   have z30:=HS1.out.free 1030
   have z32:=HS1.out.free 1032
   have hw1:IntKind.i64.wrap ((f.p:Int)+((1:Nat):Int))=((f.p+1:Nat):Int):=(IntWalk.i64_in _ (by omega)).trans (by push_cast;rfl)
   go_wp2_with fail
   refine(fx _ B sb rb _ (Scn.scol (Scn.slc (Scn.sp HS1.out (f.p+1) (by push_cast;rfl)) 1 (by push_cast;rfl)) _) _).mono ?_
   rintro e w9 ⟨rfl,⟨t,u,te,h9⟩,hf9⟩
   have H9:=hqZ (fP (q:=q) HF.out HR1.out HP1.out HI.out ((((Fr.refl (fun k=>k=sb) wr).set (.inl rfl)).set (.inl rfl) |>.set (.inl rfl)).trans hf9) h9 HN.out (HC0.out) hpe rfl rfl rfl rfl rfl rfl rfl HC.out (er2:=true) ⟨t,u,rfl⟩ (by rw[lL HNE.out,HC0.out,HN.out];simp))
   clear h9 hf9
   go_wp2
   go_ret
   exact H9.out
  case neg =>
   have HBD:=hqZ (show badc (l.drop q)=((c:Int) == 0)from by
    rw[lL HNE.out,HC0.out,HN.out]
    by_cases h1:c=65533
    .have h2:¬ n=1:=fun h=>hbad ⟨h1,h⟩
     simp[h2]
    .have:((c:Int) == 65533)=false:=by simp;omega
     rw[this,Bool.false_and,Bool.false_or])
   by_cases h65:c=65533
   case pos =>
    have h1:((n:Int) == 1)=false:=by simp;omega
    have h2:(((c:Nat):Int) == 65533)=true:=by simp;omega
    have hc0:¬ ((c:Nat):Int)=0:=by omega
    have h0:¬ c=0:=by omega
    have hc10:¬ ((c:Nat):Int)=10:=by omega
    go_wp2_with fail
    refine HK.out _ _ (gK w _ B sb rb g cap q l tk er ch f c n _ _ _ _ _ _ _ _ _ _ _ _ _ _ _ _ _ _ _ _ _ _ _ _ _ _ _ _ _ _ _ _ _ _ _ _ _ _ _ _ _ _ _ _ _ _ _ _ _ _ _ _ _ _ _ _ _ _ _ _ _ _ _ _ _ _ _ _ _ _ _ _ _ _ _ _ _ _ _ _ _ _ _ _ _ _ _ _ _ _ _ _ _ _ _ _ _ _ _ _ _ _ _ _ _ _ _ _ _ _ _ _ _ _ _ _ _ _ _ _ _ _ _ _ _ _ _ _ _ _ _ _ _ _ _ _ _ _ _ _ _ _ _ _ _ _ _ _ _ _ _ _ _ _ _ _ _ _ _ _ _ _ _ _ _ _ _ _ _ _ _ _ _ _ _ _ _ _ _ _ _ _ _ _ _ _ _ _ _ _ _ _ _ _ _ _ _ _ _ _ _ _ _ _ _ _ _ _ _ _ _ _ _ _ _ _ _ _ _ _ _ _ _ _ _ _ _ _ _ _ _ _ _ _ _ _ _ _ _ _ _ _ _ _ _ _ _ _ _ _ _ _ _ _ _ _ _ _ _ _ _ _ _ _ _ HF HS1 HR1 HP1 HI HN HC0 HC hpe HBD hp1 hp2 hp3 hl9 (by omega))
   case neg =>
    have h1:(((c:Nat):Int) == 65533)=false:=by simp;omega
    go_wp2_with fail
    refine HK.out _ _ (gK w _ B sb rb g cap q l tk er ch f c n _ _ _ _ _ _ _ _ _ _ _ _ _ _ _ _ _ _ _ _ _ _ _ _ _ _ _ _ _ _ _ _ _ _ _ _ _ _ _ _ _ _ _ _ _ _ _ _ _ _ _ _ _ _ _ _ _ _ _ _ _ _ _ _ _ _ _ _ _ _ _ _ _ _ _ _ _ _ _ _ _ _ _ _ _ _ _ _ _ _ _ _ _ _ _ _ _ _ _ _ _ _ _ _ _ _ _ _ _ _ _ _ _ _ _ _ _ _ _ _ _ _ _ _ _ _ _ _ _ _ _ _ _ _ _ _ _ _ _ _ _ _ _ _ _ _ _ _ _ _ _ _ _ _ _ _ _ _ _ _ _ _ _ _ _ _ _ _ _ _ _ _ _ _ _ _ _ _ _ _ _ _ _ _ _ _ _ _ _ _ _ _ _ _ _ _ _ _ _ _ _ _ _ _ _ _ _ _ _ _ _ _ _ _ _ _ _ _ _ _ _ _ _ _ _ _ _ _ _ _ _ _ _ _ _ _ _ _ _ _ _ _ _ _ _ _ _ _ _ _ _ _ _ _ _ _ _ _ _ _ _ _ _ _ _ HF HS1 HR1 HP1 HI HN HC0 HC hpe HBD hp1 hp2 hp3 hl9 (by omega))
end Go.Proofs.YtbdhlpeckennjaaGreatDoor
