/- FnLong (the proof that the law returns true for every input), part 36 of 52; the last part says what is proved, and its condition. -/
import Derived.ScopeJumps
import Derived.Test.YtbdhlpeckennjaaGreatDoorM26
import Derived.Test.YtbdhlpeckennjaaGreatDoorM33
import Derived.Test.YtbdhlpeckennjaaGreatDoorM35
set_option linter.unusedVariables false
set_option linter.unusedSimpArgs false
set_option maxHeartbeats 80000000
set_option maxRecDepth 1000000
namespace Go.Proofs.YtbdhlpeckennjaaGreatDoor
open Go Go.RowKit
def rT (w:World)(b o:Nat):Int:=match w.cell? ⟨b,o,none⟩with|some (.int _ n)=>n|_=>0
def muNT (V:Env)(w:World):Nat:=((V.l.length:Int) - (rT w V.sb 1028+rT w V.sb 1026)).toNat
theorem px{w:World}{V:Env}{x:List UInt8}{tk:Option Nat}{er:Bool}{kp:KP}(h:Cu w V x tk er kp):muNT V w=(nxt x).length:=by
 obtain⟨hs,f,⟨hS,hR,hI,hP⟩,hlc,hch⟩:=h
 have c26:w.cell? ⟨V.sb,1026,none⟩=some (.int .i64 f.p):=hS.cell 1026 (by omega)
 have c28:w.cell? ⟨V.sb,1028,none⟩=some (.int .i64 f.off):=hS.cell 1028 (by omega)
 have hq:=hI.q
 have hl:=hs.len
 have hc:=dS x
 unfold muNT rT
 rw[c26,c28,gt]
 simp only
 omega
theorem Cu.setCh{w:World}{V:Env}{x:List UInt8}{tk:Option Nat}{er:Bool}{kp:KP}(h:Cu w V x tk er kp)(c:Int):Cu (w.setCell ⟨V.sb,1038,none⟩ (.int .i32 c)) V x tk er (c,kp.2):=by
 obtain⟨hs,f,⟨hS,hR,hI,hP⟩,hlc,hch⟩:=h
 have hfr:Fr (fun k=>k=V.sb) w (w.setCell ⟨V.sb,1038,none⟩ (.int .i32 c)):=(Fr.refl _ w).set (.inl rfl)
 refine⟨hs,_,⟨hS.sch c,hR.sb hfr hP.ne,⟨hI.pe,hI.e1,hI.len,hI.buf,hI.sen,hI.q,hI.mp,hI.er,hI.tk⟩,hP.fs (FS.sb hfr)⟩,hlc,?_⟩
 rw[<- hch];rfl
theorem Cu.line0{w:World}{V:Env}{x:List UInt8}{er:Bool}{kp:KP}(h:Cu w V x none er kp):∃ kp2,Cu (w.setCell ⟨V.sb,1042,none⟩ (.int .i64 0)) V x none er kp2:=by
 obtain⟨hs,f,⟨hS,hR,hI,hP⟩,hlc,hch⟩:=h
 have hfr:Fr (fun k=>k=V.sb) w (w.setCell ⟨V.sb,1042,none⟩ (.int .i64 0)):=(Fr.refl _ w).set (.inl rfl)
 exact⟨_,hs,_,⟨hS.spl 0,hR.sb hfr hP.ne,⟨hI.pe,hI.e1,hI.len,hI.buf,hI.sen,hI.q,hI.mp,hI.er,hI.tk⟩,hP.fs (FS.sb hfr)⟩,hlc,rfl⟩
theorem jY(w:World)(B sb rb g cap:Nat)(L:List UInt8)(v:List UInt8)(tk:Option Nat)(er:Bool)(po l c:Int)(h:Cu w ⟨B,sb,rb,g,cap,L⟩ v tk er (chr v,po,l,c))(hnb:NB L) :
  Calls Tryz.prog 76 #[.pointer (some ⟨sb,0,none⟩)] w (NTq w ⟨B,sb,rb,g,cap,L⟩ v er (am (v.length+1) v)):=by
 obtain⟨rc,hrc⟩:∃ rc,rc=w.heap.size:=⟨_,rfl⟩
 obtain⟨r,hr⟩:∃ r,r=am (v.length+1) v:=⟨_,rfl⟩
 rw[<- hr]
 have HQ:=hqZ hr
 have HNB:=hqZ hnb
 have HC:=hqZ h
 have hcv:=(rS v).1
 have hR0:rc ≠ sb/\rc ≠ rb/\w.heap.size<=rc/\B<=rc:=by
  obtain⟨hs,f,⟨hS,hR,hI,hP⟩,hlc,hch⟩:=h
  have h1:sb < w.heap.size:=hS.lt
  have h2:rb < w.heap.size:=hP.rw
  have h3:B<=w.heap.size:=hP.Bw
  omega
 have HR:=hqZ hR0
 clear h hr hnb
 go_enter Tryz.func76,Tryz.ntmps76
 go_wp2_with fail
 rw[<- hrc]
 have HB0:=hqZ (show Blk (w.alloc (.cells #[.int .i64 0,.string ⟨#[]⟩,.int .i64 0,.int .i64 0,.int .i64 0,.string ⟨#[]⟩] 95)) rc #[.int .i64 0,.string ⟨#[]⟩,.int .i64 0,.int .i64 0,.int .i64 0,.string ⟨#[]⟩] 95 from Blk.at_ _ _ _ hrc)
 have HC:=hqZ (HC.out.new ((Fr.refl _ w).alloc (.cells #[.int .i64 0,.string ⟨#[]⟩,.int .i64 0,.int .i64 0,.int .i64 0,.string ⟨#[]⟩] 95)))
 have HF:=hqZ ((FS.refl (B:=B) (sb:=sb) (rb:=rb) (w:=w)).alloc (.cells #[.int .i64 0,.string ⟨#[]⟩,.int .i64 0,.int .i64 0,.int .i64 0,.string ⟨#[]⟩] 95))
 generalize w.alloc (.cells #[.int .i64 0,.string ⟨#[]⟩,.int .i64 0,.int .i64 0,.int .i64 0,.string ⟨#[]⟩] 95)=w1 at *
 clear hrc
 refine wp_scope_jumps 0 (fun a w'=>∃ x,NTa sb rc (chr x) a/\NTJ w ⟨B,sb,rb,g,cap,L⟩ v er rc r x w') (fun _ w'=>muNT ⟨B,sb,rb,g,cap,L⟩ w') rfl ?_ ?_
 case refine_2 =>
  rintro a w2 ⟨x,hN,hJ⟩
  have hmu:muNT ⟨B,sb,rb,g,cap,L⟩ w2=(nxt x).length:=by obtain⟨_,_,_,_,_,_,_,_,_,hC,_⟩:=hJ;exact px hC
  have hp:=iJ w w2 B sb rb g cap L v x er rc (fun a' w'=>(∃ x,NTa sb rc (chr x) a'/\NTJ w ⟨B,sb,rb,g,cap,L⟩ v er rc r x w')/\muNT ⟨B,sb,rb,g,cap,L⟩ w' < muNT ⟨B,sb,rb,g,cap,L⟩ w2) r (a.tmps.getD 1 undef) (a.tmps.getD 4 undef) (a.tmps.getD 5 undef) (a.tmps.getD 6 undef) (a.tmps.getD 7 undef) (a.tmps.getD 8 undef) (a.tmps.getD 9 undef) (a.tmps.getD 10 undef) (a.tmps.getD 11 undef) (a.tmps.getD 12 undef) (a.tmps.getD 13 undef) (a.tmps.getD 14 undef) (a.tmps.getD 15 undef) (a.tmps.getD 16 undef) (a.tmps.getD 17 undef) (a.tmps.getD 18 undef) (a.tmps.getD 19 undef) (a.tmps.getD 20 undef) (a.tmps.getD 21 undef) (a.tmps.getD 22 undef) (a.tmps.getD 23 undef) (a.tmps.getD 24 undef) (a.tmps.getD 25 undef) (a.tmps.getD 26 undef) (a.tmps.getD 27 undef) (a.tmps.getD 28 undef) (a.tmps.getD 29 undef) (a.tmps.getD 30 undef) (a.tmps.getD 31 undef) (a.tmps.getD 32 undef) (a.tmps.getD 33 undef) (a.tmps.getD 34 undef) (a.tmps.getD 35 undef) (a.tmps.getD 36 undef) (a.tmps.getD 37 undef) (a.tmps.getD 38 undef) (a.tmps.getD 39 undef) (a.tmps.getD 40 undef) (a.tmps.getD 41 undef) (a.tmps.getD 42 undef) (a.tmps.getD 43 undef) (a.tmps.getD 44 undef) (a.tmps.getD 45 undef) (a.tmps.getD 46 undef) (a.tmps.getD 47 undef) (a.tmps.getD 48 undef) (a.tmps.getD 49 undef) (a.tmps.getD 50 undef) (a.tmps.getD 51 undef) (a.tmps.getD 52 undef) (a.tmps.getD 53 undef) (a.tmps.getD 54 undef) (a.tmps.getD 55 undef) (a.tmps.getD 56 undef) (a.tmps.getD 57 undef) (a.tmps.getD 58 undef) (a.tmps.getD 59 undef) (a.tmps.getD 60 undef) (a.tmps.getD 61 undef) (a.tmps.getD 62 undef) (a.tmps.getD 63 undef) (a.tmps.getD 64 undef) (a.tmps.getD 65 undef) (a.tmps.getD 66 undef) (a.tmps.getD 67 undef) (a.tmps.getD 68 undef) (a.tmps.getD 69 undef) (a.tmps.getD 70 undef) (a.tmps.getD 71 undef) (a.tmps.getD 72 undef) (a.tmps.getD 73 undef) (a.tmps.getD 74 undef) (a.tmps.getD 75 undef) (a.tmps.getD 76 undef) (a.tmps.getD 77 undef) (a.tmps.getD 78 undef) (a.tmps.getD 79 undef) (a.tmps.getD 80 undef) (a.tmps.getD 81 undef) (a.tmps.getD 82 undef) (a.tmps.getD 83 undef) (a.tmps.getD 84 undef) (a.tmps.getD 85 undef) (a.tmps.getD 86 undef) (a.tmps.getD 87 undef) (a.tmps.getD 88 undef) (a.tmps.getD 89 undef) (a.tmps.getD 90 undef) (a.tmps.getD 91 undef) (a.tmps.getD 92 undef) (a.tmps.getD 93 undef) (a.tmps.getD 94 undef) (a.tmps.getD 95 undef) (a.tmps.getD 96 undef) (a.tmps.getD 97 undef) (a.tmps.getD 98 undef) (a.tmps.getD 99 undef) (a.tmps.getD 100 undef) (a.tmps.getD 101 undef) (a.tmps.getD 102 undef) (a.tmps.getD 103 undef) (a.tmps.getD 104 undef) (a.tmps.getD 105 undef) (a.tmps.getD 106 undef) (a.tmps.getD 107 undef) (a.tmps.getD 108 undef) (a.tmps.getD 109 undef) (a.tmps.getD 110 undef) (a.tmps.getD 111 undef) (a.tmps.getD 112 undef) (a.tmps.getD 113 undef) (a.tmps.getD 114 undef) (a.tmps.getD 115 undef) (a.tmps.getD 116 undef) (a.tmps.getD 117 undef) (a.tmps.getD 118 undef) (a.tmps.getD 119 undef) (a.tmps.getD 120 undef) (a.tmps.getD 121 undef) (a.tmps.getD 122 undef) (a.tmps.getD 123 undef) (a.tmps.getD 124 undef) (a.tmps.getD 125 undef) (a.tmps.getD 126 undef) (a.tmps.getD 127 undef) (a.tmps.getD 128 undef) (a.tmps.getD 129 undef) (a.tmps.getD 130 undef) (a.tmps.getD 131 undef) (a.tmps.getD 132 undef) (a.tmps.getD 133 undef) (a.tmps.getD 134 undef) (a.tmps.getD 135 undef) (a.tmps.getD 136 undef) (a.tmps.getD 137 undef) (a.tmps.getD 138 undef) (a.tmps.getD 139 undef) (a.tmps.getD 140 undef) (a.tmps.getD 141 undef) (a.tmps.getD 142 undef) (a.tmps.getD 143 undef) (a.tmps.getD 144 undef) (a.tmps.getD 145 undef) (a.tmps.getD 146 undef) (a.tmps.getD 147 undef) (a.tmps.getD 148 undef) (a.tmps.getD 149 undef) (a.tmps.getD 150 undef) (a.tmps.getD 151 undef) (a.tmps.getD 152 undef) (a.tmps.getD 153 undef) (a.tmps.getD 154 undef) (a.tmps.getD 155 undef) (a.tmps.getD 156 undef) (a.tmps.getD 157 undef) (a.tmps.getD 158 undef) (a.tmps.getD 159 undef) (a.tmps.getD 160 undef) (a.tmps.getD 161 undef) (a.tmps.getD 162 undef) (a.tmps.getD 163 undef) (a.tmps.getD 164 undef) (a.tmps.getD 165 undef) (a.tmps.getD 166 undef) (a.tmps.getD 167 undef) (a.tmps.getD 168 undef) (a.tmps.getD 169 undef) (a.tmps.getD 170 undef) (a.tmps.getD 171 undef) (a.tmps.getD 172 undef) (a.tmps.getD 173 undef) (a.tmps.getD 174 undef) (a.tmps.getD 175 undef) (a.tmps.getD 176 undef) (a.tmps.getD 177 undef) (a.tmps.getD 178 undef) (a.tmps.getD 179 undef) (a.tmps.getD 180 undef) (a.tmps.getD 181 undef) (a.tmps.getD 182 undef) (a.tmps.getD 183 undef) (hqZ hJ) HR HNB
   (hqZ fun y a' w' h1 h2 h3=>⟨⟨y,h1,h2⟩,by
    have hmu2:muNT ⟨B,sb,rb,g,cap,L⟩ w'=(nxt y).length:=by obtain⟨_,_,_,_,_,_,_,_,_,hC,_⟩:=h2;exact px hC
    rw[hmu,hmu2]
    exact h3⟩) _ rfl
  rw[hN]
  exact wp_seq (wp_skip hp)
 have c38:w1.cell? ⟨sb,1038,none⟩=some (.int .i32 (chr v)):=by
  obtain⟨hs,f,⟨hS,hR,hI,hP⟩,hlc,hch⟩:=HC.out
  have:f.ch=chr v:=congrArg (·.1) hch
  rw[<- this];exact hS.cell 1038 (by omega)
 have c36:∃ y,w1.cell? ⟨sb,1036,none⟩=some y:=by obtain⟨_,f,⟨hS,_⟩,_⟩:=HC.out;exact⟨_,hS.cell 1036 (by omega)⟩
 have c42:∃ y,w1.cell? ⟨sb,1042,none⟩=some y:=by obtain⟨_,f,⟨hS,_⟩,_⟩:=HC.out;exact⟨_,hS.cell 1042 (by omega)⟩
 obtain⟨y36,c36⟩:=c36
 obtain⟨y42,c42⟩:=c42
 have z36:w1.frozen? ⟨sb,1036,none⟩=false:=by obtain⟨_,f,⟨hS,_⟩,_⟩:=HC.out;exact hS.free 1036
 have z42:w1.frozen? ⟨sb,1042,none⟩=false:=by obtain⟨_,f,⟨hS,_⟩,_⟩:=HC.out;exact hS.free 1042
 have hlt:sb < w1.heap.size:=by obtain⟨_,f,⟨hS,_⟩,_⟩:=HC.out;exact hS.lt
 have hb2:(chr v == -2)=false:=by simp;omega
 go_wp2_with fail
 go_step3
 rename_i K1 hT1 K hK
 obtain⟨kp2,hC2⟩:=Cu.line0 (Cu.notok HC.out)
 exact hK _ _ (iJ w _ B sb rb g cap L v v er rc _ r _ _ _ _ _ _ _ _ _ _ _ _ _ _ _ _ _ _ _ _ _ _ _ _ _ _ _ _ _ _ _ _ _ _ _ _ _ _ _ _ _ _ _ _ _ _ _ _ _ _ _ _ _ _ _ _ _ _ _ _ _ _ _ _ _ _ _ _ _ _ _ _ _ _ _ _ _ _ _ _ _ _ _ _ _ _ _ _ _ _ _ _ _ _ _ _ _ _ _ _ _ _ _ _ _ _ _ _ _ _ _ _ _ _ _ _ _ _ _ _ _ _ _ _ _ _ _ _ _ _ _ _ _ _ _ _ _ _ _ _ _ _ _ _ _ _ _ _ _ _ _ _ _ _ _ _ _ _ _ _ _ _ _ _ _ _ _ _ _ _ _ _ _ _ _ _ _ _ _ _ _ (hqZ ⟨er,kp2,_,_,_,_,_,_,Er.refl _ _,hC2,(HF.out.set (.inl rfl) _ _).set (.inl rfl) _ _,((HB0.out.far HR.out.1).far HR.out.1),HQ.out⟩) HR HNB (hqZ fun y a' w' h1 h2 _=>⟨y,h1,h2⟩) _ rfl)
theorem it(w:World)(B sb rb g cap:Nat)(L:List UInt8)(er0:Bool)(po l c:Int)(h:St w ⟨B,sb,rb,g,cap,L⟩ 0 0 none er0 (-2,po,l,c))(hnb:NB L) :
  Calls Tryz.prog 76 #[.pointer (some ⟨sb,0,none⟩)] w (NTq w ⟨B,sb,rb,g,cap,L⟩ L (er0 || badc L) (am (L.length+1) L)):=by
 obtain⟨er,her⟩:∃ e,e=(er0 || badc L):=⟨_,rfl⟩
 rw[<- her]
 have HER:=hqZ her
 clear her
 obtain⟨rc,hrc⟩:∃ rc,rc=w.heap.size:=⟨_,rfl⟩
 obtain⟨r,hr⟩:∃ r,r=am (L.length+1) L:=⟨_,rfl⟩
 rw[<- hr]
 have HQ:=hqZ hr
 have HNB:=hqZ hnb
 have HC:=hqZ h
 have hR0:rc ≠ sb/\rc ≠ rb/\w.heap.size<=rc/\B<=rc:=by
  obtain⟨f,⟨hS,hR,hI,hP⟩,hlc,hch⟩:=h
  have h1:sb < w.heap.size:=hS.lt
  have h2:rb < w.heap.size:=hP.rw
  have h3:B<=w.heap.size:=hP.Bw
  omega
 have HR:=hqZ hR0
 clear h hr hnb
 go_enter Tryz.func76,Tryz.ntmps76
 go_wp2_with fail
 rw[<- hrc]
 have HB0:=hqZ (show Blk (w.alloc (.cells #[.int .i64 0,.string ⟨#[]⟩,.int .i64 0,.int .i64 0,.int .i64 0,.string ⟨#[]⟩] 95)) rc #[.int .i64 0,.string ⟨#[]⟩,.int .i64 0,.int .i64 0,.int .i64 0,.string ⟨#[]⟩] 95 from Blk.at_ _ _ _ hrc)
 have HC:=hqZ (HC.out.new ((Fr.refl _ w).alloc (.cells #[.int .i64 0,.string ⟨#[]⟩,.int .i64 0,.int .i64 0,.int .i64 0,.string ⟨#[]⟩] 95)))
 have HF:=hqZ ((FS.refl (B:=B) (sb:=sb) (rb:=rb) (w:=w)).alloc (.cells #[.int .i64 0,.string ⟨#[]⟩,.int .i64 0,.int .i64 0,.int .i64 0,.string ⟨#[]⟩] 95))
 generalize w.alloc (.cells #[.int .i64 0,.string ⟨#[]⟩,.int .i64 0,.int .i64 0,.int .i64 0,.string ⟨#[]⟩] 95)=w1 at *
 clear hrc
 refine wp_scope_jumps 0 (fun a w'=>∃ x,NTa sb rc (chr x) a/\NTJ w ⟨B,sb,rb,g,cap,L⟩ L er rc r x w') (fun _ w'=>muNT ⟨B,sb,rb,g,cap,L⟩ w') rfl ?_ ?_
 case refine_2 =>
  rintro a w2 ⟨x,hN,hJ⟩
  have hmu:muNT ⟨B,sb,rb,g,cap,L⟩ w2=(nxt x).length:=by obtain⟨_,_,_,_,_,_,_,_,_,hC,_⟩:=hJ;exact px hC
  have hp:=iJ w w2 B sb rb g cap L L x er rc (fun a' w'=>(∃ x,NTa sb rc (chr x) a'/\NTJ w ⟨B,sb,rb,g,cap,L⟩ L er rc r x w')/\muNT ⟨B,sb,rb,g,cap,L⟩ w' < muNT ⟨B,sb,rb,g,cap,L⟩ w2) r (a.tmps.getD 1 undef) (a.tmps.getD 4 undef) (a.tmps.getD 5 undef) (a.tmps.getD 6 undef) (a.tmps.getD 7 undef) (a.tmps.getD 8 undef) (a.tmps.getD 9 undef) (a.tmps.getD 10 undef) (a.tmps.getD 11 undef) (a.tmps.getD 12 undef) (a.tmps.getD 13 undef) (a.tmps.getD 14 undef) (a.tmps.getD 15 undef) (a.tmps.getD 16 undef) (a.tmps.getD 17 undef) (a.tmps.getD 18 undef) (a.tmps.getD 19 undef) (a.tmps.getD 20 undef) (a.tmps.getD 21 undef) (a.tmps.getD 22 undef) (a.tmps.getD 23 undef) (a.tmps.getD 24 undef) (a.tmps.getD 25 undef) (a.tmps.getD 26 undef) (a.tmps.getD 27 undef) (a.tmps.getD 28 undef) (a.tmps.getD 29 undef) (a.tmps.getD 30 undef) (a.tmps.getD 31 undef) (a.tmps.getD 32 undef) (a.tmps.getD 33 undef) (a.tmps.getD 34 undef) (a.tmps.getD 35 undef) (a.tmps.getD 36 undef) (a.tmps.getD 37 undef) (a.tmps.getD 38 undef) (a.tmps.getD 39 undef) (a.tmps.getD 40 undef) (a.tmps.getD 41 undef) (a.tmps.getD 42 undef) (a.tmps.getD 43 undef) (a.tmps.getD 44 undef) (a.tmps.getD 45 undef) (a.tmps.getD 46 undef) (a.tmps.getD 47 undef) (a.tmps.getD 48 undef) (a.tmps.getD 49 undef) (a.tmps.getD 50 undef) (a.tmps.getD 51 undef) (a.tmps.getD 52 undef) (a.tmps.getD 53 undef) (a.tmps.getD 54 undef) (a.tmps.getD 55 undef) (a.tmps.getD 56 undef) (a.tmps.getD 57 undef) (a.tmps.getD 58 undef) (a.tmps.getD 59 undef) (a.tmps.getD 60 undef) (a.tmps.getD 61 undef) (a.tmps.getD 62 undef) (a.tmps.getD 63 undef) (a.tmps.getD 64 undef) (a.tmps.getD 65 undef) (a.tmps.getD 66 undef) (a.tmps.getD 67 undef) (a.tmps.getD 68 undef) (a.tmps.getD 69 undef) (a.tmps.getD 70 undef) (a.tmps.getD 71 undef) (a.tmps.getD 72 undef) (a.tmps.getD 73 undef) (a.tmps.getD 74 undef) (a.tmps.getD 75 undef) (a.tmps.getD 76 undef) (a.tmps.getD 77 undef) (a.tmps.getD 78 undef) (a.tmps.getD 79 undef) (a.tmps.getD 80 undef) (a.tmps.getD 81 undef) (a.tmps.getD 82 undef) (a.tmps.getD 83 undef) (a.tmps.getD 84 undef) (a.tmps.getD 85 undef) (a.tmps.getD 86 undef) (a.tmps.getD 87 undef) (a.tmps.getD 88 undef) (a.tmps.getD 89 undef) (a.tmps.getD 90 undef) (a.tmps.getD 91 undef) (a.tmps.getD 92 undef) (a.tmps.getD 93 undef) (a.tmps.getD 94 undef) (a.tmps.getD 95 undef) (a.tmps.getD 96 undef) (a.tmps.getD 97 undef) (a.tmps.getD 98 undef) (a.tmps.getD 99 undef) (a.tmps.getD 100 undef) (a.tmps.getD 101 undef) (a.tmps.getD 102 undef) (a.tmps.getD 103 undef) (a.tmps.getD 104 undef) (a.tmps.getD 105 undef) (a.tmps.getD 106 undef) (a.tmps.getD 107 undef) (a.tmps.getD 108 undef) (a.tmps.getD 109 undef) (a.tmps.getD 110 undef) (a.tmps.getD 111 undef) (a.tmps.getD 112 undef) (a.tmps.getD 113 undef) (a.tmps.getD 114 undef) (a.tmps.getD 115 undef) (a.tmps.getD 116 undef) (a.tmps.getD 117 undef) (a.tmps.getD 118 undef) (a.tmps.getD 119 undef) (a.tmps.getD 120 undef) (a.tmps.getD 121 undef) (a.tmps.getD 122 undef) (a.tmps.getD 123 undef) (a.tmps.getD 124 undef) (a.tmps.getD 125 undef) (a.tmps.getD 126 undef) (a.tmps.getD 127 undef) (a.tmps.getD 128 undef) (a.tmps.getD 129 undef) (a.tmps.getD 130 undef) (a.tmps.getD 131 undef) (a.tmps.getD 132 undef) (a.tmps.getD 133 undef) (a.tmps.getD 134 undef) (a.tmps.getD 135 undef) (a.tmps.getD 136 undef) (a.tmps.getD 137 undef) (a.tmps.getD 138 undef) (a.tmps.getD 139 undef) (a.tmps.getD 140 undef) (a.tmps.getD 141 undef) (a.tmps.getD 142 undef) (a.tmps.getD 143 undef) (a.tmps.getD 144 undef) (a.tmps.getD 145 undef) (a.tmps.getD 146 undef) (a.tmps.getD 147 undef) (a.tmps.getD 148 undef) (a.tmps.getD 149 undef) (a.tmps.getD 150 undef) (a.tmps.getD 151 undef) (a.tmps.getD 152 undef) (a.tmps.getD 153 undef) (a.tmps.getD 154 undef) (a.tmps.getD 155 undef) (a.tmps.getD 156 undef) (a.tmps.getD 157 undef) (a.tmps.getD 158 undef) (a.tmps.getD 159 undef) (a.tmps.getD 160 undef) (a.tmps.getD 161 undef) (a.tmps.getD 162 undef) (a.tmps.getD 163 undef) (a.tmps.getD 164 undef) (a.tmps.getD 165 undef) (a.tmps.getD 166 undef) (a.tmps.getD 167 undef) (a.tmps.getD 168 undef) (a.tmps.getD 169 undef) (a.tmps.getD 170 undef) (a.tmps.getD 171 undef) (a.tmps.getD 172 undef) (a.tmps.getD 173 undef) (a.tmps.getD 174 undef) (a.tmps.getD 175 undef) (a.tmps.getD 176 undef) (a.tmps.getD 177 undef) (a.tmps.getD 178 undef) (a.tmps.getD 179 undef) (a.tmps.getD 180 undef) (a.tmps.getD 181 undef) (a.tmps.getD 182 undef) (a.tmps.getD 183 undef) (hqZ hJ) HR HNB
   (hqZ fun y a' w' h1 h2 h3=>⟨⟨y,h1,h2⟩,by
    have hmu2:muNT ⟨B,sb,rb,g,cap,L⟩ w'=(nxt y).length:=by obtain⟨_,_,_,_,_,_,_,_,_,hC,_⟩:=h2;exact px hC
    rw[hmu,hmu2]
    exact h3⟩) _ rfl
  rw[hN]
  exact wp_seq (wp_skip hp)
 have c38:w1.cell? ⟨sb,1038,none⟩=some (.int .i32 (-2)):=by
  obtain⟨f,⟨hS,hR,hI,hP⟩,hlc,hch⟩:=HC.out
  have:f.ch = -2:=congrArg (·.1) hch
  rw[<- this];exact hS.cell 1038 (by omega)
 have hlt:sb < w1.heap.size:=by obtain⟨f,⟨hS,_⟩,_⟩:=HC.out;exact hS.lt
 go_wp2_with fail
 have HNX:Calls Tryz.prog 104 #[.pointer (some ⟨sb,0,none⟩)] w1 (fun e w'=>e = .returned (.int .i32 (chr L))/\St w' ⟨B,sb,rb,g,cap,L⟩ (0+clen L) (clen L) none (er0 || badc L) (-2,po,l,c)/\FS B sb rb w1 w'):=mK w1 ⟨B,sb,rb,g,cap,L⟩ 0 0 none er0 _ HC.out
 refine HNX.mono ?_
 clear HNX
 rintro e w2 ⟨rfl,hst,hfs⟩
 have hC2:Cu w2 ⟨B,sb,rb,g,cap,L⟩ L none er (-2,po,l,c):=by
  refine⟨Suf.all L,?_⟩
  rw[HER.out]
  show St w2 _ (L.length - L.length+clen L) (clen L) none (er0 || badc L) _
  rw[Nat.sub_self]
  exact hst
 have HC:=hqZ hC2
 have HF:=hqZ (HF.out.trans hfs)
 have HB0:=hqZ (HB0.out.fs hfs HR.out.1 HR.out.2.1 (by decide))
 clear hst hfs hC2 c38
 obtain⟨y38,c38⟩:∃ y,w2.cell? ⟨sb,1038,none⟩=some y:=by obtain⟨_,f,⟨hS,_⟩,_⟩:=HC.out;exact⟨_,hS.cell 1038 (by omega)⟩
 obtain⟨y36,c36⟩:∃ y,w2.cell? ⟨sb,1036,none⟩=some y:=by obtain⟨_,f,⟨hS,_⟩,_⟩:=HC.out;exact⟨_,hS.cell 1036 (by omega)⟩
 obtain⟨y42,c42⟩:∃ y,w2.cell? ⟨sb,1042,none⟩=some y:=by obtain⟨_,f,⟨hS,_⟩,_⟩:=HC.out;exact⟨_,hS.cell 1042 (by omega)⟩
 have z36:w2.frozen? ⟨sb,1036,none⟩=false:=by obtain⟨_,f,⟨hS,_⟩,_⟩:=HC.out;exact hS.free 1036
 have z38:w2.frozen? ⟨sb,1038,none⟩=false:=by obtain⟨_,f,⟨hS,_⟩,_⟩:=HC.out;exact hS.free 1038
 have z42:w2.frozen? ⟨sb,1042,none⟩=false:=by obtain⟨_,f,⟨hS,_⟩,_⟩:=HC.out;exact hS.free 1042
 have hlt:sb < w2.heap.size:=by obtain⟨_,f,⟨hS,_⟩,_⟩:=HC.out;exact hS.lt
 go_wp2_with fail
 go_step3
 rename_i K hK
 obtain⟨kp2,hC2⟩:=Cu.line0 (Cu.notok (Cu.setCh HC.out (chr L)))
 exact hK _ _ (iJ w _ B sb rb g cap L L L er rc _ r _ _ _ _ _ _ _ _ _ _ _ _ _ _ _ _ _ _ _ _ _ _ _ _ _ _ _ _ _ _ _ _ _ _ _ _ _ _ _ _ _ _ _ _ _ _ _ _ _ _ _ _ _ _ _ _ _ _ _ _ _ _ _ _ _ _ _ _ _ _ _ _ _ _ _ _ _ _ _ _ _ _ _ _ _ _ _ _ _ _ _ _ _ _ _ _ _ _ _ _ _ _ _ _ _ _ _ _ _ _ _ _ _ _ _ _ _ _ _ _ _ _ _ _ _ _ _ _ _ _ _ _ _ _ _ _ _ _ _ _ _ _ _ _ _ _ _ _ _ _ _ _ _ _ _ _ _ _ _ _ _ _ _ _ _ _ _ _ _ _ _ _ _ _ _ _ _ _ _ _ _ (hqZ ⟨er,kp2,_,_,_,_,_,_,Er.refl _ _,hC2,(((HF.out.set (.inl rfl) _ _).set (.inl rfl) _ _).set (.inl rfl) _ _),(((HB0.out.far HR.out.1).far HR.out.1).far HR.out.1),HQ.out⟩) HR HNB (hqZ fun y a' w' h1 h2 _=>⟨y,h1,h2⟩) _ rfl)
end Go.Proofs.YtbdhlpeckennjaaGreatDoor
namespace Go.Proofs.YtbdhlpeckennjaaGreatDoor
open Go
def plc (L:List UInt8)(x:Tok × Nat):Tok × Nat:=(x.1,L.length - x.2)
structure LexI(L:List UInt8)(acc:List (Tok × Nat))(v:List UInt8)(er:Bool)(k:Nat):Prop where
 e0:er=false->AB L=AB (nxt v)
 e1:er=true->AB L=true
 lx:(co (L.length+1) L).map (·.map (plc L))=(co k v).map fun l=>acc++l.map (plc L)
 k:v.length < k
 n:acc.length+v.length<=L.length
 s:∀ x ∈ acc,x.1.text.size<=90000
theorem LexI.start(L:List UInt8):LexI L [] L (badc L) (L.length+1):=by
 have h:=pH L
 refine⟨fun e=>by rw[h,e,Bool.false_or],fun e=>by rw[h,e,Bool.true_or],by simp,by omega,by simp,by simp⟩
section
variable {L v:List UInt8} {acc:List (Tok × Nat)} {er:Bool} {k:Nat}
def tkAt (v:List UInt8):Nat × List UInt8 × List UInt8 × Bool:=am (v.length+1) v
def iX (L v:List UInt8):Tok × Nat:=(⟨(tkAt v).1,⟨((tkAt v).2.1.take ((tkAt v).2.1.length - (tkAt v).2.2.1.length)).toArray⟩⟩,L.length - (tkAt v).2.1.length)
theorem kE(L:List UInt8):ce L=if AB L then none else(co (L.length+1) L).map (·.map (plc L)):=rfl
theorem LexI.lex(h:LexI L acc v er k):(co (L.length+1) L).map (·.map (plc L)) =
  if(tkAt v).2.2.2=false then none else if(tkAt v).1=0 then some (acc ++ [plc L (⟨0,an⟩,(tkAt v).2.1.length)])else(co (k - 1) (tkAt v).2.2.1).map fun l=>(acc ++ [iX L v])++l.map (plc L):=by
 have hk:=h.k
 obtain⟨j,rfl⟩:∃ j,k=j+1:=⟨k - 1,by omega⟩
 rw[h.lx]
 show(co (j+1) v).map _=_
 rw[show co (j+1) v=(if(tkAt v).2.2.2=false then none else if(tkAt v).1=0 then some [(⟨0,an⟩,(tkAt v).2.1.length)]else(co j (tkAt v).2.2.1).map fun l=>(⟨(tkAt v).1,⟨((tkAt v).2.1.take ((tkAt v).2.1.length - (tkAt v).2.2.1.length)).toArray⟩⟩,(tkAt v).2.1.length)::l)from rfl]
 split
 .rfl
 .split
  .simp
  .rw[Nat.add_sub_cancel,Option.map_map]
   congr 1
   funext l
   simp only[Function.comp,List.map_cons,List.append_assoc,List.singleton_append]
   rfl
theorem LexI.bad(h:LexI L acc v er k)(hE:Er v (tkAt v).2.2.1 (tkAt v).2.2.2 er true):ce L=none:=by
 rw[kE]
 cases hA:AB L with
 | true=>rfl
 | false =>
  rw[if_neg (by simp)]
  rcases hE.2 rfl with e|e|e
  .rw[h.e1 e]at hA;cases hA
  .rw[h.lex,if_pos e]
  .cases her:er with
   | true=>rw[h.e1 her]at hA;cases hA
   | false=>rw[h.e0 her,e]at hA;cases hA
theorem LexI.fin(h:LexI L acc v er k)(hE:Er v (tkAt v).2.2.1 (tkAt v).2.2.2 er false)(h0:(tkAt v).1=0):ce L=some (acc ++ [(⟨0,an⟩,L.length - (tkAt v).2.1.length)])/\(tkAt v).2.1 = []:=by
 obtain⟨e1,e2,e3⟩:=hE.1 rfl
 have he:(tkAt v).2.1 = []:=pr (k:=v.length+1) (w:=v) (by omega) h0 e2
 have hr:(tkAt v).2.2.1 = []:=by
  have:=(cR (v.length+1) v).2.len
  change (tkAt v).2.2.1.length<=(tkAt v).2.1.length at this
  rw[he]at this
  exact List.length_eq_zero_iff.1 (Nat.le_zero.1 this)
 refine⟨?_,he⟩
 rw[kE,h.e0 e1,e3,hr,show AB (nxt [])=false from rfl,if_neg (by simp),h.lex,if_neg (by rw[e2];simp),if_pos h0]
 rfl
theorem LexI.step(h:LexI L acc v er k)(hL:L.length<=90000)(hE:Er v (tkAt v).2.2.1 (tkAt v).2.2.2 er false)(h0:¬ (tkAt v).1=0):LexI L (acc ++ [iX L v]) (tkAt v).2.2.1 false (k - 1):=by
 obtain⟨e1,e2,e3⟩:=hE.1 rfl
 have hk:=h.k
 have hn:=h.n
 have h1:(tkAt v).2.2.1.length < (tkAt v).2.1.length:=pq (k:=v.length+1) (w:=v) (by omega) h0
 have h2:(tkAt v).2.1.length<=v.length:=(cR (v.length+1) v).1.len
 refine⟨fun _=>by rw[h.e0 e1,e3],fun e=>(by cases e),by rw[h.lex,if_neg (by rw[e2];simp),if_neg h0],by omega,by rw[List.length_append,List.length_singleton];omega,fun x hx=>?_⟩
 rcases List.mem_append.1 hx with hx|hx
 .exact h.s x hx
 .rw[List.mem_singleton]at hx
  subst hx
  show((tkAt v).2.1.take _).toArray.size<=90000
  rw[List.size_toArray,List.length_take]
  omega
end
end Go.Proofs.YtbdhlpeckennjaaGreatDoor
