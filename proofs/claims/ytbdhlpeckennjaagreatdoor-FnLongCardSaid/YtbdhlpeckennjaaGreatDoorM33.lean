/- FnLong (the proof that the law returns true for every input), part 33 of 52; the last part says what is proved, and its condition. -/
import Derived.Shelf.Strings.Builder1
import Derived.Shelf.Small.Utf8
import Derived.Shelf.Strings.BuilderF
import Derived.Shelf.Strings.BuilderK
import Derived.Shelf.Strings.BuilderRune
import Derived.Shelf.Utf8.AppendRune
import Derived.Shelf.Utf8.AppendRunePlain
import Derived.Shelf.Strings.Prefix
import Derived.Shelf.Unicode.DecodeSlow
import Derived.Shelf.Unicode.DecodeAny
import Derived.Shelf.Slices.Turned
import Derived.Test.YtbdhlpeckennjaaGreatDoorProg
import Derived.Test.YtbdhlpeckennjaaGreatDoorM04
import Derived.Test.YtbdhlpeckennjaaGreatDoorM22
import Derived.Test.YtbdhlpeckennjaaGreatDoorM23
import Derived.Test.YtbdhlpeckennjaaGreatDoorM31
import Derived.Test.YtbdhlpeckennjaaGreatDoorM32
set_option linter.unusedVariables false
set_option linter.unusedSimpArgs false
set_option maxHeartbeats 80000000
set_option maxRecDepth 1000000
namespace Go.Proofs.YtbdhlpeckennjaaGreatDoor
open Go
def AB (v:List UInt8):Bool:=dK (v.length+1) v
theorem ig:∀ (k k':Nat) (v:List UInt8),v.length < k->v.length < k'->dK k v=dK k' v
 | 0,_,_,h,_=>by omega
 | _+1,0,_,_,h=>by omega
 | k+1,k'+1,v,h,h'=>by
  simp only[dK]
  by_cases hv:v = []
  .subst hv;simp
  .have:=bZ hv
   rw[ig k k' (nxt v) (by omega) (by omega)]
theorem pH(v:List UInt8):AB v=(badc v || AB (nxt v)):=by
 by_cases hv:v = []
 .subst hv;rfl
 .have hlt:=bZ hv
  unfold AB
  rw[show dK (v.length+1) v=(badc v ||(if v.isEmpty then false else dK v.length (nxt v)))from rfl]
  rw[show v.isEmpty=false from by cases v with|nil=>exact absurd rfl hv|cons a r=>rfl]
  rw[ig v.length ((nxt v).length+1) (nxt v) (by omega) (by omega)]
  rfl
def Er (v v2:List UInt8)(ok er er2:Bool):Prop :=
 (er2=false->er=false/\ok=true/\AB (nxt v)=AB (nxt v2))/\(er2=true->er=true\/ok=false\/AB (nxt v)=true)
theorem Er.refl(v:List UInt8)(er:Bool):Er v v true er er:=⟨fun h=>⟨h,rfl,rfl⟩,fun h=>.inl h⟩
theorem Er.next(v:List UInt8)(er:Bool):Er v (nxt v) true er (er || badc (nxt v)):=by
 have h:=pH (nxt v)
 refine⟨fun e=>?_,fun e=>?_⟩
 .rw[Bool.or_eq_false_iff]at e
  rw[e.2,Bool.false_or]at h
  exact⟨e.1,rfl,h⟩
 .rw[Bool.or_eq_true_iff]at e
  rcases e with e|e
  .exact .inl e
  .exact .inr (.inr (by rw[h,e,Bool.true_or]))
theorem Er.trans{v v1 v2:List UInt8}{o1 o2 e e1 e2:Bool}(h:Er v v1 o1 e e1)(k:Er v1 v2 o2 e1 e2):Er v v2 (o1 && o2) e e2:=by
 refine⟨fun h2=>?_,fun h2=>?_⟩
 .obtain⟨a,b,c⟩:=k.1 h2
  obtain⟨a',b',c'⟩:=h.1 a
  exact⟨a',by rw[b,b'];rfl,c'.trans c⟩
 .rcases k.2 h2 with a|a|a
  .rcases h.2 a with b|b|b
   .exact .inl b
   .exact .inr (.inl (by rw[b];rfl))
   .exact .inr (.inr b)
  .exact .inr (.inl (by rw[a,Bool.and_false]))
  .cases e1 with
   | true =>
    rcases h.2 rfl with b|b|b
    .exact .inl b
    .exact .inr (.inl (by rw[b];rfl))
    .exact .inr (.inr b)
   | false=>exact .inr (.inr (by rw[(h.1 rfl).2.2];exact a))
theorem Er.as{v v2:List UInt8}{o o' e e2:Bool}(h:Er v v2 o e e2)(ho:o=o'):Er v v2 o' e e2:=ho ▸ h
theorem Er.badly{v v2:List UInt8}{o e e2:Bool}(h:Er v v2 o e e2):Er v v2 false e true:=⟨fun h=>(by cases h),fun _=>.inr (.inl rfl)⟩
theorem Er.step{v v1:List UInt8}{o e e1:Bool}(h:Er v v1 o e e1):Er v (nxt v1) o e (e1 || badc (nxt v1)):=(h.trans (Er.next v1 e1)).as (Bool.and_true _)
def Suf (l v:List UInt8):Prop:=v=l.drop (l.length - v.length)
theorem Suf.len{l v:List UInt8}(h:Suf l v):v.length<=l.length:=by
 have:=congrArg List.length h
 rw[List.length_drop]at this
 omega
theorem Suf.all(l:List UInt8):Suf l l:=by unfold Suf;rw[Nat.sub_self];rfl
theorem dS(v:List UInt8):clen v<=v.length:=by
 by_cases h:v = []
 .subst h;exact Nat.le_refl _
 .exact(dJ h).2
theorem gt(v:List UInt8):(nxt v).length=v.length - clen v:=by unfold nxt;rw[List.length_drop]
theorem Suf.nx{l v:List UInt8}(h:Suf l v):Suf l (nxt v):=by
 have hl:=h.len
 have hc:=dS v
 unfold Suf
 rw[gt]
 unfold nxt
 conv=>lhs;rw[h]
 rw[List.drop_drop]
 congr 1
 rw[<- h]
 omega
theorem Suf.at_{l v:List UInt8}(h:Suf l v):l.drop (l.length - v.length+clen v)=nxt v:=by
 have:=h.nx
 unfold Suf at this
 rw[gt]at this
 rw[this]
 congr 1
 have:=h.len
 have:=dS v
 omega
theorem Suf.rch{l v v2:List UInt8}(h:Suf l v)(k:Rch v v2):Suf l v2:=by
 induction k with
 | refl w=>exact h
 | step w w' h1 h2 ih=>exact ih h.nx
end Go.Proofs.YtbdhlpeckennjaaGreatDoor
namespace Go.Proofs.YtbdhlpeckennjaaGreatDoor
open Go Go.RowKit
theorem mK(w:World)(V:Env)(q lc:Nat)(tk:Option Nat)(er:Bool)(ch:KP)(h:St w V q lc tk er ch):Calls Tryz.prog 104 #[.pointer (some ⟨V.sb,0,none⟩)] w (NX w V q tk er ch):=by
 obtain⟨f,⟨hS,hR,hI,hP⟩,-,hch⟩:=h
 by_cases hf:(f.buf f.p).toNat < 128
 .exact pU w V q tk er ch f ⟨hS,hR,hI.weak,hP⟩ hch hf
 .exact pS w V q tk er ch f ⟨hS,hR,hI.weak,hP⟩ hch hf
def Cu (w:World)(V:Env)(v:List UInt8)(tk:Option Nat)(er:Bool)(ch:KP):Prop:=Suf V.l v/\St w V (V.l.length - v.length+clen v) (clen v) tk er ch
def Ran (w0:World)(V:Env)(v0:List UInt8)(tk:Option Nat)(er:Bool)(ch:KP)(v:List UInt8)(ok:Bool)(w:World):Prop :=
 ∃ er2,Er v0 v ok er er2/\Cu w V v tk er2 ch/\FS V.B V.sb V.rb w0 w
section
variable {w0 w w2:World} {V:Env} {v0 v v2:List UInt8} {tk:Option Nat} {er ok:Bool} {ch:KP}
theorem Cu.new(h:Cu w V v tk er ch)(hf:Fr (fun _=>False) w w2):Cu w2 V v tk er ch:=⟨h.1,h.2.new hf⟩
theorem Ran.start(h:Cu w V v tk er ch):Ran w V v tk er ch v true w:=⟨er,Er.refl _ _,h,FS.refl⟩
theorem Ran.new(h:Ran w0 V v0 tk er ch v ok w)(hf:Fr (fun _=>False) w w2):Ran w0 V v0 tk er ch v ok w2:=by
 obtain⟨e2,h1,h2,h3⟩:=h
 exact⟨e2,h1,h2.new hf,h3.trans (FS.new hf)⟩
theorem Ran.drewN(h:Ran w0 V v0 tk er ch v ok w)(n:Nat):Ran w0 V v0 tk er ch v ok (w.drewN n):=h.new (Fr.r.drewN n)
theorem Ran.drew(h:Ran w0 V v0 tk er ch v ok w):Ran w0 V v0 tk er ch v ok w.drew:=h.new (Fr.r.drew)
theorem Ran.trans{v1:List UInt8}{w1:World}{o1 o2:Bool}(h:Ran w0 V v0 tk er ch v1 o1 w1)(k:∀ er1,Cu w1 V v1 tk er1 ch->Ran w1 V v1 tk er1 ch v2 o2 w2):Ran w0 V v0 tk er ch v2 (o1 && o2) w2:=by
 obtain⟨e1,h1,h2,h3⟩:=h
 obtain⟨e2,k1,k2,k3⟩:=k e1 h2
 exact⟨e2,h1.trans k1,k2,h3.trans k3⟩
theorem Ran.next(h:Ran w0 V v0 tk er ch v ok w):Calls Tryz.prog 104 #[.pointer (some ⟨V.sb,0,none⟩)] w fun e w2=>e = .returned (.int .i32 (chr (nxt v)))/\Ran w0 V v0 tk er ch (nxt v) ok w2:=by
 obtain⟨e2,h1,⟨hs,h2⟩,h3⟩:=h
 refine(mK w V _ _ tk e2 ch h2).mono ?_
 rintro e w2 ⟨he,hst,hfs⟩
 rw[hs.at_]at he hst
 refine⟨he,_,h1.step,⟨hs.nx,?_⟩,h3.trans hfs⟩
 have hl:=hs.len
 have hc:=dS v
 rw[show V.l.length - (nxt v).length+clen (nxt v)=V.l.length - v.length+clen v+clen (nxt v)from by rw[gt];omega]
 exact hst
theorem Ran.err(h:Ran w0 V v0 tk er ch v ok w)(m:ByteArray):Calls Tryz.prog 138 #[.pointer (some ⟨V.sb,0,none⟩),.string m] w fun e w2=>e = .returned (.tuple #[])/\Ran w0 V v0 tk er ch v false w2:=by
 obtain⟨e2,h1,⟨hs,f,⟨hS,hR,hI,hP⟩,hlc,hch⟩,h3⟩:=h
 refine(fx w V.B V.sb V.rb f hS m).mono ?_
 rintro e w2 ⟨rfl,⟨t,u,te,h9⟩,hf9⟩
 refine⟨rfl,true,h1.badly,⟨hs,_,⟨h9,hR.sb hf9 hP.ne,?_,hP.fs (FS.sb hf9)⟩,hlc,hch⟩,h3.trans (FS.sb hf9)⟩
 exact⟨hI.pe,hI.e1,hI.len,hI.buf,hI.sen,hI.q,hI.mp,⟨t,u,rfl⟩,hI.tk⟩
theorem rS(v:List UInt8) : -1<=chr v/\chr v<=1114111:=by
 by_cases h:v = []
 .subst h;exact⟨by decide,by decide⟩
 .rw[dX h]
  have:=dR ⟨v.toArray⟩
  rw[rO v h]at this
  omega
end
theorem pN{w:World}{B sb rb:Nat}{f:SF}(h:Scn w B sb rb f)(lo hi:Nat)(hh:hi<=1025):∀ j (hj:j < (seg f lo hi).length),w.cell? ((⟨sb,1+lo,none⟩:Addr).add j)=some (.int .u8 ((seg f lo hi)[j].toNat:Int)):=by
 intro j hj
 have hj':j < hi - lo:=by simpa[dN] using hj
 rw[show((⟨sb,1+lo,none⟩:Addr).add j)=⟨sb,1+(lo+j),none⟩from by unfold Addr.add;split <;> simp_all [Nat.add_assoc],h.byte _ (by omega)]
 have:=fo f lo hi j hj'
 rw[List.getElem?_eq_getElem hj,Option.some.injEq]at this
 rw[this]
theorem strTu:Tryz.prog.underlying 9=some .string:=by kernel_rfl
theorem u8I2:Tryz.prog.underlying 5=some (.int .u8):=by kernel_rfl
theorem SI.text{l:List UInt8}{f:SF}{q m a tp hi:Nat}{er:Bool}(h:SI l f q m (some a) er)(htp:f.tp=tp)(hhi:hi+m=f.p):tp<=hi/\a<=f.off+tp/\f.tok.length<=l.length/\f.tok++seg f tp hi=(l.drop a).take (q - m - a):=by
 obtain⟨tp',e1,e2,e3,e4⟩:=h.tk
 have htt:tp'=tp:=by omega
 subst htt
 have h1:=h.pe
 have h2:=h.len
 have h3:=h.q
 refine⟨by omega,e3,by rw[e4,List.length_take,List.length_drop];omega,?_⟩
 have hs:(seg f tp' hi).length=hi - tp':=by simp[seg]
 rw[e4,show q - m - a=(f.off+tp' - a)+(hi - tp')from by omega,List.take_add]
 congr 1
 apply List.ext_getElem?
 intro j
 by_cases hj:j < hi - tp'
 .rw[fo f tp' hi j hj,List.getElem?_take_of_lt hj,List.getElem?_drop,List.getElem?_drop,show a+(f.off+tp' - a+j)=f.off+(tp'+j)from by omega,h.buf _ (by omega)]
 .rw[List.getElem?_eq_none (by omega),List.getElem?_eq_none (by rw[List.length_take];omega)]
theorem mf(w:World)(V:Env)(f:SF)(q lc a:Nat)(er:Bool)(h:StF w V f q lc (some a) er)(hlc:f.lc=lc)(hte:f.te=((f.p - lc:Nat):Int)) :
  Calls Tryz.prog 114 #[.pointer (some ⟨V.sb,0,none⟩)] w fun e w'=>e = .returned (.string ⟨((V.l.drop a).take (q - lc - a)).toArray⟩)/\∃ f2,StF w' V f2 q lc (some a) er/\f2.lc=lc/\f2.kp=f.kp/\FS V.B V.sb V.rb w w':=by
 obtain⟨B,sb,rb,g,cap,l⟩:=V
 obtain⟨hS,hR,hI,hP⟩:=h
 change Scn w B sb rb f at hS
 change Rd w rb g cap l.length (f.off+f.e)at hR
 change SI l f q lc (some a) er at hI
 have hl9:l.length<=90000:=hP.l9
 obtain⟨tp,htp,-,-,-⟩:=hI.tk
 have hmp:=hI.mp
 obtain⟨hi,hhi⟩:∃ hi,hi=f.p - lc:=⟨_,rfl⟩
 have hhp:hi+lc=f.p:=by omega
 obtain⟨g1,g2,g3,g4⟩:=hI.text htp hhp
 rw[<- hhi]at hte
 have hp1:=hI.pe
 have hp2:=hI.e1
 have hlt:=hS.lt
 have c36:w.cell? ⟨sb,1036,none⟩=some (.int .i64 tp):=by rw[<- htp];exact hS.cell 1036 (by omega)
 have c37:w.cell? ⟨sb,1037,none⟩=some (.int .i64 hi):=by rw[<- hte];exact hS.cell 1037 (by omega)
 have z36:=hS.free 1036
 have HS:=hqZ hS
 have HR:=hqZ hR
 have HI:=hqZ hI
 have HP:=hqZ hP
 have HTP:=hqZ htp
 have HTE:=hqZ hte
 have HLC:=hqZ hlc
 have G4:=hqZ g4
 have k1:¬ (tp:Int) < 0:=by omega
 have k2:(tp:Int)<=(hi:Int):=by omega
 have k3:(hi:Int)<=1025:=by omega
 have k4:hi<=1025:=by omega
 clear hS hR hI hP htp hte hlc g4 hhi
 go_enter Tryz.func114,Tryz.ntmps114
 go_wp2_with fail
 refine(Tryz.Buffer_Len_at 216 (RF rb f) B sb 1033 (Lib.byteCells f.tok) _ HS.out).mono ?_
 rintro e w1 ⟨rfl,n1,rfl⟩
 rw[Lib.byteCells_length]
 have hfn:Fr (fun _=>False) w (w.drewN n1):=(Fr.refl _ w).drewN n1
 have HF:=hqZ (FS.new (B:=B) (sb:=sb) (rb:=rb) hfn)
 have HS:=hqZ (HS.out.new hfn)
 have HR:=hqZ (HR.out.new hfn)
 have HP:=hqZ (HP.out.next (.ofNew hfn))
 have c36:(w.drewN n1).cell? ⟨sb,1036,none⟩=some (.int .i64 tp):=c36
 have c37:(w.drewN n1).cell? ⟨sb,1037,none⟩=some (.int .i64 hi):=c37
 have z36:(w.drewN n1).frozen? ⟨sb,1036,none⟩=false:=z36
 have hlt:sb < (w.drewN n1).heap.size:=hlt
 clear hfn
 generalize w.drewN n1=w1 at *
 by_cases htok:f.tok.length=0
 case pos =>
  have hz:((f.tok.length:Int) == 0)=true:=by simp;exact List.length_eq_zero_iff.1 htok
  have ht0:f.tok = []:=List.length_eq_zero_iff.1 htok
  have hcv:=run_convert_bytes_back (P:=Tryz.prog) w1.drew 67 9 5 ⟨sb,1+tp,none⟩ (1025 - tp) (seg f tp hi) u8S u8I2 strTu (pN (HS.out.new ((Fr.refl _ w1).drew)) tp hi k4)
  rw[dN]at hcv
  rw[ht0,List.nil_append]at G4
  have HT0:=hqZ ht0
  clear ht0
  go_wp2_with fail
  go_still_tail 12,(by kernel_rfl)
  change wpList _ _ _ _ _ w1.drew
  go_wp2_with fail
  go_ret
  have hfn:Fr (fun _=>False) w1 w1.drew:=(Fr.refl _ w1).drew
  exact⟨by rw[G4.out];rfl,f,⟨HS.out.new hfn,HR.out.new hfn,HI.out,HP.out.next (.ofNew hfn)⟩,HLC.out,rfl,HF.out.trans (FS.new hfn)⟩
 case neg =>
  have hz:((f.tok.length:Int) == 0)=false:=by simp only[beq_eq_false_iff_ne,ne_eq];omega
  go_wp2_with fail
  go_still_tail 15,(by kernel_rfl)
  change wpList _ _ _ _ _ w1.drew
  go_wp2_with fail
  refine(kn _ B sb rb f tp hi (1025 - tp) (HS.out.new ((Fr.refl _ w1).drew)) (HP.out.next ((Fr.refl _ w1).drew)).Bw g1 k4 (by omega)).mono ?_
  rintro e w2 ⟨⟨n2,rfl⟩,hs2,hb2,ho2⟩
  have hsz:w1.heap.size<=w2.heap.size:=hb2.size
  have hfs:FS B sb rb w1 w2:=FS.trans (FS.refl.drew) (FS.kept hb2 ho2 hsz)
  have c37:w2.cell? ⟨sb,1037,none⟩=some (.int .i64 hi):=by rw[<- HTE.out];exact hs2.cell 1037 (by omega)
  have c36:w2.cell? ⟨sb,1036,none⟩=some (.int .i64 f.tp):=hs2.cell 1036 (by omega)
  have z36:=hs2.free 1036
  have HS:=hqZ (hs2.stp (hi:Int))
  have HR:=hqZ (((HR.out.new ((Fr.refl _ w1).drew)).kept ho2 HP.out.ne).set (sb:=sb) (i:=1036) (v:=.int .i64 (hi:Int)) HP.out.ne)
  have HF:=hqZ ((HF.out.trans hfs).set (.inl rfl) 1036 (.int .i64 (hi:Int)))
  have HP:=hqZ (HP.out.fs (hfs.set (.inl rfl) 1036 (.int .i64 (hi:Int))))
  clear hs2 hb2 ho2 hsz hfs
  go_wp2_with fail
  refine(Tryz.Buffer_String_at 216 (RF rb { f with tok:=f.tok++seg f tp hi,tp:=(hi:Int) }) B sb 1033 (f.tok++seg f tp hi) _ HS.out).mono ?_
  rintro e w3 ⟨rfl,n3,rfl⟩
  go_wp2_with fail
  go_ret
  have hfn:Fr (fun _=>False) (w2.setCell ⟨sb,1036,none⟩ (.int .i64 (hi:Int))) ((w2.setCell ⟨sb,1036,none⟩ (.int .i64 (hi:Int))).drewN n3):=Fr.r.drewN n3
  refine⟨by rw[G4.out];rfl,_,⟨HS.out.new hfn,HR.out.new hfn,?_,HP.out.next (.ofNew hfn)⟩,HLC.out,rfl,HF.out.trans (FS.new hfn)⟩
  have i:=HI.out
  have iq:=i.q
  exact⟨i.pe,i.e1,i.len,i.buf,i.sen,i.q,i.mp,i.er,⟨hi,rfl,by show hi+lc<=f.p;omega,by show a<=f.off+hi;omega,by show f.tok++seg f tp hi=_;rw[G4.out];congr 1;show q - lc - a=f.off+hi - a;omega⟩⟩
end Go.Proofs.YtbdhlpeckennjaaGreatDoor
namespace Go.Proofs
open Go.Shelf
def Tryz.lays169_ren:Go.Shelf.Ren:=⟨fun|169=>162|n=>n,fun|70=>322|9=>9|0=>0|72=>324|37=>67|127=>332|3=>3|5=>5|n=>n,fun|n=>n⟩
theorem Tryz.lays169:Go.Proofs.Lays.n169 Tryz.prog Tryz.lays169_ren:={
 mixed:=by kernel_rfl
 f169:=Tryz.func162.trans (congrArg some (by kernel_rfl))
 t0:=Tryz.underlying0
 a0:=Tryz.isAgg0
 z0:=Tryz.sizeOf0
 v0:=Tryz.zeroValue0
 t3:=Tryz.underlying3
 a3:=Tryz.isAgg3
 z3:=Tryz.sizeOf3
 v3:=Tryz.zeroValue3
 t9:=Tryz.underlying9
 a9:=Tryz.isAgg9
 z9:=Tryz.sizeOf9
 v9:=Tryz.zeroValue9
 t37:=Tryz.underlying67
 a37:=Tryz.isAgg67
 z37:=Tryz.sizeOf67
 v37:=Tryz.zeroValue67
 t70:=Tryz.underlying322
 a70:=Tryz.isAgg322
 z70:=Tryz.sizeOf322
 v70:=Tryz.zeroValue322
 t72:=Tryz.underlying324
 a72:=Tryz.isAgg324
 z72:=Tryz.sizeOf324
 v72:=Tryz.zeroValue324
 t127:=Tryz.underlying332
 a127:=Tryz.isAgg332
 z127:=Tryz.sizeOf332
 v127:=Tryz.zeroValue332 }
theorem Tryz.Builder_Extra_169:Builder.Extra Tryz.prog Tryz.lays169_ren:={
 sizeBuilder:=by kernel_rfl
 liesBuilder:=by kernel_rfl
 t5:=Tryz.underlying5
 a5:=Tryz.isAgg5
 z5:=Tryz.sizeOf5
 v5:=Tryz.zeroValue5
 infoByte:=by kernel_rfl
 cellsByte:=by kernel_rfl
 sizeByte:=by kernel_rfl
 neB5:=by decide }
open Go.RowKit in
theorem Tryz.Builder_String_any(B b:Nat)(l:List UInt8)(w:World)(h:Lib.IsBuilder 324 5 B b (Lib.byteCells l) w)(hBw:B<=w.heap.size) :
  Calls Tryz.prog 162 #[.pointer (some ⟨b,0,none⟩)] w fun e w'=>e = .returned (.string ⟨l.toArray⟩)/\Below B w w':=Any.Builder_String_any Tryz.lays169 Tryz.Builder_Extra_169 B b l w h hBw
def Tryz.lays119_ren:Go.Shelf.Ren:=⟨fun|119=>177|n=>n,fun|21=>21|4=>4|n=>n,fun|n=>n⟩
theorem Tryz.lays119:Go.Proofs.Lays.n119 Tryz.prog Tryz.lays119_ren:={
 mixed:=by kernel_rfl
 f119:=Tryz.func177.trans (congrArg some (by kernel_rfl))
 t4:=Tryz.underlying4
 a4:=Tryz.isAgg4
 z4:=Tryz.sizeOf4
 v4:=Tryz.zeroValue4
 t21:=Tryz.underlying21
 a21:=Tryz.isAgg21
 z21:=Tryz.sizeOf21
 v21:=Tryz.zeroValue21 }
theorem Tryz.utf8_ValidRune(r:Int)(w:World) :
  Calls Tryz.prog 177 #[.int .i32 r] w fun e w'=>e = .returned (.bool (Lib.validRune r))/\w'=w:=Any.utf8_ValidRune Tryz.lays119 r w
open Go.RowKit in
theorem Tryz.Builder_String_empty_f(B b:Nat)(w:World)(h:Lib.IsBuilderF 324 5 B b [] w)(hBw:B<=w.heap.size) :
  Calls Tryz.prog 162 #[.pointer (some ⟨b,0,none⟩)] w fun e w'=>e = .returned (.string ⟨#[]⟩)/\(Lib.IsBuilderF 324 5 B b [] w'/\Below B w w'):=Any.Builder_String_empty_f Tryz.lays169 Tryz.Builder_Extra_169 B b w h hBw
open Go.RowKit in
theorem Tryz.Builder_String_any_f(B b:Nat)(l:List UInt8)(w:World)(h:Lib.IsBuilderF 324 5 B b (Lib.byteCells l) w)(hBw:B<=w.heap.size) :
  Calls Tryz.prog 162 #[.pointer (some ⟨b,0,none⟩)] w fun e w'=>e = .returned (.string ⟨l.toArray⟩)/\(Lib.IsBuilderF 324 5 B b (Lib.byteCells l) w'/\Below B w w'):=Any.Builder_String_any_f Tryz.lays169 Tryz.Builder_Extra_169 B b l w h hBw
def Tryz.lays242_ren:Go.Shelf.Ren:=⟨fun|242=>175|278=>183|n=>n,fun|37=>67|21=>21|51=>337|4=>4|5=>5|46=>224|n=>n,fun|n=>n⟩
theorem Tryz.lays242:Go.Proofs.Lays.n242 Tryz.prog Tryz.lays242_ren:={
 mixed:=by kernel_rfl
 f242:=Tryz.func175.trans (congrArg some (by kernel_rfl))
 f278:=Tryz.func183.trans (congrArg some (by kernel_rfl))
 t4:=Tryz.underlying4
 a4:=Tryz.isAgg4
 z4:=Tryz.sizeOf4
 v4:=Tryz.zeroValue4
 t5:=Tryz.underlying5
 a5:=Tryz.isAgg5
 z5:=Tryz.sizeOf5
 v5:=Tryz.zeroValue5
 t21:=Tryz.underlying21
 a21:=Tryz.isAgg21
 z21:=Tryz.sizeOf21
 v21:=Tryz.zeroValue21
 t37:=Tryz.underlying67
 a37:=Tryz.isAgg67
 z37:=Tryz.sizeOf67
 v37:=Tryz.zeroValue67
 t46:=Tryz.underlying224
 a46:=Tryz.isAgg224
 z46:=Tryz.sizeOf224
 v46:=Tryz.zeroValue224
 t51:=Tryz.underlying337
 a51:=Tryz.isAgg337
 z51:=Tryz.sizeOf337
 v51:=Tryz.zeroValue337 }
open Go.RowKit in
theorem Tryz.utf8_AppendRune_row(B:Nat)(v:Value)(n:Nat)(xs:List Value)(r:Int)(hr0 : -2147483648<=r)(hr1:r<=2147483647)(w:World)(hown:w.ownsRowF B 5 1 v n xs)(hlen:n+4<=140737488355328)(hBw:B<=w.heap.size) :
  Calls Tryz.prog 175 #[v,.int .i32 r] w fun e w'=>∃ v',e = .returned v'/\w'.ownsRowF B 5 1 v' (n+(Lib.runeCells r).length) (xs++Lib.runeCells r)/\∃ o,(w.alloc o).grownBy w' v.ownBlock:=Any.utf8_AppendRune_row Tryz.lays242 (by kernel_rfl) B v n xs r hr0 hr1 w hown hlen hBw
open Go.RowKit in
theorem Tryz.utf8_AppendRune_plain(B:Nat)(v:Value)(n:Nat)(xs:List Value)(r:Int)(hr0 : -2147483648<=r)(hr1:r<=2147483647)(w:World)(hown:w.ownsRow B 5 1 v n xs)(hlen:n+4<=140737488355328)(hBw:B<=w.heap.size) :
  Calls Tryz.prog 175 #[v,.int .i32 r] w fun e w'=>∃ v',e = .returned v'/\w'.ownsRow B 5 1 v' (n+(Lib.runeCells r).length) (xs++Lib.runeCells r)/\∃ o,(w.alloc o).grownBy w' v.ownBlock:=Any.utf8_AppendRune_plain Tryz.lays242 (by kernel_rfl) B v n xs r hr0 hr1 w hown hlen hBw
def Tryz.lays101_ren:Go.Shelf.Ren:=⟨fun|101=>147|208=>159|206=>172|n=>n,fun|9=>9|4=>4|3=>3|n=>n,fun|n=>n⟩
theorem Tryz.lays101:Go.Proofs.Lays.n101 Tryz.prog Tryz.lays101_ren:={
 mixed:=by kernel_rfl
 f101:=Tryz.func147.trans (congrArg some (by kernel_rfl))
 f206:=Tryz.func172.trans (congrArg some (by kernel_rfl))
 f208:=Tryz.func159.trans (congrArg some (by kernel_rfl))
 t3:=Tryz.underlying3
 a3:=Tryz.isAgg3
 z3:=Tryz.sizeOf3
 v3:=Tryz.zeroValue3
 t4:=Tryz.underlying4
 a4:=Tryz.isAgg4
 z4:=Tryz.sizeOf4
 v4:=Tryz.zeroValue4
 t9:=Tryz.underlying9
 a9:=Tryz.isAgg9
 z9:=Tryz.sizeOf9
 v9:=Tryz.zeroValue9 }
open Go.RowKit Go.Lib in
theorem Tryz.strings_TrimPrefix(s p:ByteArray)(w:World) :
  Calls Tryz.prog 147 #[.string s,.string p] w fun e w'=>e = .returned (.string ⟨(Lib.trimPrefix s.data.toList p.data.toList).toArray⟩)/\w'=w:=Any.strings_TrimPrefix Tryz.lays101 s p w
def Tryz.lays102_ren:Go.Shelf.Ren:=⟨fun|102=>148|209=>160|207=>173|n=>n,fun|9=>9|4=>4|3=>3|n=>n,fun|n=>n⟩
theorem Tryz.lays102:Go.Proofs.Lays.n102 Tryz.prog Tryz.lays102_ren:={
 mixed:=by kernel_rfl
 f102:=Tryz.func148.trans (congrArg some (by kernel_rfl))
 f207:=Tryz.func173.trans (congrArg some (by kernel_rfl))
 f209:=Tryz.func160.trans (congrArg some (by kernel_rfl))
 t3:=Tryz.underlying3
 a3:=Tryz.isAgg3
 z3:=Tryz.sizeOf3
 v3:=Tryz.zeroValue3
 t4:=Tryz.underlying4
 a4:=Tryz.isAgg4
 z4:=Tryz.sizeOf4
 v4:=Tryz.zeroValue4
 t9:=Tryz.underlying9
 a9:=Tryz.isAgg9
 z9:=Tryz.sizeOf9
 v9:=Tryz.zeroValue9 }
open Go.RowKit Go.Lib in
theorem Tryz.strings_TrimSuffix(s p:ByteArray)(w:World)(hs:s.size<=9223372036854775807) :
  Calls Tryz.prog 148 #[.string s,.string p] w fun e w'=>e = .returned (.string ⟨(Lib.trimSuffix s.data.toList p.data.toList).toArray⟩)/\w'=w:=Any.strings_TrimSuffix Tryz.lays102 s p w hs
def Tryz.lays197_ren:Go.Shelf.Ren:=⟨fun|197=>78|260=>116|n=>n,fun|9=>9|21=>21|3=>3|4=>4|5=>5|105=>225|119=>220|0=>0|46=>224|139=>223|138=>222|n=>n,fun|3=>0|4=>1|n=>n⟩
theorem Tryz.lays197:Go.Proofs.Lays.n197 Tryz.prog Tryz.lays197_ren:={
 mixed:=by kernel_rfl
 f197:=Tryz.func78.trans (congrArg some (by kernel_rfl))
 f260:=Tryz.func116.trans (congrArg some (by kernel_rfl))
 t0:=Tryz.underlying0
 a0:=Tryz.isAgg0
 z0:=Tryz.sizeOf0
 v0:=Tryz.zeroValue0
 t3:=Tryz.underlying3
 a3:=Tryz.isAgg3
 z3:=Tryz.sizeOf3
 v3:=Tryz.zeroValue3
 t4:=Tryz.underlying4
 a4:=Tryz.isAgg4
 z4:=Tryz.sizeOf4
 v4:=Tryz.zeroValue4
 t5:=Tryz.underlying5
 a5:=Tryz.isAgg5
 z5:=Tryz.sizeOf5
 v5:=Tryz.zeroValue5
 t9:=Tryz.underlying9
 a9:=Tryz.isAgg9
 z9:=Tryz.sizeOf9
 v9:=Tryz.zeroValue9
 t21:=Tryz.underlying21
 a21:=Tryz.isAgg21
 z21:=Tryz.sizeOf21
 v21:=Tryz.zeroValue21
 t46:=Tryz.underlying224
 a46:=Tryz.isAgg224
 z46:=Tryz.sizeOf224
 v46:=Tryz.zeroValue224
 t105:=Tryz.underlying225
 a105:=Tryz.isAgg225
 z105:=Tryz.sizeOf225
 v105:=Tryz.zeroValue225
 t119:=Tryz.underlying220
 a119:=Tryz.isAgg220
 z119:=Tryz.sizeOf220
 t138:=Tryz.underlying222
 a138:=Tryz.isAgg222
 z138:=Tryz.sizeOf222
 v138:=Tryz.zeroValue222
 t139:=Tryz.underlying223
 a139:=Tryz.isAgg223
 z139:=Tryz.sizeOf223
 v139:=Tryz.zeroValue223
 g3:=by kernel_rfl
 g4:=by kernel_rfl }
open Go.RowKit Go.Lib in
theorem Tryz.utf8_DecodeRuneInString(s:ByteArray)(w:World)(hT:Lib.Utf8Tabs 0 1 w) :
  Calls Tryz.prog 78 #[.string s] w fun e w'=>e = .returned (.tuple #[.int .i32 (Lib.decodeGo s).1,.int .i64 (Lib.decodeGo s).2])/\Below w.heap.size w w':=Any.utf8_DecodeRuneInString Tryz.lays197 s w hT
def Tryz.lays110_ren:Go.Shelf.Ren:=⟨fun|110=>145|109=>158|n=>n,fun|31=>24|9=>9|4=>4|3=>3|0=>0|n=>n,fun|n=>n⟩
theorem Tryz.lays110:Go.Proofs.Lays.n110 Tryz.prog Tryz.lays110_ren:={
 mixed:=by kernel_rfl
 f109:=Tryz.func158.trans (congrArg some (by kernel_rfl))
 f110:=Tryz.func145.trans (congrArg some (by kernel_rfl))
 t0:=Tryz.underlying0
 a0:=Tryz.isAgg0
 z0:=Tryz.sizeOf0
 v0:=Tryz.zeroValue0
 t3:=Tryz.underlying3
 a3:=Tryz.isAgg3
 z3:=Tryz.sizeOf3
 v3:=Tryz.zeroValue3
 t4:=Tryz.underlying4
 a4:=Tryz.isAgg4
 z4:=Tryz.sizeOf4
 v4:=Tryz.zeroValue4
 t9:=Tryz.underlying9
 a9:=Tryz.isAgg9
 z9:=Tryz.sizeOf9
 v9:=Tryz.zeroValue9
 t31:=Tryz.underlying24
 a31:=Tryz.isAgg24
 z31:=Tryz.sizeOf24
 v31:=Tryz.zeroValue24 }
open Go.Lib in
theorem Tryz.slices_Contains_string(b off n c:Nat)(zs:List ByteArray)(x:ByteArray)(w:World)(hz:n<=zs.length)(hbig:n<=9223372036854775807)(hc:∀ j,j < zs.length->w.cell? ⟨b,off+j,none⟩=some (.string (zs.getD j ByteArray.empty))) :
  Calls Tryz.prog 145 #[.slice (some ⟨b,off,none⟩) n c,.string x] w fun e w'=>e = .returned (.bool (Lib.containsS (zs.take n) x))/\w'=w:=Any.slices_Contains_string Tryz.lays110 b off n c zs x w hz hbig hc
end Go.Proofs
namespace Go.Proofs.YtbdhlpeckennjaaGreatDoor
open Go Go.RowKit
def eA:List ByteArray:=[⟨#[116,114,117,101]⟩,⟨#[102,97,108,115,101]⟩,⟨#[105,102]⟩,⟨#[116,104,101,110]⟩,⟨#[101,108,115,101]⟩,⟨#[105,110]⟩,⟨#[108,105,107,101]⟩,⟨#[104,97,115]⟩,⟨#[105,115]⟩,⟨#[95,95,99,101,100,97,114]⟩]
theorem qf(s:ByteArray):Lib.containsS (eA.take 10) s=bW s.data.toList:=by
 have h1:Lib.containsS (eA.take 10) s=true <-> s ∈ eA:=by
  rw[Lib.containsS_iff];rfl
 have h2:∀ (l:List UInt8),s=⟨l.toArray⟩ <-> s.data.toList=l:=fun l=>⟨fun h=>by rw[h],fun h=>by rw[<- h]⟩
 have h3:s ∈ eA <-> bW s.data.toList=true:=by
  unfold eA bW
  simp only[List.mem_cons,List.not_mem_nil,or_false,h2,Bool.or_eq_true,beq_iff_eq,or_assoc]
 cases hq:bW s.data.toList with
 | true=>exact h1.2 (h3.2 hq)
 | false =>
  cases hc:Lib.containsS (eA.take 10) s with
  | false=>rfl
  | true=>rw[h3.1 (h1.1 hc)]at hq;cases hq
theorem jg(w:World):Calls Tryz.prog 146 #[] w fun e w'=>∃ b cap,e = .returned (.slice (some ⟨b,0,none⟩) 10 cap)/\(∀ j,j < eA.length->w'.cell? ⟨b,0+j,none⟩=some (.string (eA.getD j ByteArray.empty)))/\New w w':=by
 go_enter Tryz.func146,Tryz.ntmps146
 go_wp2
 go_ret
 refine⟨w.heap.size,10,rfl,?_,(Fr.refl _ w).alloc _⟩
 have hb:=heap_alloc_new w (.cells #[.string ⟨#[116,114,117,101]⟩,.string ⟨#[102,97,108,115,101]⟩,.string ⟨#[105,102]⟩,.string ⟨#[116,104,101,110]⟩,.string ⟨#[101,108,115,101]⟩,.string ⟨#[105,110]⟩,.string ⟨#[108,105,107,101]⟩,.string ⟨#[104,97,115]⟩,.string ⟨#[105,115]⟩,.string ⟨#[95,95,99,101,100,97,114]⟩] 9)
 intro j hj
 have hj:j < 10:=hj
 refine Blk.cell (t:=9) hb (0+j) _ ?_
 have:j=0\/j=1\/j=2\/j=3\/j=4\/j=5\/j=6\/j=7\/j=8\/j=9:=by omega
 rcases this with rfl|rfl|rfl|rfl|rfl|rfl|rfl|rfl|rfl|rfl <;> rfl
theorem om(w:World)(s:ByteArray):Calls Tryz.prog 115 #[.string s] w fun e w'=>e = .returned (.bool (bW s.data.toList))/\New w w':=by
 go_enter Tryz.func115,Tryz.ntmps115
 go_wp2_with fail
 refine(jg _).mono ?_
 rintro e w1 ⟨b,cap,rfl,hc,hn⟩
 go_wp2_with fail
 refine(Tryz.slices_Contains_string b 0 10 cap eA s _ (by decide) (by omega) hc).mono ?_
 rintro e w2 ⟨rfl,rfl⟩
 rw[qf]
 go_wp2_with fail
 go_ret
 exact⟨rfl,hn⟩
def scC:Code->Code
 | .scope a=>a
 | c=>c
noncomputable def rk:Code:=sndC (sndC (sndC (sndC (sndC (scC (sndC (Tryz.f76.body.getD .skip)))))))
noncomputable def mJ:Code:=sndC (sndC (sndC (sndC (sndC rk))))
noncomputable def ntEnd:Code:=sndC (sndC mJ)
def NTq (w:World)(V:Env)(v:List UInt8)(er:Bool)(r:Nat × List UInt8 × List UInt8 × Bool)(e:Ending)(w':World):Prop :=
 ∃ (l c:Int) (er2:Bool) (tk2:Option Nat),e = .returned (tokV ⟨r.1,⟨(r.2.1.take (r.2.1.length - r.2.2.1.length)).toArray⟩⟩ ((V.l.length - r.2.1.length:Nat):Int) l c)/\Er v r.2.2.1 r.2.2.2 er er2/\Cu w' V r.2.2.1 tk2 er2 (chr r.2.2.1,((V.l.length - r.2.1.length:Nat):Int),l,c)/\FS V.B V.sb V.rb w w'
theorem Blk.fs{w w':World}{b B sb rb:Nat}{cs:Array Value}{t:TypeId}(h:Blk w b cs t)(hf:FS B sb rb w w')(h1:b ≠ sb)(h2:b ≠ rb)(h3:t ≠ 5):Blk w' b cs t :=
 hf.block b _ h h1 h2 (.inr (fun c fz e=>by cases e;exact h3 rfl))
theorem Blk.f6{w:World}{b:Nat}{t:TypeId}{a0 a1 a2 a3 a4 a5:Value}(h:Blk w b #[a0,a1,a2,a3,a4,a5] t):(∀ j,w.frozen? ⟨b,j,none⟩=false)/\b < w.heap.size/\w.cell? ⟨b,0,none⟩=some a0/\w.cell? ⟨b,1,none⟩=some a1/\w.cell? ⟨b,2,none⟩=some a2/\w.cell? ⟨b,3,none⟩=some a3/\w.cell? ⟨b,4,none⟩=some a4/\w.cell? ⟨b,5,none⟩=some a5 :=
 ⟨h.free,h.lt,h.cell 0 _ rfl,h.cell 1 _ rfl,h.cell 2 _ rfl,h.cell 3 _ rfl,h.cell 4 _ rfl,h.cell 5 _ rfl⟩
theorem ob{w w2 w3:World}{B sb rb g cap rc:Nat}{L v u x:List UInt8}{er er3 ok:Bool}{l c:Int}{f2:SF}{r:Nat × List UInt8 × List UInt8 × Bool}{cs:Array Value}{txt:List UInt8}{y0 y1 y2 y3 y4 y5:Value}(kf:Nat)(hE:Er v x ok er er3)(hsx:Suf L x)
  (hst:StF w2 ⟨B,sb,rb,g,cap,L⟩ f2 (L.length - x.length+clen x) (clen x) (some (L.length - u.length)) er3) (hlc:f2.lc=clen x) (hkp:f2.kp=(chr x,((L.length - u.length:Nat):Int),l,c)) (hn:Fr (fun _=>False) w2 w3) (hF:FS B sb rb w w2)
  (hB:Blk w3 rc cs 95) (hR:rc ≠ sb/\rc ≠ rb/\w.heap.size<=rc/\B<=rc) (htxt:txt=u.take (u.length - x.length)) (hr:r=(kf,u,x,ok)) :
  NTq w ⟨B,sb,rb,g,cap,L⟩ v er r (.returned (.agg #[.int .i64 (kf:Nat),.string ⟨#[]⟩,.int .i64 ((L.length - u.length:Nat):Int),.int .i64 l,.int .i64 c,.string ⟨txt.toArray⟩]))
   ((((((w3.setCell ⟨rc,0,none⟩ y0).setCell ⟨rc,1,none⟩ y1).setCell ⟨rc,2,none⟩ y2).setCell ⟨rc,3,none⟩ y3).setCell ⟨rc,4,none⟩ y4).setCell ⟨rc,5,none⟩ y5):=by
 subst hr htxt
 have hfr:Fr (fun k=>k=rc) w3 ((((((w3.setCell ⟨rc,0,none⟩ y0).setCell ⟨rc,1,none⟩ y1).setCell ⟨rc,2,none⟩ y2).setCell ⟨rc,3,none⟩ y3).setCell ⟨rc,4,none⟩ y4).setCell ⟨rc,5,none⟩ y5):=(((((((Fr.refl (fun k=>k=rc) w3).set (.inl rfl)).set (.inl rfl)).set (.inl rfl)).set (.inl rfl)).set (.inl rfl)).set (.inl rfl))
 have hst3:=hst.new hn
 obtain⟨hS,hRd,hI,hP⟩:=hst3
 have hrw:=hP.rw
 refine⟨l,c,er3,some (L.length - u.length),rfl,hE,⟨hsx,f2,⟨hS.fr hfr fun k e=>by subst e;exact⟨hR.1,fun c fz e=>by unfold Blk at hB;rw[hB]at e;cases e⟩,?_,hI,hP.next (hfr.mono fun k _ e=>by subst e;exact hR.2.2.2)⟩,hlc,hkp⟩,?_⟩
 .obtain⟨m,o,lr,hb,q⟩:=hRd
  exact⟨m,o,lr,hb.next hfr (fun e=>hR.2.1 e.symm),q⟩
 .exact((((((hF.trans (FS.new hn)).setNew hR.2.2.1 _ _).setNew hR.2.2.1 _ _).setNew hR.2.2.1 _ _).setNew hR.2.2.1 _ _).setNew hR.2.2.1 _ _).setNew hR.2.2.1 _ _
theorem gJ(w wr:World)(B sb rb g cap:Nat)(L:List UInt8)(v u x:List UInt8)(er er3 ok:Bool)(kc l c:Int)(k0 rc:Nat)(J:Act->World->Prop)(a0 a1 a2 a3 a4 a5:Value)(r:Nat × List UInt8 × List UInt8 × Bool)
  (u1 u5 u6 u7 u8 u9 u10 u11 u12 u13 u14 u15 u16 u17 u18 u19 u20 u21 u22 u23 u24 u25 u26 u27 u28 u29 u30 u31 u32 u33 u34 u35 u36 u37 u38 u39 u40 u41 u42 u43 u44 u45 u46 u47 u48 u49 u50 u51 u52 u53 u54 u55 u56 u57 u58 u59 u60 u61 u62 u63 u64 u65 u66 u67 u68 u69 u70 u71 u72 u73 u74 u75 u76 u77 u78 u79 u80 u81 u82 u83 u84 u85 u86 u87 u88 u89 u90 u91 u92 u93 u94 u95 u96 u97 u98 u99 u100 u101 u102 u103 u104 u105 u106 u107 u108 u109 u110 u111 u112 u113 u114 u115 u116 u117 u118 u119 u120 u121 u122 u123 u124 u125 u126 u127 u128 u129 u130 u131 u132 u133 u134 u135 u136 u137 u138 u139 u140 u141 u142 u143 u144 u145 u146 u147 u148 u149 u150 u151 u152 u153 u154 u155 u156 u157 u158 u159 u160 u161 u162 u163 u164 u165 u166 u167 u168 u169 u170 u171 u172 u173 u174 u175 u176 u177 u178 u179 u180 u181 u182 u183:Value)
  (HE:Hid (Er v x ok er er3)) (HC:Hid (Cu wr ⟨B,sb,rb,g,cap,L⟩ x (some (L.length - u.length)) er3 (kc,((L.length - u.length:Nat):Int),l,c))) (HF:Hid (FS B sb rb w wr)) (HB:Hid (Blk wr rc #[a0,a1,a2,a3,a4,a5] 95)) (HR:Hid (rc ≠ sb/\rc ≠ rb/\w.heap.size<=rc/\B<=rc)) (HU:Hid (Suf L u)) (hxu:x.length<=u.length) (hk0:k0 < 7)
  (HQ:Hid (r=(if k0=1/\bW (u.take (u.length - x.length))=true then 3 else k0,u,x,ok))) (cx:Int) (hcx:cx=chr x) :
  Code.wp Tryz.prog ntEnd (Exit.jump 0 J (bodyPost Tryz.prog Tryz.f76 (NTq w ⟨B,sb,rb,g,cap,L⟩ v er r))) { tmps:=#[.pointer (some ⟨sb,0,none⟩),u1,.pointer (some ⟨rc,0,none⟩),.int .i32 cx,.int .i64 (k0:Nat),u5,u6,u7,u8,u9,u10,u11,u12,u13,u14,u15,u16,u17,u18,u19,u20,u21,u22,u23,u24,u25,u26,u27,u28,u29,u30,u31,u32,u33,u34,u35,u36,u37,u38,u39,u40,u41,u42,u43,u44,u45,u46,u47,u48,u49,u50,u51,u52,u53,u54,u55,u56,u57,u58,u59,u60,u61,u62,u63,u64,u65,u66,u67,u68,u69,u70,u71,u72,u73,u74,u75,u76,u77,u78,u79,u80,u81,u82,u83,u84,u85,u86,u87,u88,u89,u90,u91,u92,u93,u94,u95,u96,u97,u98,u99,u100,u101,u102,u103,u104,u105,u106,u107,u108,u109,u110,u111,u112,u113,u114,u115,u116,u117,u118,u119,u120,u121,u122,u123,u124,u125,u126,u127,u128,u129,u130,u131,u132,u133,u134,u135,u136,u137,u138,u139,u140,u141,u142,u143,u144,u145,u146,u147,u148,u149,u150,u151,u152,u153,u154,u155,u156,u157,u158,u159,u160,u161,u162,u163,u164,u165,u166,u167,u168,u169,u170,u171,u172,u173,u174,u175,u176,u177,u178,u179,u180,u181,u182,u183],defers:=[] } wr:=by
 subst hcx
 obtain⟨hsx,f,⟨hS,hRd,hI,hP⟩,hlc,hkp⟩:=HC.out
 change Scn wr B sb rb f at hS
 change Rd wr rb g cap L.length (f.off+f.e)at hRd
 change SI L f _ _ _ _ at hI
 change Suf L x at hsx
 have hmp:=hI.mp
 have hp1:=hI.pe
 have hp2:=hI.e1
 have hq:=hI.q
 have hlt:=hS.lt
 have c26:wr.cell? ⟨sb,1026,none⟩=some (.int .i64 f.p):=hS.cell 1026 (by omega)
 have c32:wr.cell? ⟨sb,1032,none⟩=some (.int .i64 (clen x)):=by rw[<- hlc];exact hS.cell 1032 (by omega)
 have z37:=hS.free 1037
 have z38:=hS.free 1038
 have i37:∃ y,wr.cell? ⟨sb,1037,none⟩=some y:=⟨_,hS.cell 1037 (by omega)⟩
 have i38:∃ y,wr.cell? ⟨sb,1038,none⟩=some y:=⟨_,hS.cell 1038 (by omega)⟩
 obtain⟨y37,i37⟩:=i37
 obtain⟨y38,i38⟩:=i38
 have hw1:IntKind.i64.wrap ((f.p:Int) - (clen x:Int))=((f.p - clen x:Nat):Int):=(IntWalk.i64_in _ (by omega)).trans (by omega)
 have HS:=hqZ hS
 have HD:=hqZ hRd
 have HI:=hqZ hI
 have HP:=hqZ hP
 have HLC:=hqZ hlc
 have HKP:=hqZ hkp
 have HSX:=hqZ hsx
 clear hS hRd hI hP hlc hkp hsx hq HC
 conv=>arg 2;whnf
 go_wp2_with fail
 go_still_tail 12,(by kernel_rfl)
 change wpList _ _ _ _ _ wr.drew
 go_wp2_with fail
 have hfr:Fr (fun k=>k=sb) wr (((wr.setCell ⟨sb,1037,none⟩ (.int .i64 ((f.p - clen x:Nat):Int))).setCell ⟨sb,1038,none⟩ (.int .i32 (chr x))).drew):=((((Fr.refl (fun k=>k=sb) wr).set (.inl rfl)).set (.inl rfl)).drew)
 have HS:=hqZ (show Scn (((wr.setCell ⟨sb,1037,none⟩ (.int .i64 ((f.p - clen x:Nat):Int))).setCell ⟨sb,1038,none⟩ (.int .i32 (chr x))).drew) B sb rb { f with te:=((f.p - clen x:Nat):Int),ch:=chr x } from Scn.sch (f:={ f with te:=((f.p - clen x:Nat):Int) }) (HS.out.ste _) _)
 have HST:=hqZ (show StF (((wr.setCell ⟨sb,1037,none⟩ (.int .i64 ((f.p - clen x:Nat):Int))).setCell ⟨sb,1038,none⟩ (.int .i32 (chr x))).drew) ⟨B,sb,rb,g,cap,L⟩ { f with te:=((f.p - clen x:Nat):Int),ch:=chr x } (L.length - x.length+clen x) (clen x) (some (L.length - u.length)) er3 from
  ⟨HS.out,HD.out.sb hfr HP.out.ne,by have i:=HI.out;exact⟨i.pe,i.e1,i.len,i.buf,i.sen,i.q,i.mp,i.er,i.tk⟩,HP.out.fs (FS.sb hfr)⟩)
 have HF:=hqZ (HF.out.trans (FS.sb hfr))
 have HB:=hqZ (HB.out.next hfr HR.out.1)
 have HT:=hqZ (mf _ ⟨B,sb,rb,g,cap,L⟩ _ _ _ _ _ HST.out HLC.out rfl)
 clear HS HST hfr c26 c32 z37 z38 i37 i38
 generalize ((wr.setCell ⟨sb,1037,none⟩ (.int .i64 ((f.p - clen x:Nat):Int))).setCell ⟨sb,1038,none⟩ (.int .i32 (chr x))).drew=w1 at *
 go_wp2_with fail
 refine HT.out.mono ?_
 rintro e w2 ⟨rfl,f2,hst2,hlc2,hkp2,hfs2⟩
 have htx:(L.drop (L.length - u.length)).take (L.length - x.length+clen x - clen x - (L.length - u.length))=u.take (u.length - x.length):=by
  have h1:=HU.out
  have h2:=h1.len
  have h3:=HSX.out.len
  rw[<- (show u=L.drop (L.length - u.length)from h1)]
  congr 1
  omega
 rw[htx]
 have hkk:f2.kp=(chr x,((L.length - u.length:Nat):Int),l,c):=by
  rw[hkp2]
  have:=HKP.out
  unfold SF.kp at this ⊢
  simp only[Prod.mk.injEq]at this ⊢
  exact⟨trivial,this.2.1,this.2.2.1,this.2.2.2⟩
 have HB:=hqZ (HB.out.fs hfs2 HR.out.1 HR.out.2.1 (by decide))
 have HF:=hqZ (HF.out.trans hfs2)
 have HS2:=hqZ hst2
 have HL2:=hqZ hlc2
 have HK2:=hqZ hkk
 clear hst2 hlc2 hkp2 hfs2 htx hkk HT
 obtain⟨txt,htxt⟩:∃ t,t=u.take (u.length - x.length):=⟨_,rfl⟩
 rw[<- htxt]at HQ ⊢
 have HTX:=hqZ htxt
 clear htxt
 have hfin:∀ (W:World),Fr (fun _=>False) w2 W->W.cell? ⟨sb,1040,none⟩=some (.string ⟨#[]⟩)/\W.cell? ⟨sb,1041,none⟩=some (.int .i64 ((L.length - u.length:Nat):Int))/\W.cell? ⟨sb,1042,none⟩=some (.int .i64 l)/\W.cell? ⟨sb,1043,none⟩=some (.int .i64 c):=by
  intro W hf
  have h1:Scn W B sb rb f2:=HS2.out.1.new hf
  have hk:=HK2.out
  unfold SF.kp at hk
  simp only[Prod.mk.injEq]at hk
  refine⟨h1.cell 1040 (by omega),?_,?_,?_⟩
  .rw[<- hk.2.1];exact h1.cell 1041 (by omega)
  .rw[<- hk.2.2.1];exact h1.cell 1042 (by omega)
  .rw[<- hk.2.2.2];exact h1.cell 1043 (by omega)
 have HFIN:=hqZ hfin
 clear hfin
 by_cases hk1:k0=1
 case pos =>
  subst hk1
  go_wp2_with fail
  refine(om _ ⟨txt.toArray⟩).mono ?_
  rintro e w3 ⟨rfl,hn3⟩
  have HN:=hqZ hn3
  have HB:=hqZ (HB.out.next hn3 id)
  obtain⟨d0,d1,d2,d3⟩:=HFIN.out w3 HN.out
  obtain⟨ff,hrl,b0,b1,b2,b3,b4,b5⟩:=HB.out.f6
  have y0:=ff 0
  have y1:=ff 1
  have y2:=ff 2
  have y3:=ff 3
  have y4:=ff 4
  have y5:=ff 5
  clear hn3 ff
  cases hq:bW txt
  case true =>
   go_wp2_with fail
   simp only[Exit.jump]
   refine bodyPost_ret (v:=(.agg #[.int .i64 (3:Nat),.string ⟨#[]⟩,.int .i64 ((L.length - u.length:Nat):Int),.int .i64 l,.int .i64 c,.string ⟨txt.toArray⟩])) (by simp only[results,Tryz.results76];go_simp) rfl ?_
   exact ob 3 HE.out HSX.out HS2.out HL2.out HK2.out HN.out HF.out HB.out HR.out HTX.out (by rw[HQ.out];simp[hq])
  case false =>
   go_wp2_with fail
   simp only[Exit.jump]
   refine bodyPost_ret (v:=(.agg #[.int .i64 (1:Nat),.string ⟨#[]⟩,.int .i64 ((L.length - u.length:Nat):Int),.int .i64 l,.int .i64 c,.string ⟨txt.toArray⟩])) (by simp only[results,Tryz.results76];go_simp) rfl ?_
   exact ob 1 HE.out HSX.out HS2.out HL2.out HK2.out HN.out HF.out HB.out HR.out HTX.out (by rw[HQ.out];simp[hq])
 case neg =>
  have hz:((k0:Int) == 1)=false:=by simp;omega
  obtain⟨d0,d1,d2,d3⟩:=HFIN.out w2 Fr.r
  obtain⟨ff,hrl,b0,b1,b2,b3,b4,b5⟩:=HB.out.f6
  have y0:=ff 0
  have y1:=ff 1
  have y2:=ff 2
  have y3:=ff 3
  have y4:=ff 4
  have y5:=ff 5
  clear ff
  go_wp2_with fail
  simp only[Exit.jump]
  refine bodyPost_ret (v:=(.agg #[.int .i64 (k0:Nat),.string ⟨#[]⟩,.int .i64 ((L.length - u.length:Nat):Int),.int .i64 l,.int .i64 c,.string ⟨txt.toArray⟩])) (by simp only[results,Tryz.results76];go_simp) rfl ?_
  exact ob k0 HE.out HSX.out HS2.out HL2.out HK2.out Fr.r HF.out HB.out HR.out HTX.out (by rw[HQ.out,if_neg (fun h=>hk1 h.1)])
end Go.Proofs.YtbdhlpeckennjaaGreatDoor
