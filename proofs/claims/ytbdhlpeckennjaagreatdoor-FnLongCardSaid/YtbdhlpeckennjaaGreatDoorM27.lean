/- FnLong (the proof that the law returns true for every input), part 27 of 52; the last part says what is proved, and its condition. -/
import Derived.Lib.BufferAt
import Derived.Lib.BufferKept
import Derived.Laws.IdiomCopy
import Derived.Shelf.LaysM
import Derived.Shelf.Bytes.LenAt
import Derived.Shelf.Bytes.StringAt
import Derived.Shelf.Bytes.TryGrowAt
import Derived.Shelf.Bytes.GrowAt
import Derived.Test.YtbdhlpeckennjaaGreatDoorProg
import Derived.Lib.BufferSrc
import Derived.Deep.QuietTactic
import Derived.BigQuiet
import Derived.StillTailTactics
import Derived.Test.YtbdhlpeckennjaaGreatDoorM04
import Derived.Test.YtbdhlpeckennjaaGreatDoorM26
set_option linter.unusedVariables false
set_option linter.unusedSimpArgs false
set_option maxHeartbeats 80000000
set_option maxRecDepth 1000000
namespace Go.Proofs.YtbdhlpeckennjaaGreatDoor
open Go Go.RowKit
structure SF where
 buf:Nat->UInt8
 p:Nat
 e:Nat
 off:Nat
 ln:Int
 col:Int
 ll:Int
 lc:Nat
 tok:List UInt8
 tp:Int
 te:Int
 ch:Int
 er:Value
 po:Int
 pl:Int
 pc:Int
def RF (rb:Nat)(f:SF)(i:Nat):Option Value :=
 if i=0 then some (.iface 133 (.pointer (some ⟨rb,0,none⟩)))
 else if i<=1025 then some (.int .u8 (f.buf (i - 1)).toNat)
 else if i=1026 then some (.int .i64 f.p)
 else if i=1027 then some (.int .i64 f.e)
 else if i=1028 then some (.int .i64 f.off)
 else if i=1029 then some (.int .i64 f.ln)
 else if i=1030 then some (.int .i64 f.col)
 else if i=1031 then some (.int .i64 f.ll)
 else if i=1032 then some (.int .i64 f.lc)
 else if i=1036 then some (.int .i64 f.tp)
 else if i=1037 then some (.int .i64 f.te)
 else if i=1038 then some (.int .i32 f.ch)
 else if i=1039 then some f.er
 else if i=1040 then some (.string ⟨#[]⟩)
 else if i=1041 then some (.int .i64 f.po)
 else if i=1042 then some (.int .i64 f.pl)
 else if i=1043 then some (.int .i64 f.pc)
 else none
theorem RF_some(rb:Nat)(f:SF)(i:Nat)(h:i < 1033\/(1036<=i/\i < 1044)):∃ v,RF rb f i=some v:=by
 by_cases h0:i=0
 .subst h0;exact⟨_,rfl⟩
 by_cases h1:i<=1025
 .exact⟨_,by unfold RF;rw[if_neg h0,if_pos h1]⟩
 have:i=1026\/i=1027\/i=1028\/i=1029\/i=1030\/i=1031\/i=1032\/i=1036\/i=1037\/i=1038\/i=1039\/i=1040\/i=1041\/i=1042\/i=1043:=by omega
 rcases this with rfl|rfl|rfl|rfl|rfl|rfl|rfl|rfl|rfl|rfl|rfl|rfl|rfl|rfl|rfl <;> exact⟨_,rfl⟩
def Scn (w:World)(B sb rb:Nat)(f:SF):Prop:=LibA.IsBuffer 216 (RF rb f) 5 B sb 1033 (Lib.byteCells f.tok) w
section
variable {w w':World} {B sb rb:Nat} {f:SF}
theorem Scn.lt(h:Scn w B sb rb f):sb < w.heap.size:=LibA.IsBuffer.lt h
theorem Scn.cell(h:Scn w B sb rb f)(i:Nat)(hi:i < 1033\/1036<=i):w.cell? ⟨sb,i,none⟩=RF rb f i:=LibA.IsBuffer.rest h i (by omega)
theorem Scn.free(h:Scn w B sb rb f)(i:Nat):w.frozen? ⟨sb,i,none⟩=false:=LibA.IsBuffer.notFrozen h i
theorem Scn.byte(h:Scn w B sb rb f)(j:Nat)(hj:j < 1025):w.cell? ⟨sb,1+j,none⟩=some (.int .u8 (f.buf j).toNat):=by
 rw[h.cell _ (by omega)]
 unfold RF
 rw[if_neg (by omega),if_pos (by omega),Nat.add_sub_cancel_left]
theorem ct{T e:TypeId}{R R':Nat->Option Value}{B b o:Nat}{bs:List Value}{w:World}(h:LibA.IsBuffer T R e B b o bs w)(hR:∀ i,(i < o\/o+3<=i)->R i=R' i):LibA.IsBuffer T R' e B b o bs w:=by
 obtain⟨hB,v,lr,⟨cs,hb,h0,h1,h2,hr⟩,r⟩:=h
 exact⟨hB,v,lr,⟨cs,hb,h0,h1,h2,fun i hi=>(hr i hi).trans (hR i hi)⟩,r⟩
theorem Scn.set(h:Scn w B sb rb f)(i:Nat)(hi:i < 1033\/1036<=i)(hi2:i < 1044){x:Value}{f':SF}(hx:RF rb f' i=some x)(ho:∀ j,j ≠ i->(j < 1033\/1036<=j)->RF rb f j=RF rb f' j)(ht:f'.tok=f.tok) :
  Scn (w.setCell ⟨sb,i,none⟩ x) B sb rb f':=by
 obtain⟨old,hold⟩:=RF_some rb f i (by omega)
 unfold Scn
 rw[ht]
 refine ct (LibA.IsBuffer.setOther h i (by omega) hold x) fun j hj=>?_
 by_cases hji:j=i
 .subst hji;rw[if_pos rfl,hx]
 .rw[if_neg hji];exact ho j hji (by omega)
theorem Scn.sp(h:Scn w B sb rb f)(n:Nat){v:Value}(hv:v = .int .i64 (n:Int)):Scn (w.setCell ⟨sb,1026,none⟩ v) B sb rb { f with p:=n }:=by
 subst hv;exact h.set 1026 (by omega) (by omega) rfl (fun j hj hj2=>by simp[RF,hj]) rfl
theorem Scn.se(h:Scn w B sb rb f)(n:Nat){v:Value}(hv:v = .int .i64 (n:Int)):Scn (w.setCell ⟨sb,1027,none⟩ v) B sb rb { f with e:=n }:=by
 subst hv;exact h.set 1027 (by omega) (by omega) rfl (fun j hj hj2=>by simp[RF,hj]) rfl
theorem Scn.soff(h:Scn w B sb rb f)(n:Nat){v:Value}(hv:v = .int .i64 (n:Int)):Scn (w.setCell ⟨sb,1028,none⟩ v) B sb rb { f with off:=n }:=by
 subst hv;exact h.set 1028 (by omega) (by omega) rfl (fun j hj hj2=>by simp[RF,hj]) rfl
theorem Scn.sln(h:Scn w B sb rb f)(n:Int):Scn (w.setCell ⟨sb,1029,none⟩ (.int .i64 n)) B sb rb { f with ln:=n }:=h.set 1029 (by omega) (by omega) rfl (fun j hj hj2=>by simp[RF,hj]) rfl
theorem Scn.scol(h:Scn w B sb rb f)(n:Int):Scn (w.setCell ⟨sb,1030,none⟩ (.int .i64 n)) B sb rb { f with col:=n }:=h.set 1030 (by omega) (by omega) rfl (fun j hj hj2=>by simp[RF,hj]) rfl
theorem Scn.sll(h:Scn w B sb rb f)(n:Int):Scn (w.setCell ⟨sb,1031,none⟩ (.int .i64 n)) B sb rb { f with ll:=n }:=h.set 1031 (by omega) (by omega) rfl (fun j hj hj2=>by simp[RF,hj]) rfl
theorem Scn.slc(h:Scn w B sb rb f)(n:Nat){v:Value}(hv:v = .int .i64 (n:Int)):Scn (w.setCell ⟨sb,1032,none⟩ v) B sb rb { f with lc:=n }:=by
 subst hv;exact h.set 1032 (by omega) (by omega) rfl (fun j hj hj2=>by simp[RF,hj]) rfl
theorem Scn.stp(h:Scn w B sb rb f)(n:Int):Scn (w.setCell ⟨sb,1036,none⟩ (.int .i64 n)) B sb rb { f with tp:=n }:=h.set 1036 (by omega) (by omega) rfl (fun j hj hj2=>by simp[RF,hj]) rfl
theorem Scn.ste(h:Scn w B sb rb f)(n:Int):Scn (w.setCell ⟨sb,1037,none⟩ (.int .i64 n)) B sb rb { f with te:=n }:=h.set 1037 (by omega) (by omega) rfl (fun j hj hj2=>by simp[RF,hj]) rfl
theorem Scn.sch(h:Scn w B sb rb f)(n:Int):Scn (w.setCell ⟨sb,1038,none⟩ (.int .i32 n)) B sb rb { f with ch:=n }:=h.set 1038 (by omega) (by omega) rfl (fun j hj hj2=>by simp[RF,hj]) rfl
theorem Scn.ser(h:Scn w B sb rb f)(n:Value):Scn (w.setCell ⟨sb,1039,none⟩ n) B sb rb { f with er:=n }:=h.set 1039 (by omega) (by omega) rfl (fun j hj hj2=>by simp[RF,hj]) rfl
theorem Scn.spo(h:Scn w B sb rb f)(n:Int):Scn (w.setCell ⟨sb,1041,none⟩ (.int .i64 n)) B sb rb { f with po:=n }:=h.set 1041 (by omega) (by omega) rfl (fun j hj hj2=>by simp[RF,hj]) rfl
theorem Scn.spl(h:Scn w B sb rb f)(n:Int):Scn (w.setCell ⟨sb,1042,none⟩ (.int .i64 n)) B sb rb { f with pl:=n }:=h.set 1042 (by omega) (by omega) rfl (fun j hj hj2=>by simp[RF,hj]) rfl
theorem Scn.spc(h:Scn w B sb rb f)(n:Int):Scn (w.setCell ⟨sb,1043,none⟩ (.int .i64 n)) B sb rb { f with pc:=n }:=h.set 1043 (by omega) (by omega) rfl (fun j hj hj2=>by simp[RF,hj]) rfl
theorem Scn.sbyte(h:Scn w B sb rb f)(j:Nat)(hj:j < 1025)(b:UInt8){i:Nat}(hi:i=1+j){v:Value}(hv:v = .int .u8 (b.toNat:Int)):Scn (w.setCell ⟨sb,i,none⟩ v) B sb rb { f with buf:=fun k=>if k=j then b else f.buf k }:=by
 subst hi hv
 refine h.set (1+j) (by omega) (by omega) ?_ (fun k hk hk2=>?_) rfl
 .unfold RF;rw[if_neg (by omega),if_pos (by omega)];simp
 .unfold RF
  by_cases h0:k=0
  .simp[h0]
  by_cases h1:k<=1025
  .have:¬ k - 1=j:=by omega
   simp[h0,h1,this]
  .simp[h0,h1]
theorem Scn.sbs:∀ (l:List UInt8) (o:Nat) (w:World) (f:SF),Scn w B sb rb f->o+l.length<=1025->Scn (w.setCells sb (1+o) (Lib.byteCells l)) B sb rb { f with buf:=fun k=>if o<=k/\k < o+l.length then l.getD (k - o) 0 else f.buf k }
 | [],o,w,f,h,_=>by
  have e:(fun k=>if o<=k/\k < o+([]:List UInt8).length then([]:List UInt8).getD (k - o) 0 else f.buf k)=f.buf:=by
   funext k;rw[if_neg (by simp)]
  rw[e];exact h
 | b::l,o,w,f,h,hl=>by
  simp only[List.length_cons]at hl
  have h1:=Scn.sbs l (o+1) _ _ (h.sbyte o (by omega) b rfl rfl) (by omega)
  have e:(fun k=>if o+1<=k/\k < o+1+l.length then l.getD (k - (o+1)) 0 else(if k=o then b else f.buf k))=(fun k=>if o<=k/\k < o+(b::l).length then(b::l).getD (k - o) 0 else f.buf k):=by
   funext k
   simp only[List.length_cons]
   by_cases hk:k=o
   .subst hk;rw[if_neg (by omega),if_pos rfl,if_pos (by omega),Nat.sub_self];rfl
   .by_cases hk2:o+1<=k/\k < o+1+l.length
    .rw[if_pos hk2,if_pos (by omega),show k - o=(k - (o+1))+1 from by omega];rfl
    .rw[if_neg hk2,if_neg hk,if_neg (by omega)]
  simp only at h1
  rw[e]at h1
  simpa[Lib.byteCells,World.setCells,Nat.add_assoc] using h1
end
structure FS(B sb rb:Nat)(w w':World):Prop where
 os:w'.os=w.os
 tape:w'.tape=w.tape
 output:w'.output=w.output
 size:w.heap.size<=w'.heap.size
 block:∀ k o,w.heap[k]? = some o->k ≠ sb->k ≠ rb->(k < B\/∀ c fz,o ≠ .cells c 5 fz)->w'.heap[k]? = some o
section
variable {B sb rb:Nat} {w w1 w2:World}
theorem FS.refl:FS B sb rb w w:=⟨rfl,rfl,rfl,Nat.le_refl _,fun _ _ h _ _ _=>h⟩
theorem FS.trans(h:FS B sb rb w w1)(k:FS B sb rb w1 w2):FS B sb rb w w2 :=
 ⟨k.os.trans h.os,k.tape.trans h.tape,k.output.trans h.output,Nat.le_trans h.size k.size,fun i o hi h1 h2 h3=>k.block i o (h.block i o hi h1 h2 h3) h1 h2 h3⟩
theorem FS.new(h:Fr (fun _=>False) w w1):FS B sb rb w w1:=⟨h.os,h.tape,h.output,h.size,fun k o hk _ _ _=>(h.block k (Array.getElem?_eq_some_iff.1 hk).1 id).trans hk⟩
theorem FS.drew(h:FS B sb rb w w1):FS B sb rb w w1.drew:=⟨h.os,h.tape,h.output,h.size,h.block⟩
theorem FS.drewN(h:FS B sb rb w w1)(n:Nat):FS B sb rb w (w1.drewN n):=⟨h.os,h.tape,h.output,h.size,h.block⟩
theorem FS.alloc(h:FS B sb rb w w1)(o:Obj):FS B sb rb w (w1.alloc o):=h.trans (.new (Fr.r.alloc o))
theorem FS.set{b:Nat}(h:FS B sb rb w w1)(hb:b=sb\/b=rb)(i:Nat)(v:Value):FS B sb rb w (w1.setCell ⟨b,i,none⟩ v) :=
 h.trans ⟨rfl,rfl,rfl,by simp[World.setCell],fun k o hk h1 h2 _=>(fT _ _ _ _ _ (by rintro rfl;rcases hb with e|e;exact h1 e;exact h2 e)).trans hk⟩
theorem FS.setNew{b:Nat}(h:FS B sb rb w w1)(hb:w.heap.size<=b)(i:Nat)(v:Value):FS B sb rb w (w1.setCell ⟨b,i,none⟩ v) :=
 ⟨h.os,h.tape,h.output,by simpa[World.setCell] using h.size,fun k o hk h1 h2 h3=>(fT _ _ _ _ _ (by have:=(Array.getElem?_eq_some_iff.1 hk).1;omega)).trans (h.block k o hk h1 h2 h3)⟩
theorem FS.setCells{b:Nat}:∀ (vs:List Value) (i:Nat) (w1:World),FS B sb rb w w1->(b=sb\/b=rb)->FS B sb rb w (w1.setCells b i vs)
 | [],_,_,h,_=>h
 | v::vs,i,w1,h,hb=>FS.setCells vs (i+1) _ (h.set hb i v) hb
theorem FS.kept(h1:Below B w w1)(h2:Lib.OthersKept 5 (some sb) w w1)(h3:w.heap.size<=w1.heap.size):FS B sb rb w w1 :=
 ⟨h1.os,h1.tape,h1.output,h3,fun k o hk e1 e2 h=>by
  rcases h with h|h
  .rw[h1.block k h];exact hk
  .exact h2 k o hk (by simpa using e1) h⟩
theorem FS.fr(h:FS B sb rb w w1)(hs:B<=sb)(hr:B<=rb):Fr (fun k=>B<=k) w w1 :=
 ⟨h.os,h.tape,h.output,h.size,fun k hk hn=>by
  obtain⟨o,ho⟩:∃ o,w.heap[k]? = some o:=⟨_,Array.getElem?_eq_getElem hk⟩
  have:k < B:=Nat.lt_of_not_le hn
  rw[ho];exact h.block k o ho (by omega) (by omega) (.inl this)⟩
end
structure Env where
 B:Nat
 sb:Nat
 rb:Nat
 g:Nat
 cap:Nat
 l:List UInt8
def Rd (w:World)(rb g cap n x:Nat):Prop :=
 ∃ (m o:Nat) (lr:Int),Blk w rb #[.slice (some ⟨g,0,none⟩) m cap,.int .i64 o,.int .i8 lr] 214/\((m=n/\o=x/\x<=n)\/(m=0/\o=0/\x=n))
structure SI(l:List UInt8)(f:SF)(q m:Nat)(tk:Option Nat)(er:Bool):Prop where
 pe:f.p<=f.e
 e1:f.e<=1024
 len:f.off+f.e<=l.length
 buf:∀ j,j < f.e->l[f.off+j]? = some (f.buf j)
 sen:f.buf f.e=128
 q:f.off+f.p=q
 mp:m<=f.p
 er:if er=true then ∃ t u,f.er = .iface t u else f.er = .nilIface
 tk:match tk with
  | none=>f.tp = -1
  | some a=>∃ tp:Nat,f.tp=tp/\tp+m<=f.p/\a<=f.off+tp/\f.tok=(l.drop a).take (f.off+tp - a)
structure Pl(w:World)(V:Env):Prop where
 ne:V.rb ≠ V.sb
 rB:V.B<=V.rb
 sB:V.B<=V.sb
 rw:V.rb < w.heap.size
 gB:V.g < V.B
 b15:15<=V.B
 Bw:V.B<=w.heap.size
 l9:V.l.length<=90000
 lc:V.l.length<=V.cap
 by_:cK w V.g V.l
 gl:Glob w
 eo:EofV w
def StF (w:World)(V:Env)(f:SF)(q m:Nat)(tk:Option Nat)(er:Bool):Prop :=
 Scn w V.B V.sb V.rb f/\Rd w V.rb V.g V.cap V.l.length (f.off+f.e)/\SI V.l f q m tk er/\Pl w V
abbrev KP:=Int × Int × Int × Int
def SF.kp(f:SF):KP:=(f.ch,f.po,f.pl,f.pc)
def St (w:World)(V:Env)(q lc:Nat)(tk:Option Nat)(er:Bool)(ch:KP):Prop:=∃ f,StF w V f q lc tk er/\f.lc=lc/\f.kp=ch
section
variable {w w':World} {V:Env}
theorem cK.next{g:Nat}{l:List UInt8}(h:cK w g l){S:Nat->Prop}(hf:Fr S w w')(hS:¬ S g):cK w' g l :=
 ⟨Nat.lt_of_lt_of_le h.1 hf.size,fun j b hj=>(hf.cell (p:=⟨g,j,none⟩) h.1 hS).trans (h.2 j b hj)⟩
theorem Pl.next(h:Pl w V)(hf:Fr (fun k=>V.B<=k) w w'):Pl w' V :=
 ⟨h.ne,h.rB,h.sB,Nat.lt_of_lt_of_le h.rw hf.size,h.gB,h.b15,Nat.le_trans h.Bw hf.size,h.l9,h.lc,h.by_.next hf (by have:=h.gB;show ¬ _<=_;omega),
  h.gl.fr hf (fun k hk=>by have:=h.b15;show ¬ _<=_;omega) (Nat.le_trans h.b15 h.Bw),h.eo.next hf (fun k hk=>by have:=h.b15;show ¬ _<=_;omega)⟩
theorem Pl.fs(h:Pl w V)(hf:FS V.B V.sb V.rb w w'):Pl w' V:=h.next (hf.fr h.sB h.rB)
theorem Rd.new{rb g cap n x:Nat}(h:Rd w rb g cap n x)(hf:Fr (fun _=>False) w w'):Rd w' rb g cap n x:=by
 obtain⟨m,o,lr,hb,r⟩:=h
 exact⟨m,o,lr,hb.next hf id,r⟩
theorem Scn.new{B sb rb:Nat}{f:SF}(h:Scn w B sb rb f)(hf:Fr (fun _=>False) w w'):Scn w' B sb rb f:=LibA.IsBuffer.carry h fun k hk=>hf.block k hk id
theorem StF.new{f:SF}{q m:Nat}{tk:Option Nat}{er:Bool}(h:StF w V f q m tk er)(hf:Fr (fun _=>False) w w'):StF w' V f q m tk er :=
 ⟨h.1.new hf,h.2.1.new hf,h.2.2.1,h.2.2.2.fs (.new hf)⟩
theorem St.new{q lc:Nat}{tk:Option Nat}{er:Bool}{ch:KP}(h:St w V q lc tk er ch)(hf:Fr (fun _=>False) w w'):St w' V q lc tk er ch:=by
 obtain⟨f,h1,h2⟩:=h
 exact⟨f,h1.new hf,h2⟩
theorem Rd.set{rb g cap n x:Nat}(h:Rd w rb g cap n x){sb i:Nat}{v:Value}(hn:rb ≠ sb):Rd (w.setCell ⟨sb,i,none⟩ v) rb g cap n x:=by
 obtain⟨m,o,lr,hb,r⟩:=h
 exact⟨m,o,lr,hb.far hn,r⟩
end
def NX (w:World)(V:Env)(q:Nat)(tk:Option Nat)(er:Bool)(ch:KP)(e:Ending)(w':World):Prop :=
 e = .returned (.int .i32 (chr (V.l.drop q)))/\St w' V (q+clen (V.l.drop q)) (clen (V.l.drop q)) tk (er || badc (V.l.drop q)) ch/\FS V.B V.sb V.rb w w'
end Go.Proofs.YtbdhlpeckennjaaGreatDoor
namespace Go.Proofs
open Go.Shelf
def Tryz.laysM181_ren:Go.Shelf.Ren:=⟨fun|181=>143|n=>n,fun|130=>133|3=>3|0=>0|93=>214|37=>67|91=>212|5=>5|n=>n,fun|n=>n⟩
theorem Tryz.laysM181:Go.Proofs.LaysM.n181 Tryz.prog Tryz.laysM181_ren:={
 mixed:=by kernel_rfl
 f181:=Tryz.func143.trans (congrArg some (by kernel_rfl))
 t0:=Tryz.underlying0
 a0:=Tryz.isAgg0
 z0:=Tryz.sizeOf0
 v0:=Tryz.zeroValue0
 t3:=Tryz.underlying3
 a3:=Tryz.isAgg3
 z3:=Tryz.sizeOf3
 v3:=Tryz.zeroValue3
 t37:=Tryz.underlying67
 a37:=Tryz.isAgg67
 z37:=Tryz.sizeOf67
 v37:=Tryz.zeroValue67
 t93:=Tryz.underlying214
 a93:=Tryz.isAgg214
 z93:=Tryz.sizeOf214
 v93:=Tryz.zeroValue214
 t130:=Tryz.underlying133
 a130:=Tryz.isAgg133
 z130:=Tryz.sizeOf133
 v130:=Tryz.zeroValue133
 t5:=Tryz.underlying5
 a5:=Tryz.isAgg5
 z5:=Tryz.sizeOf5
 v5:=Tryz.zeroValue5
 t91:=Tryz.underlying212
 a91:=Tryz.isAgg212
 z91:=Tryz.sizeOf212
 v91:=Tryz.zeroValue212
 i0:=by kernel_rfl
 i3:=by kernel_rfl
 i5:=by kernel_rfl
 i37:=by kernel_rfl
 i91:=by kernel_rfl
 i93:=by kernel_rfl
 i130:=by kernel_rfl }
def Tryz.laysM182_ren:Go.Shelf.Ren:=⟨fun|182=>144|n=>n,fun|130=>133|9=>9|4=>4|0=>0|93=>214|37=>67|3=>3|91=>212|5=>5|n=>n,fun|n=>n⟩
theorem Tryz.laysM182:Go.Proofs.LaysM.n182 Tryz.prog Tryz.laysM182_ren:={
 mixed:=by kernel_rfl
 f182:=Tryz.func144.trans (congrArg some (by kernel_rfl))
 t0:=Tryz.underlying0
 a0:=Tryz.isAgg0
 z0:=Tryz.sizeOf0
 v0:=Tryz.zeroValue0
 t3:=Tryz.underlying3
 a3:=Tryz.isAgg3
 z3:=Tryz.sizeOf3
 v3:=Tryz.zeroValue3
 t4:=Tryz.underlying4
 a4:=Tryz.isAgg4
 z4:=Tryz.sizeOf4
 v4:=Tryz.zeroValue4
 t9:=Tryz.underlying9
 a9:=Tryz.isAgg9
 z9:=Tryz.sizeOf9
 v9:=Tryz.zeroValue9
 t37:=Tryz.underlying67
 a37:=Tryz.isAgg67
 z37:=Tryz.sizeOf67
 v37:=Tryz.zeroValue67
 t93:=Tryz.underlying214
 a93:=Tryz.isAgg214
 z93:=Tryz.sizeOf214
 v93:=Tryz.zeroValue214
 t130:=Tryz.underlying133
 a130:=Tryz.isAgg133
 z130:=Tryz.sizeOf133
 v130:=Tryz.zeroValue133
 t5:=Tryz.underlying5
 a5:=Tryz.isAgg5
 z5:=Tryz.sizeOf5
 v5:=Tryz.zeroValue5
 t91:=Tryz.underlying212
 a91:=Tryz.isAgg212
 z91:=Tryz.sizeOf212
 v91:=Tryz.zeroValue212
 i0:=by kernel_rfl
 i3:=by kernel_rfl
 i4:=by kernel_rfl
 i5:=by kernel_rfl
 i9:=by kernel_rfl
 i37:=by kernel_rfl
 i91:=by kernel_rfl
 i93:=by kernel_rfl
 i130:=by kernel_rfl }
def Tryz.laysM180_ren:Go.Shelf.Ren:=⟨fun|180=>137|251=>154|252=>155|181=>143|184=>106|290=>170|324=>180|n=>n,fun|130=>133|37=>67|3=>3|75=>82|0=>0|93=>214|91=>212|131=>111|4=>4|20=>20|5=>5|80=>138|9=>9|n=>n,fun|14=>4|n=>n⟩
theorem Tryz.laysM180:Go.Proofs.LaysM.n180 Tryz.prog Tryz.laysM180_ren:={
 mixed:=by kernel_rfl
 f180:=Tryz.func137.trans (congrArg some (by kernel_rfl))
 f181:=Tryz.func143.trans (congrArg some (by kernel_rfl))
 f184:=Tryz.func106.trans (congrArg some (by kernel_rfl))
 f251:=Tryz.func154.trans (congrArg some (by kernel_rfl))
 f252:=Tryz.func155.trans (congrArg some (by kernel_rfl))
 f290:=Tryz.func170.trans (congrArg some (by kernel_rfl))
 f324:=Tryz.func180.trans (congrArg some (by kernel_rfl))
 t0:=Tryz.underlying0
 a0:=Tryz.isAgg0
 z0:=Tryz.sizeOf0
 v0:=Tryz.zeroValue0
 t3:=Tryz.underlying3
 a3:=Tryz.isAgg3
 z3:=Tryz.sizeOf3
 v3:=Tryz.zeroValue3
 t4:=Tryz.underlying4
 a4:=Tryz.isAgg4
 z4:=Tryz.sizeOf4
 v4:=Tryz.zeroValue4
 t20:=Tryz.underlying20
 a20:=Tryz.isAgg20
 z20:=Tryz.sizeOf20
 v20:=Tryz.zeroValue20
 t37:=Tryz.underlying67
 a37:=Tryz.isAgg67
 z37:=Tryz.sizeOf67
 v37:=Tryz.zeroValue67
 t75:=Tryz.underlying82
 a75:=Tryz.isAgg82
 z75:=Tryz.sizeOf82
 v75:=Tryz.zeroValue82
 t91:=Tryz.underlying212
 a91:=Tryz.isAgg212
 z91:=Tryz.sizeOf212
 v91:=Tryz.zeroValue212
 t93:=Tryz.underlying214
 a93:=Tryz.isAgg214
 z93:=Tryz.sizeOf214
 v93:=Tryz.zeroValue214
 t130:=Tryz.underlying133
 a130:=Tryz.isAgg133
 z130:=Tryz.sizeOf133
 v130:=Tryz.zeroValue133
 t131:=Tryz.underlying111
 a131:=Tryz.isAgg111
 z131:=Tryz.sizeOf111
 v131:=Tryz.zeroValue111
 g14:=by kernel_rfl
 t5:=Tryz.underlying5
 a5:=Tryz.isAgg5
 z5:=Tryz.sizeOf5
 v5:=Tryz.zeroValue5
 t9:=Tryz.underlying9
 a9:=Tryz.isAgg9
 z9:=Tryz.sizeOf9
 v9:=Tryz.zeroValue9
 t80:=Tryz.underlying138
 a80:=Tryz.isAgg138
 z80:=Tryz.sizeOf138
 v80:=Tryz.zeroValue138
 i0:=by kernel_rfl
 i3:=by kernel_rfl
 i4:=by kernel_rfl
 i5:=by kernel_rfl
 i9:=by kernel_rfl
 i20:=by kernel_rfl
 i37:=by kernel_rfl
 i75:=by kernel_rfl
 i80:=by kernel_rfl
 i91:=by kernel_rfl
 i93:=by kernel_rfl
 i130:=by kernel_rfl
 i131:=by kernel_rfl
 m14:=by kernel_rfl }
open Go.RowKit in
theorem Tryz.Buffer_Len_at(T:TypeId)(R:Nat->Option Value)(B b q:Nat)(bs:List Value)(w:World)(h:LibA.IsBuffer T R 5 B b q bs w) :
  Calls Tryz.prog 143 #[.pointer (some ⟨b,q,none⟩)] w fun e w'=>e = .returned (.int .i64 bs.length)/\∃ n,w'=w.drewN n:=Any.Buffer_Len_at Tryz.laysM181 T R B b q bs w h
open Go.RowKit in
theorem Tryz.Buffer_String_at(T:TypeId)(R:Nat->Option Value)(B b q:Nat)(l:List UInt8)(w:World)(h:LibA.IsBuffer T R 5 B b q (Lib.byteCells l) w) :
  Calls Tryz.prog 144 #[.pointer (some ⟨b,q,none⟩)] w fun e w'=>e = .returned (.string ⟨l.toArray⟩)/\∃ n,w'=w.drewN n:=Any.Buffer_String_at Tryz.laysM182 T R B b q l w h
end Go.Proofs
namespace Go.Proofs.YtbdhlpeckennjaaGreatDoor
open Go Go.RowKit
theorem iI(l:List UInt8):∀ v ∈ Lib.byteCells l,v.oneCell'=true:=by
 intro v hv
 obtain⟨b,_,rfl⟩:=List.mem_map.1 hv
 rfl
theorem gV(T:TypeId)(R:Nat->Option Value)(B b q n:Nat)(bs:List Value)(w:World)(h:LibA.IsBuffer T R 5 B b q bs w) :
  Calls Tryz.prog 154 #[.pointer (some ⟨b,q,none⟩),.int .i64 n] w fun e w' =>
   (e = .returned (.tuple #[.int .i64 bs.length,.bool true])/\∃ xs,xs.length=n/\LibA.IsBuffer T R 5 B b q (bs++xs) w'/\Below B w w'/\Lib.OthersKept 5 (some b) w w'/\w.grownBy w' (some b)) \/
   (e = .returned (.tuple #[.int .i64 0,.bool false])/\w'=w/\LibA.NoRoom b q n w):=Any.Buffer_tryGrow_at { Tryz.laysM180 with } T R B b q n bs w h
theorem rE(T:TypeId)(R:Nat->Option Value)(B b q n:Nat)(bs:List Value)(w:World)(h:LibA.IsBuffer T R 5 B b q bs w)(hnr:LibA.NoRoom b q n w)(hBw:B<=w.heap.size)(h1:∀ v ∈ bs,v.oneCell'=true)(hlim:bs.length+n<=140737488355328) :
  Calls Tryz.prog 155 #[.pointer (some ⟨b,q,none⟩),.int .i64 n] w fun e w'=>e = .returned (.int .i64 bs.length)/\∃ xs,xs.length=n/\LibA.IsBuffer T R 5 B b q (bs++xs) w'/\Below B w w'/\Lib.OthersKept 5 (some b) w w'/\w.grownBy w' (some b):=Any.Buffer_grow_at { Tryz.laysM180 with } T R B b q n bs w h hnr hBw h1 hlim
theorem u8I:(Tryz.prog.info? 5).map (·.size)=some 1:=by kernel_rfl
theorem u8S:Tryz.prog.underlying 67=some (.slice 5):=by kernel_rfl
theorem pI(T:TypeId)(R:Nat->Option Value)(B b q:Nat)(bs cs:List Value)(o n c:Nat)(w:World)(h:LibA.IsBuffer T R 5 B b q bs w)(hBw:B<=w.heap.size)(h1:∀ v ∈ bs,v.oneCell'=true)
  (hn:cs.length=n) (hoq:o+n<=q) (hsrc:∀ j v,cs[j]? = some v->R (o+j)=some v) (h1c:∀ v ∈ cs,v.oneCell'=true) (hlim:bs.length+n<=140737488355328) :
  Calls Tryz.prog 137 #[.pointer (some ⟨b,q,none⟩),.slice (some ⟨b,o,none⟩) n c] w fun e w'=>e = .returned (.tuple #[.int .i64 n,.nilIface])/\LibA.IsBuffer T R 5 B b q (bs++cs) w'/\Below B w w'/\Lib.OthersKept 5 (some b) w w':=by
 obtain⟨hB,v0,lr,hbk,-,-⟩:=id h
 have c2:w.cell? ⟨b,q+2,none⟩=some (.int .i8 lr):=hbk.c2
 have f2:w.frozen? ⟨b,q+2,none⟩=false:=hbk.f (q+2)
 have h':=h.setLast 0
 have hbel0:Below B w (w.setCell ⟨b,q+2,none⟩ (.int .i8 0)):=(Below.refl B w).setCell (p:=⟨b,q+2,none⟩) hB _
 have hk0:Lib.OthersKept 5 (some b) w (w.setCell ⟨b,q+2,none⟩ (.int .i8 0)):=(Lib.OthersKept.refl _ _ w).setCell ⟨b,q+2,none⟩ rfl _
 have hg0:w.grownBy (w.setCell ⟨b,q+2,none⟩ (.int .i8 0)) (some b):=Lib.grownBy_setCell w b (q+2) _
 have hBw':B<=(w.setCell ⟨b,q+2,none⟩ (.int .i8 0)).heap.size:=by simpa[World.setCell] using hBw
 clear hbk v0
 by_cases hs0:n=0
 .subst hs0
  have hc0:cs = []:=List.eq_nil_of_length_eq_zero hn
  subst hc0
  have hce:∀ d dLen dCap W,(Builtin.copy_ #[67,67] 3 #[.slice d dLen dCap,.slice (some ⟨b,o,none⟩) 0 c]).run Tryz.prog W = .ok (goInt 0) W:=fun d dLen dCap W=>run_copy_none W 67 67 3 5 d (some ⟨b,o,none⟩) dLen dCap 0 c u8S u8I (by simp)
  have hT:∀ W,LibA.IsBuffer T R 5 B b q bs W->Calls Tryz.prog 154 #[.pointer (some ⟨b,q,none⟩),.int .i64 0] W _:=fun W hW=>gV T R B b q 0 bs W hW
  go_enter Tryz.func137,Tryz.ntmps137
  go_wp2_with fail
  refine(hT _ ?_).mono ?_
  .exact h'
  rintro e W1 (⟨rfl,xs,hxl,hI,hbel,hk,hg⟩|⟨rfl,rfl,hnr⟩)
  .clear h' c2 f2 hT
   have hx0:xs = []:=List.eq_nil_of_length_eq_zero hxl
   subst hx0
   rw[List.append_nil]at hI
   obtain⟨-,lr2,hc⟩:=hI.cases
   rcases hc with ⟨hb0,hbk2⟩|⟨g,cap,cur,hbk2,-,-,hnc,hcm,-,-,-⟩
   .subst hb0
    have d0:W1.cell? ⟨b,q,none⟩=some (.slice none 0 0):=hbk2.c0
    go_wp2
    all_goals (go_ret2;first|exact⟨rfl,hI,hbel0.trans hbel,hk0.trans hk⟩|exact⟨by simp,by simpa using hI,hbel0.trans hbel,hk0.trans hk⟩)
   .have d0:W1.cell? ⟨b,q,none⟩=some (.slice (some ⟨g,0,none⟩) bs.length cap):=hbk2.c0
    unfold maxLen at hcm
    go_wp2
    all_goals (go_ret2;first|exact⟨rfl,hI,hbel0.trans hbel,hk0.trans hk⟩|exact⟨by simp,by simpa using hI,hbel0.trans hbel,hk0.trans hk⟩)
  .obtain⟨_,_,_,_,hlt⟩:=hnr
   omega
 .go_enter Tryz.func137,Tryz.ntmps137
  go_wp2_with fail
  refine(gV T R B b q n bs _ ?_).mono ?_
  .exact h'
  rintro e W1 (⟨rfl,xs,hxl,hI,hbel,hk,hg⟩|⟨rfl,rfl,hnr⟩)
  .have hbelW:=hbel0.trans hbel
   have hkW:=hk0.trans hk
   clear h' hbel hbel0 hBw' c2 f2
   obtain⟨-,lr2,hc⟩:=hI.cases
   rcases hc with ⟨hnil,-⟩|⟨g,cap,cur,hbk2,hBg,hg2,hnc,hcm,hcs,htk,hgb⟩
   .exact absurd (congrArg List.length hnil) (by rw[List.length_append,hxl,List.length_nil];omega)
   rw[List.length_append,hxl]at hbk2 hnc htk
   have d0:W1.cell? ⟨b,q,none⟩=some (.slice (some ⟨g,0,none⟩) (bs.length+n) cap):=hbk2.c0
   have hne:¬ cap=bs.length:=by omega
   have hsrc1:∀ j v,cs[j]? = some v->W1.cell? ((⟨b,o,none⟩:Addr).add j)=some v:=fun j v hj=>by
    have hjn:j < n:=by rw[<- hn];exact(List.getElem?_eq_some_iff.1 hj).1
    rw[show((⟨b,o,none⟩:Addr).add j)=⟨b,o+j,none⟩from by unfold Addr.add;split <;> simp_all,hI.rest (o+j) (by omega)]
    exact hsrc j v hj
   have hcp:=run_copy_row (P:=Tryz.prog) W1 67 67 3 5 g bs.length n (cap - bs.length) ⟨b,o,none⟩ n c cur 5 cs u8S u8I hg2 (by rw[hn];exact(Nat.min_self n).symm) hsrc1 (by rw[hn];omega) h1c
   rw[hn]at hcp
   have hcm':=hcm
   unfold maxLen at hcm'
   go_wp2
   go_ret2
   obtain⟨r1,r2⟩:=LibA.written_end (news:=cs) (l:=bs.length) hB (by rw[hn];exact hbk2) hBg hg2 hcm hcs hgb (by rw[hn];exact hnc)
   have e1:cur.toList.take bs.length=bs:=by
    have h3:=congrArg (List.take bs.length) htk
    rwa [List.take_take,Nat.min_eq_left (Nat.le_add_right _ _),List.take_left' rfl]at h3
   rw[e1,hn]at r1 r2
   refine⟨rfl,?_,?_,hkW.setRow hg2 _⟩ <;> rw[e1,<- List.append_assoc]
   .exact r1
   .exact hbelW.trans r2
  .go_wp2_with fail
   refine(rE T R B b q n bs _ ?_ ?_ ?_ h1 hlim).mono ?_
   .exact h'
   .exact hnr
   .exact hBw'
   rintro e W1 ⟨rfl,xs,hxl,hI,hbel,hk,hg⟩
   have hbelW:=hbel0.trans hbel
   have hkW:=hk0.trans hk
   clear h' hbel hbel0 hBw' c2 f2 hnr
   obtain⟨-,lr2,hc⟩:=hI.cases
   rcases hc with ⟨hnil,-⟩|⟨g,cap,cur,hbk2,hBg,hg2,hnc,hcm,hcs,htk,hgb⟩
   .exact absurd (congrArg List.length hnil) (by rw[List.length_append,hxl,List.length_nil];omega)
   rw[List.length_append,hxl]at hbk2 hnc htk
   have d0:W1.cell? ⟨b,q,none⟩=some (.slice (some ⟨g,0,none⟩) (bs.length+n) cap):=hbk2.c0
   have hne:¬ cap=bs.length:=by omega
   have hsrc1:∀ j v,cs[j]? = some v->W1.cell? ((⟨b,o,none⟩:Addr).add j)=some v:=fun j v hj=>by
    have hjn:j < n:=by rw[<- hn];exact(List.getElem?_eq_some_iff.1 hj).1
    rw[show((⟨b,o,none⟩:Addr).add j)=⟨b,o+j,none⟩from by unfold Addr.add;split <;> simp_all,hI.rest (o+j) (by omega)]
    exact hsrc j v hj
   have hcp:=run_copy_row (P:=Tryz.prog) W1 67 67 3 5 g bs.length n (cap - bs.length) ⟨b,o,none⟩ n c cur 5 cs u8S u8I hg2 (by rw[hn];exact(Nat.min_self n).symm) hsrc1 (by rw[hn];omega) h1c
   rw[hn]at hcp
   have hcm':=hcm
   unfold maxLen at hcm'
   go_wp2
   go_ret2
   obtain⟨r1,r2⟩:=LibA.written_end (news:=cs) (l:=bs.length) hB (by rw[hn];exact hbk2) hBg hg2 hcm hcs hgb (by rw[hn];exact hnc)
   have e1:cur.toList.take bs.length=bs:=by
    have h3:=congrArg (List.take bs.length) htk
    rwa [List.take_take,Nat.min_eq_left (Nat.le_add_right _ _),List.take_left' rfl]at h3
   rw[e1,hn]at r1 r2
   refine⟨rfl,?_,?_,hkW.setRow hg2 _⟩ <;> rw[e1,<- List.append_assoc]
   .exact r1
   .exact hbelW.trans r2
def seg (f:SF)(lo hi:Nat):List UInt8:=(List.range (hi - lo)).map fun j=>f.buf (lo+j)
theorem Rd.kept{w w':World}{sb rb g cap n x:Nat}(h:Rd w rb g cap n x)(hk:Lib.OthersKept 5 (some sb) w w')(hn:rb ≠ sb):Rd w' rb g cap n x:=by
 obtain⟨m,o,lr,hb,r⟩:=h
 exact⟨m,o,lr,hk rb _ hb (by simpa using hn) (fun c fz e=>by cases e),r⟩
theorem kn(w:World)(B sb rb:Nat)(f:SF)(lo hi c:Nat)(h:Scn w B sb rb f)(hBw:B<=w.heap.size)(hlo:lo<=hi)(hhi:hi<=1025)(hlen:f.tok.length<=1000000) :
  Calls Tryz.prog 137 #[.pointer (some ⟨sb,1033,none⟩),.slice (some ⟨sb,1+lo,none⟩) (hi - lo) c] w fun e w'=>(∃ n:Int,e = .returned (.tuple #[.int .i64 n,.nilIface]))/\Scn w' B sb rb { f with tok:=f.tok++seg f lo hi }/\Below B w w'/\Lib.OthersKept 5 (some sb) w w':=by
 refine(pI 216 (RF rb f) B sb 1033 (Lib.byteCells f.tok) (Lib.byteCells (seg f lo hi)) (1+lo) (hi - lo) c w h hBw (iI _) (by simp[Lib.byteCells_length,seg]) (by omega) ?_ (iI _) (by rw[Lib.byteCells_length];omega)).mono ?_
 .intro j v hj
  unfold Lib.byteCells seg at hj
  rw[List.map_map,List.getElem?_map]at hj
  have hjl:j < hi - lo:=by
   cases hr:(List.range (hi - lo))[j]? with
   | none=>rw[hr]at hj;cases hj
   | some k=>simpa using (List.getElem?_eq_some_iff.1 hr).1
  rw[List.getElem?_range hjl]at hj
  simp only[Option.map_some,Option.some.injEq]at hj
  subst hj
  unfold RF
  rw[if_neg (by omega),if_pos (by omega),show 1+lo+j - 1=lo+j from by omega]
  rfl
 .rintro e w' ⟨rfl,h1,h2,h3⟩
  refine⟨⟨_,rfl⟩,?_,h2,h3⟩
  unfold Scn
  rw[show Lib.byteCells (f.tok++seg f lo hi)=Lib.byteCells f.tok++Lib.byteCells (seg f lo hi)from by simp[Lib.byteCells]]
  exact ct h1 (fun i _=>rfl)
theorem pO(w:World)(B sb rb:Nat)(f:SF)(h:Scn w B sb rb f) :
  Calls Tryz.prog 106 #[.pointer (some ⟨sb,1033,none⟩)] w fun e w'=>e = .returned (.tuple #[])/\Scn w' B sb rb { f with tok:=[] }/\Fr (fun k=>k=sb) w w':=by
 obtain⟨hB,lr,hc⟩:=LibA.IsBuffer.cases h
 rcases hc with ⟨-,hbk⟩|⟨g,cap,cur,hbk,hBg,hg,hnc,hcm,hcs,-,hgb⟩
 .have c0:w.cell? ⟨sb,1033,none⟩=some (.slice none 0 0):=hbk.c0
  have c1:w.cell? ⟨sb,1034,none⟩=some (.int .i64 0):=hbk.c1
  have c2:w.cell? ⟨sb,1035,none⟩=some (.int .i8 lr):=hbk.c2
  have f0:=hbk.f 1033
  have f1:=hbk.f 1034
  have f2:=hbk.f 1035
  go_enter Tryz.func106,Tryz.ntmps106
  go_wp2
  go_end0
  exact⟨rfl,ct (LibA.zero_isBuffer hB (((hbk.set0 (.slice none 0 0)).set1 (.int .i64 0)).set2 (.int .i8 0))) (fun i _=>rfl),(((Fr.refl (fun k=>k=sb) w).set (.inl rfl)).set (.inl rfl)).set (.inl rfl)⟩
 .have c0:w.cell? ⟨sb,1033,none⟩=some (.slice (some ⟨g,0,none⟩) (Lib.byteCells f.tok).length cap):=hbk.c0
  have c1:w.cell? ⟨sb,1034,none⟩=some (.int .i64 0):=hbk.c1
  have c2:w.cell? ⟨sb,1035,none⟩=some (.int .i8 lr):=hbk.c2
  have f0:=hbk.f 1033
  have f1:=hbk.f 1034
  have f2:=hbk.f 1035
  have hcm':=hcm
  unfold maxLen at hcm'
  go_enter Tryz.func106,Tryz.ntmps106
  go_wp2
  go_end0
  have hb3:=((hbk.set0 (.slice (some ⟨g,0,none⟩) 0 cap)).set1 (.int .i64 0)).set2 (.int .i8 0)
  have hg3:(((w.setCell ⟨sb,1033,none⟩ (.slice (some ⟨g,0,none⟩) 0 cap)).setCell ⟨sb,1033+1,none⟩ (.int .i64 0)).setCell ⟨sb,1033+2,none⟩ (.int .i8 0)).heap[g]? = some (.cells cur 5 (0,0)):=by
   rw[Below.heap_setCell _ _ _ _ hgb,Below.heap_setCell _ _ _ _ hgb,Below.heap_setCell _ _ _ _ hgb]
   exact hg
  have hm:=LibA.isBuffer_mk (e:=5) (n:=0) hB hb3 hBg hg3 (Nat.zero_le _) hcm hcs hgb
  rw[List.take_zero]at hm
  exact⟨rfl,ct hm (fun i _=>rfl),(((Fr.refl (fun k=>k=sb) w).set (.inl rfl)).set (.inl rfl)).set (.inl rfl)⟩
theorem qN(w:World)(rb g m cap o:Nat)(lr:Int)(h:Blk w rb #[.slice (some ⟨g,0,none⟩) m cap,.int .i64 o,.int .i8 lr] 214) :
  Calls Tryz.prog 292 #[.pointer (some ⟨rb,0,none⟩)] w fun e w'=>e = .returned (.bool (decide (m<=o)))/\∃ n,w'=w.drewN n:=by
 have c0:=h.cell 0 _ rfl
 have c1:=h.cell 1 _ rfl
 go_enter Tryz.func292,Tryz.ntmps292
 go_wp2
 go_quiet (fail)
 go_wp2
 go_ret
 exact⟨rfl,_,rfl⟩
theorem ra(w:World)(rb g m cap o:Nat)(lr:Int)(h:Blk w rb #[.slice (some ⟨g,0,none⟩) m cap,.int .i64 o,.int .i8 lr] 214) :
  Calls Tryz.prog 106 #[.pointer (some ⟨rb,0,none⟩)] w fun e w'=>e = .returned (.tuple #[])/\Blk w' rb #[.slice (some ⟨g,0,none⟩) 0 cap,.int .i64 0,.int .i8 0] 214/\Fr (fun k=>k=rb) w w':=by
 have c0:=h.cell 0 _ rfl
 have c1:=h.cell 1 _ rfl
 have c2:=h.cell 2 _ rfl
 have f0:=h.free 0
 have f1:=h.free 1
 have f2:=h.free 2
 have HB:=hqZ h
 clear h
 go_enter Tryz.func106,Tryz.ntmps106
 go_wp2
 go_end0
 exact⟨rfl,by exact HB.out.s30.s31.s32,(((Fr.refl (fun k=>k=rb) w).set (.inl rfl)).set (.inl rfl)).set (.inl rfl)⟩
def SF.got(f:SF)(l:List UInt8)(x i k:Nat):SF:={ f with buf:=fun j=>if i<=j/\j < i+k then((l.drop x).take k).getD (j - i) 0 else f.buf j }
theorem Scn.fr{w w':World}{B sb rb:Nat}{f:SF}(h:Scn w B sb rb f){S:Nat->Prop}(hf:Fr S w w')(hS:∀ k,S k->k ≠ sb/\(∀ c fz,w.heap[k]? ≠ some (.cells c 5 fz))):Scn w' B sb rb f:=by
 have hlt:=h.lt
 obtain⟨hB,v,lr,hbk,hown,hne⟩:=h
 refine⟨hB,v,lr,hbk.of_heap (hf.block sb hlt fun e=>(hS _ e).1 rfl),⟨hown.1,?_⟩,hne⟩
 rcases hown.2 with hn|⟨g,cap,cur,hv,hbg,hg,rest⟩
 .exact .inl hn
 .exact .inr ⟨g,cap,cur,hv,hbg,(hf.block g (Array.getElem?_eq_some_iff.1 hg).1 (fun e=>(hS _ e).2 _ _ hg)).trans hg,rest⟩
theorem Scn.rdSet{w w':World}{B sb rb:Nat}{f:SF}(h:Scn w B sb rb f)(hf:Fr (fun k=>k=rb) w w')(hne:rb ≠ sb){cs:Array Value}(hb:Blk w rb cs 214):Scn w' B sb rb f :=
 h.fr hf fun k e=>by subst e;exact⟨hne,fun c fz e=>by unfold Blk at hb;rw[hb]at e;cases e⟩
def RDp (w:World)(B sb rb g cap:Nat)(l:List UInt8)(f:SF)(x i d:Nat)(eofv:Value)(e:Ending)(w':World):Prop :=
 (if x=l.length then e = .returned (.tuple #[.int .i64 0,eofv])/\Scn w' B sb rb f/\Rd w' rb g cap l.length x
  else e = .returned (.tuple #[.int .i64 (min d (l.length - x):Nat),.nilIface])/\Scn w' B sb rb (f.got l x i (min d (l.length - x)))/\Rd w' rb g cap l.length (x+min d (l.length - x)))/\FS B sb rb w w'
theorem gA(l:List UInt8)(j:Nat)(v:Value)(h:(Lib.byteCells l)[j]? = some v):∃ b,l[j]? = some b/\v = .int .u8 b.toNat:=by
 unfold Lib.byteCells at h
 rw[List.getElem?_map]at h
 cases hl:l[j]? with
 | none=>rw[hl]at h;cases h
 | some b=>rw[hl]at h;simp at h;exact⟨b,rfl,h.symm⟩
theorem my(w:World)(B sb rb g cap:Nat)(l:List UInt8)(f:SF)(x i d c:Nat)(eofv:Value)(h:Scn w B sb rb f)(hr:Rd w rb g cap l.length x)(hb:cK w g l)(heof:w.cell? ⟨2,0,none⟩=some eofv)(hne:rb ≠ sb)(hge:g ≠ rb)(hgs:g ≠ sb)(h2:15<=rb)(hlc:l.length<=cap)(hi:i+d=1024)(hd:0 < d)(hl9:l.length<=90000) :
  Calls Tryz.prog 291 #[.pointer (some ⟨rb,0,none⟩),.slice (some ⟨sb,1+i,none⟩) d c] w (RDp w B sb rb g cap l f x i d eofv):=by
 obtain⟨m,o,lr,hbk,hcase⟩:=hr
 have c2:=hbk.cell 2 _ rfl
 have f2:=hbk.free 2
 have hlt:=hbk.lt
 have T0:=hqZ (Fr.refl (fun k=>k=rb) w)
 have HB:=hqZ hbk
 have HS:=hqZ h
 have HT:=hqZ hb
 have ne2:(2:Nat) ≠ rb:=by omega
 clear hbk h hb
 go_enter Tryz.func291,Tryz.ntmps291
 go_wp2_with fail
 refine(qN _ rb g m cap o 0 (by exact HB.out.s32)).mono ?_
 rintro e w1 ⟨rfl,n1,rfl⟩
 by_cases hx:x=l.length
 case pos =>
  have hmo:m<=o:=by rcases hcase with ⟨h1,h2,h3⟩|⟨h1,h2,h3⟩ <;> omega
  go_wp2_with fail
  refine(ra _ rb g m cap o 0 (by exact(HB.out.s32.drewN _))).mono ?_
  rintro e w2 ⟨rfl,hb2,hf⟩
  have hfa:Fr (fun k=>k=rb) w w2:=(by exact((T0.out.set (.inl rfl)).drewN _):Fr (fun k=>k=rb) w _).trans hf
  have hS2:=HS.out.rdSet hfa hne HB.out
  have he2:w2.cell? ⟨2,0,none⟩=some eofv:=(hfa.cell (p:=⟨_,0,none⟩) (World.block_lt_of_cell? w _ heof) (fun e=>by simp at e;omega)).trans heof
  have hnz:¬ ((d:Int)=0):=by omega
  have hR2:Rd w2 rb g cap l.length x:=⟨0,0,0,hb2,.inr ⟨rfl,rfl,hx⟩⟩
  have hFS:FS B sb rb w w2:=⟨hfa.os,hfa.tape,hfa.output,hfa.size,fun k o hk e1 e2 _=>(hfa.block k (Array.getElem?_eq_some_iff.1 hk).1 e2).trans hk⟩
  have HA:=hqZ (show ∀ n,RDp w B sb rb g cap l f x i d eofv (.returned (.tuple #[.int .i64 0,eofv])) (w2.drewN n)from fun n=>⟨by rw[if_pos hx];exact⟨rfl,hS2.new (Fr.r.drewN n),hR2.new (Fr.r.drewN n)⟩,hFS.drewN n⟩)
  clear hf hfa hb2 hS2 hR2 hFS
  go_wp2_with fail
  go_quiet (fail)
  go_wp2
  go_ret2
  exact HA.out _
 case neg =>
  obtain⟨rfl,rfl,hxl⟩:m=l.length/\o=x/\x<=l.length:=by rcases hcase with h|h;exact h;exact absurd h.2.2 hx
  clear hcase
  have hxl:o < l.length:=by omega
  have B1:=hqZ (show Blk ((w.setCell ⟨rb,2,none⟩ (.int .i8 0)).drewN n1) rb #[.slice (some ⟨g,0,none⟩) l.length cap,.int .i64 o,.int .i8 0] 214 from by exact(HB.out.s32.drewN _))
  have F1:=hqZ (show Fr (fun k=>k=rb) w ((w.setCell ⟨rb,2,none⟩ (.int .i8 0)).drewN n1)from by exact((T0.out.set (.inl rfl)).drewN _))
  generalize (w.setCell ⟨rb,2,none⟩ (.int .i8 0)).drewN n1=W at B1 F1 ⊢
  have S1:=hqZ (HS.out.rdSet F1.out hne HB.out)
  have b0:=B1.out.cell 0 _ rfl
  have b1:=B1.out.cell 1 _ rfl
  obtain⟨k,hk⟩:∃ k,k=min d (l.length - o):=⟨_,rfl⟩
  have hk1:0 < k:=by omega
  have hcl:(Lib.byteCells ((l.drop o).take k)).length=k:=by rw[Lib.byteCells_length,List.length_take,List.length_drop];omega
  obtain⟨cs,hcs⟩:∃ cs,cs=Lib.byteCells ((l.drop o).take k):=⟨_,rfl⟩
  rw[<- hcs]at hcl
  have hgl:g < w.heap.size:=HT.out.1
  have hsrc:∀ j v,cs[j]? = some v->W.drew.cell? ((⟨g,o,none⟩:Addr).add j)=some v:=fun j v hj=>by
   rw[show((⟨g,o,none⟩:Addr).add j)=⟨g,o+j,none⟩from by unfold Addr.add;split <;> simp_all]
   rw[hcs]at hj
   obtain⟨b,hb,rfl⟩:=gA _ _ _ hj
   have hjk:j < k:=by
    have:=(List.getElem?_eq_some_iff.1 hb).1
    rw[List.length_take]at this;omega
   rw[List.getElem?_take_of_lt hjk,List.getElem?_drop]at hb
   exact(F1.out.cell (p:=⟨g,o+j,none⟩) hgl hge).trans (HT.out.2 _ _ hb)
  have hcp:=run_copy_cells (P:=Tryz.prog) W.drew 67 67 3 5 sb (1+i) d c ⟨g,o,none⟩ (l.length - o) (cap - o) cs u8S u8I (by rw[hcl,hk];exact Nat.min_comm _ _) hsrc
   (fun j hj=>by rw[hcl]at hj;rw[show 1+i+j=1+(i+j)from by omega];exact Option.isSome_iff_exists.2 ⟨_,S1.out.byte (i+j) (by omega)⟩) (fun j hj=>S1.out.free _) (by rw[hcs];exact iI _)
  rw[hcl]at hcp
  have S2:=hqZ (show Scn (W.drew.setCells sb (1+i) cs) B sb rb (f.got l o i k)from by
   have:=Scn.sbs ((l.drop o).take k) i W.drew f (S1.out.new (Fr.r.drew)) (by rw[List.length_take,List.length_drop];omega)
   rw[<- hcs,show((l.drop o).take k).length=k from by rw[List.length_take,List.length_drop];omega]at this
   exact this)
  have X1:∀ j,(W.drew.setCells sb (1+i) cs).cell? ⟨rb,j,none⟩=W.cell? ⟨rb,j,none⟩:=fun j=>World.cell?_setCells_out sb cs (1+i) W.drew ⟨rb,j,none⟩ (fun e _=>absurd e hne)
  have X2:∀ j,(W.drew.setCells sb (1+i) cs).frozen? ⟨rb,j,none⟩=false:=fun j=>(World.frozen?_setCells sb cs (1+i) W.drew ⟨rb,j,none⟩).trans (B1.out.free j)
  have B2:=hqZ (show Blk (W.drew.setCells sb (1+i) cs) rb #[.slice (some ⟨g,0,none⟩) l.length cap,.int .i64 o,.int .i8 0] 214 from by
   have hh:∀ (vs:List Value) (o:Nat) (w:World),(w.setCells sb o vs).heap[rb]? = w.heap[rb]? := by
    intro vs
    induction vs with
    | nil=>intro o w;rfl
    | cons v vs ih=>intro o w;exact(ih _ _).trans (fT _ _ _ _ _ hne)
   exact(hh _ _ _).trans B1.out)
  have HFS:=hqZ (show FS B sb rb w (W.drew.setCells sb (1+i) cs)from FS.setCells _ _ _ (FS.drew ⟨F1.out.os,F1.out.tape,F1.out.output,F1.out.size,fun k o hk e1 e2 _=>(F1.out.block k (Array.getElem?_eq_some_iff.1 hk).1 e2).trans hk⟩) (.inl rfl))
  have x1:(W.drew.setCells sb (1+i) cs).cell? ⟨rb,1,none⟩=some (.int .i64 o):=(X1 1).trans b1
  have x2:(W.drew.setCells sb (1+i) cs).cell? ⟨rb,2,none⟩=some (.int .i8 0):=(X1 2).trans (B1.out.cell 2 _ rfl)
  have y1:=X2 1
  have y2:=X2 2
  have hq1:(0:Int) < (k:Int):=by omega
  have hq2:(o:Int) < (l.length:Int):=by omega
  have hq3:o < l.length:=hxl
  have hq4:¬ cap=o:=by omega
  have HK:=hqZ hk
  clear X1 X2 hsrc hcs hcl hk heof F1 B1
  go_wp2_with fail
  go_still_tail 10,(by kernel_rfl)
  change wpList _ _ _ _ _ W.drew
  have hw:IntKind.i64.wrap ((o:Int)+(k:Int))=((o+k:Nat):Int):=(IntWalk.i64_in _ (by have:=HK.out;omega)).trans (by push_cast;rfl)
  generalize W.drew.setCells sb (1+i) cs=W2 at *
  go_wp2
  go_ret2
  have hB3:Blk ((W2.setCell ⟨rb,1,none⟩ (.int .i64 ((o+k:Nat):Int))).setCell ⟨rb,2,none⟩ (.int .i8 (-1))) rb #[.slice (some ⟨g,0,none⟩) l.length cap,.int .i64 ((o+k:Nat):Int),.int .i8 (-1)] 214:=Blk.s32 (Blk.s31 B2.out)
  refine⟨?_,(HFS.out.set (.inr rfl) 1 _).set (.inr rfl) 2 _⟩
  rw[if_neg hx,<- HK.out]
  refine⟨rfl,?_,⟨_,_,_,hB3,.inl ⟨rfl,rfl,by have:=HK.out;omega⟩⟩⟩
  exact S2.out.rdSet (((Fr.refl (fun k=>k=rb) W2).set (.inl rfl)).set (.inl rfl)) hne B2.out
end Go.Proofs.YtbdhlpeckennjaaGreatDoor
