/- FnLong (the proof that the law returns true for every input), part 38 of 52; the last part says what is proved, and its condition. -/
import Derived.Lib.Builder
import Derived.Lib.FrozenHead
import Derived.Lib.OthersKept
import Derived.Laws.Externs
import Derived.WalkKit
import Derived.Lib.Walk
import Derived.Test.YtbdhlpeckennjaaGreatDoorM01
import Derived.Test.YtbdhlpeckennjaaGreatDoorM16
import Derived.Test.YtbdhlpeckennjaaGreatDoorM22
import Derived.Test.YtbdhlpeckennjaaGreatDoorM26
import Derived.Test.YtbdhlpeckennjaaGreatDoorM33
import Derived.Test.YtbdhlpeckennjaaGreatDoorM34
import Derived.Test.YtbdhlpeckennjaaGreatDoorM37
set_option linter.unusedVariables false
set_option linter.unusedSimpArgs false
set_option maxHeartbeats 80000000
set_option maxRecDepth 1000000
namespace Go.Proofs.YtbdhlpeckennjaaGreatDoor
open Go Go.RowKit
theorem fH(w:World)(tb n cap:Nat):Calls Tryz.prog 44 #[.slice (some ⟨tb,0,none⟩) n cap] w fun e w'=>e = .returned (.agg #[.slice (some ⟨tb,0,none⟩) n cap,.int .i64 0])/\New w w':=by
 have T0:=hqZ (Fr.refl (fun _=>False) w)
 go_enter Tryz.func44,Tryz.ntmps44
 go_wp2
 refine bodyPost_ret (v:=(.agg #[.slice (some ⟨tb,0,none⟩) n cap,.int .i64 0])) (by simp only[results,Tryz.results44];go_simp) rfl ?_
 exact⟨rfl,by exact(T0.out.alloc _)⟩
theorem PSt.start{w:World}{pb tb cap:Nat}{L:List (Tok × Nat)}(hb:Blk w pb #[.slice (some ⟨tb,0,none⟩) L.length cap,.int .i64 0] 115)(ht:∀ j x,L[j]? = some x->gF w tb j x.1 x.2)(hl:L ≠ []/\L.length<=100000/\∀ x ∈ L,x.1.text.size<=150000)
  (hne:tb ≠ pb) (hlt:tb < w.heap.size) (hg:Glob w) (h15:15<=pb):PSt w pb tb (L.map (·.1)):=by
 refine⟨L.length,cap,0,hb,hne,hlt,⟨by simpa using hl.1,fun t ht=>?_⟩,by simp,⟨hl.2.1,hg,h15⟩,fun j t hj=>?_⟩
 .obtain⟨x,hx,rfl⟩:=List.mem_map.1 ht
  exact hl.2.2 x hx
 .rw[List.getElem?_map]at hj
  cases hx:L[j]? with
  | none=>rw[hx]at hj;cases hj
  | some x =>
   rw[hx]at hj
   simp at hj
   subst hj
   rw[Nat.zero_add]
   exact(ht j x hx).at_
theorem dM{S:Nat->Prop}{w w':World}{tb:Nat}{L:List (Tok × Nat)}(h:∀ j x,L[j]? = some x->gF w tb j x.1 x.2)(hf:Fr S w w')(ht:tb < w.heap.size)(hS:¬ S tb):∀ j x,L[j]? = some x->gF w' tb j x.1 x.2:=by
 intro j x hx
 obtain⟨l,c,h1,h2,h3,h4,h5,h6⟩:=h j x hx
 have e:∀ k,w'.cell? ⟨tb,k,none⟩=w.cell? ⟨tb,k,none⟩:=fun k=>hf.cell (p:=⟨tb,k,none⟩) ht hS
 exact⟨l,c,(e _).trans h1,(e _).trans h2,(e _).trans h3,(e _).trans h4,(e _).trans h5,(e _).trans h6⟩
def PolR (w:World)(Z:Nat->Prop)(q:Nat)(p:Pol):Prop :=
 Z q/\∃ (A:Option Addr) (n cap:Nat) (pt:TypeId) (pu:Value) (at':TypeId) (au:Value) (rt:TypeId) (ru:Value) (A2:Option Addr) (n2 cap2:Nat) (o l c:Int),
   Blk w q #[.bool (!p.forbid),.slice A n cap,.iface pt pu,.iface at' au,.iface rt ru,.slice A2 n2 cap2,.string ⟨#[]⟩,.int .i64 o,.int .i64 l,.int .i64 c] 107 /\
   Held dP w Z (.slice A n cap) p.notes 2/\ScpR w Z p.principal (.iface pt pu)/\ScpR w Z p.action (.iface at' au)/\ScpR w Z p.resource (.iface rt ru) /\
   Held ei w Z (.slice A2 n2 cap2) p.conds 2
theorem mG{l:List UInt8}(h:ce l=none):dp l=none:=by unfold dp bL;rw[h];rfl
def sf (xb:Nat)(w:World)(r:Option Pol)(e:Ending)(w':World):Prop :=
 match r with
 | some p=>e = .returned .nilIface/\PolR w' (fun g=>g=xb\/w.heap.size<=g) xb p/\Fr (· = xb) w w'
 | none=>∃ (t:TypeId) (u:Value),e = .returned (.iface t u)/\Fr (· = xb) w w'
theorem pK(B:jR)(w:World)(xb g cap:Nat)(l:List UInt8)(hx:Blk w xb #[.bool false,.slice none 0 0,.nilIface,.nilIface,.nilIface,.slice none 0 0,.string ⟨#[]⟩,.int .i64 0,.int .i64 0,.int .i64 0] 107)(hb:cK w g l)(hl:l.length<=cap)(hl2:l.length<=90000)(hg:Glob w)(heo:EofV w)(h15:15<=w.heap.size)(hxb:15<=xb)(hnb:NB l) :
  Calls Tryz.prog 39 #[.pointer (some ⟨xb,0,none⟩),.slice (some ⟨g,0,none⟩) l.length cap] w (sf xb w (dp l)):=by
 have hft:=aq
 have ltx:=hx.lt
 have B0:=hqZ hx
 have T0:=hqZ (Fr.refl (· = xb) w)
 have HBA:=hqZ hb
 have HL:=hqZ hl
 have HG:=hqZ hg
 have HNB:=hqZ hnb
 have HEO:=hqZ heo
 have HB:=hqZ B
 clear hx hb hl hg hnb heo B
 go_enter Tryz.func39,Tryz.ntmps39
 cases hs:ce l with
 | none =>
  (go_wp2_with fail;refine(fk HL.out HBA.out hl2 HG.out HEO.out HNB.out h15 hs).mono ?_;rintro e w1 ⟨t,u,rfl,hf⟩;(have xs0:=Fr.size hf;have T1:=hqZ (Fr.transN T0.out hf);clear T0;have B1:=hqZ (Blk.next B0.out hf id);clear B0;obtain⟨xk0,xl0⟩:=Blk.k10 B1.out;clear hf))
  go_wp2
  go_ret
  rw[mG hs]
  exact⟨t,u,rfl,by exact T1.out⟩
 | some L =>
  (go_wp2_with fail;refine(fk HL.out HBA.out hl2 HG.out HEO.out HNB.out h15 hs).mono ?_;rintro e w1 ⟨tb,tcap,rfl,ht1,ht2,ht3,ht4,hf⟩;(have xs0:=Fr.size hf;have T1:=hqZ (Fr.transN T0.out hf);clear T0;have B1:=hqZ (Blk.next B0.out hf id);clear B0;obtain⟨xk0,xl0⟩:=Blk.k10 B1.out;clear hf))
  have HT3:=hqZ ht3
  have HT4:=hqZ ht4
  have hto:bL l=some (L.map (·.1)):=by unfold bL;rw[hs];rfl
  have hF:Fin (L.map (·.1)):=by
   obtain⟨_,ls,le,_,h2,h3⟩:=fR hto HNB.out
   rw[h3];exact(iW h2).1
  obtain⟨ts,hts⟩:∃ q,q=L.map (·.1):=⟨_,rfl⟩
  have hln:ts.length=L.length:=by rw[hts,List.length_map]
  rw[<- hts]at hF
  have E0:=hqZ (show dp l=match polP (expr ts.length) ts with | .ok p _=>some p|_=>none from by unfold dp;rw[hto,<- hts];rfl)
  have HN:=hqZ ((mC (jx ts.length) ts hF).1 (Nat.le_refl _))
  have hll:L.length<=100000:=HT4.out.2.1
  have HTS:=hqZ hts
  have HLN:=hqZ hln
  obtain⟨nf,hnf⟩:∃ q,q=ts.length:=⟨_,rfl⟩
  rw[<- hnf]at E0 HN
  have hE:=hqZ (gS HB.out nf)
  obtain⟨E,hEq⟩:∃ E,E=expr nf:=⟨_,rfl⟩
  rw[<- hEq]at E0 HN hE
  have HF0:=hqZ hF
  clear hs hto hF hts hnf hEq hln
  go_wp2_with fail
  refine(fH _ tb _ tcap).mono ?_
  rintro e w2 ⟨rfl,hf⟩
  have HT5:=hqZ (dM HT3.out hf (by first|exact ht2|(simp only[aa,ae,ad,af];omega)) id)
  (have xs2:=Fr.size hf;have T0:=hqZ (Fr.transN T1.out hf);clear T1;have B0:=hqZ (Blk.next B1.out hf id);clear B1;obtain⟨xk10,xl1⟩:=Blk.k10 B0.out;clear hf;clear xk0)
  clear HT3
  go_wp2_with fail
  have hp0:PSt (w2.alloc (.cells #[.slice (some ⟨tb,0,none⟩) L.length tcap,.int .i64 0] 115)) w2.heap.size tb ts:=by
   rw[HTS.out]
   exact PSt.start (by exact(Blk.at_ _ _ _ (n:=w2.heap.size) rfl)) (dM (S:=fun _=>False) HT5.out (Fr.r.alloc _) (by omega) id) HT4.out (by omega) (by simp only[aa];omega) (HG.out.fr (S:=(· = xb)) (by exact(T0.out.alloc _)) (fun k hk e=>by omega) h15) (by omega)
  have P9:=hqZ hp0
  clear hp0
  cases hs:polP E ts with
  | out=>exact absurd hs HN.out
  | bad =>
   have ER:=hqZ (show dp l=none from by rw[E0.out,hs])
   refine(gotP (jQ w2.heap.size tb _) (fw HB.out.sv E hE.out _ w2.heap.size tb _ ts (.bool false) (.slice none 0 0) .nilIface .nilIface .nilIface (.slice none 0 0) (.string ⟨#[]⟩) (.int .i64 0) (.int .i64 0) (.int .i64 0) P9.out (by exact(B0.out.alloc _)) (by omega) (by omega) (by omega) (by rw[hs];intro e;cases e)) hs).mono ?_
   rintro e w3 ⟨t,u,rfl,hf⟩
   (have xs4:=Fr.size hf;simp only[aa,ae,ad,af]at xs4;have T1:=hqZ (Fr.trans' (T0.out.alloc _) hf (fun k hk hs=>by omega));clear T0;clear B0;clear hf;clear xk10)
   go_wp2
   go_ret
   rw[ER.out]
   exact⟨t,u,rfl,by exact T1.out⟩
  | ok p ts1 =>
   have ER:=hqZ (show dp l=some p from by rw[E0.out,hs])
   refine(gotP (jQ w2.heap.size tb _) (fw HB.out.sv E hE.out _ w2.heap.size tb _ ts (.bool false) (.slice none 0 0) .nilIface .nilIface .nilIface (.slice none 0 0) (.string ⟨#[]⟩) (.int .i64 0) (.int .i64 0) (.int .i64 0) P9.out (by exact(B0.out.alloc _)) (by omega) (by omega) (by omega) (by rw[hs];intro e;cases e)) hs).mono ?_
   rintro e w3 ⟨A,m,cap',pt,pu,at',au,rt,ru,A2,n2,cap2,o,l',c,rfl,hbq,hn1,hs1,hs2,hs3,hn2,hp,hf⟩
   (have xs4:=Fr.size hf;simp only[aa,ae,ad,af]at xs4;have T1:=hqZ (Fr.trans' (T0.out.alloc _) hf (fun k hk hs=>by omega));clear T0;clear B0;have B0:=hqZ hbq;obtain⟨xk0,xl2⟩:=Blk.k10 B0.out;clear hbq;have X0:=hqZ (ScpR.mono (Z':=fun g=>w2.heap.size+1<=g/\g < w3.heap.size) (hZ:=fun g h1 h2=>by simp only[aa,ae,ad,af]at h2;omega) (h:=hs1));clear hs1;have X1:=hqZ (ScpR.mono (Z':=fun g=>w2.heap.size+1<=g/\g < w3.heap.size) (hZ:=fun g h1 h2=>by simp only[aa,ae,ad,af]at h2;omega) (h:=hs2));clear hs2;have X2:=hqZ (ScpR.mono (Z':=fun g=>w2.heap.size+1<=g/\g < w3.heap.size) (hZ:=fun g h1 h2=>by simp only[aa,ae,ad,af]at h2;omega) (h:=hs3));clear hs3;have X3:=hqZ (Held.mono (Z':=fun g=>w2.heap.size+1<=g/\g < w3.heap.size) (hZ:=fun g h1 h2=>by simp only[aa,ae,ad,af]at h2;omega) (h:=hn1));clear hn1;have X4:=hqZ (Held.mono (Z':=fun g=>w2.heap.size+1<=g/\g < w3.heap.size) (hZ:=fun g h1 h2=>by simp only[aa,ae,ad,af]at h2;omega) (h:=hn2));clear hn2;have P0:=hqZ hp;clear hp;clear hf;clear xk10)
   go_wp2
   go_ret
   rw[ER.out]
   exact⟨rfl,⟨.inl rfl,A,m,cap',pt,pu,at',au,rt,ru,A2,n2,cap2,o,l',c,by exact B0.out,by exact Held.mono (h:=X3.out) (hZ:=fun g _ hg=>by omega),by exact ScpR.mono (h:=X0.out) (hZ:=fun g _ hg=>by omega),by exact ScpR.mono (h:=X1.out) (hZ:=fun g _ hg=>by omega),by exact ScpR.mono (h:=X2.out) (hZ:=fun g _ hg=>by omega),by exact Held.mono (h:=X4.out) (hZ:=fun g _ hg=>by omega)⟩,by exact T1.out⟩
def eM:Val->List Value
 | .none=>[.int .i64 0,.int .i64 0,.string ⟨#[]⟩,.string ⟨#[]⟩,.slice none 0 0,.slice none 0 0]
 | .bool b=>[.int .i64 1,.int .i64 (if b then 1 else 0),.string ⟨#[]⟩,.string ⟨#[]⟩,.slice none 0 0,.slice none 0 0]
 | .long n=>[.int .i64 2,.int .i64 n,.string ⟨#[]⟩,.string ⟨#[]⟩,.slice none 0 0,.slice none 0 0]
 | .str s=>[.int .i64 3,.int .i64 0,.string s,.string ⟨#[]⟩,.slice none 0 0,.slice none 0 0]
 | .ent t i=>[.int .i64 4,.int .i64 0,.string i,.string t,.slice none 0 0,.slice none 0 0]
theorem fD(v:Val):∃ (k n:Int) (s t:ByteArray),eM v = [.int .i64 k,.int .i64 n,.string s,.string t,.slice none 0 0,.slice none 0 0]:=by
 cases v <;> exact⟨_,_,_,_,rfl⟩
def strs (l:List ByteArray):List Value:=l.map .string
mutual
inductive PX (w:World) (Z:Nat->Prop):Ex->List Value->Prop
 | mk (op:Nat) (s:ByteArray) (v:Val) (keys pieces:List ByteArray) (l:List Ex) (kv pv lv:Value) (xs:List Value):Row w Z kv keys.length 1 (strs keys)->Row w Z pv pieces.length 1 (strs pieces)->Row w Z lv l.length 11 xs->PXL w Z l xs ->
  PX w Z (.mk op s v keys pieces l) (.int .i64 op :: .string s::(eM v ++ [kv,pv,lv]))
inductive PXL (w:World) (Z:Nat->Prop):List Ex->List Value->Prop
 | nil:PXL w Z [] []
 | cons (x:Ex) (l:List Ex) (a b:List Value):PX w Z x a->PXL w Z l b->PXL w Z (x::l) (a++b)
end
section
variable {S Z:Nat->Prop} {w w':World}
mutual
theorem PX.frame{x:Ex}{v:List Value}(hf:Fr S w w')(hS:∀ g,Z g->g < w.heap.size->¬ S g)(h:PX w Z x v):PX w' Z x v :=
 match h with
 | .mk op s v keys pieces l kv pv lv xs h1 h2 h3 h4=>.mk op s v keys pieces l kv pv lv xs (h1.frame hf hS) (h2.frame hf hS) (h3.frame hf hS) (h4.frame hf hS)
theorem PXL.frame{l:List Ex}{v:List Value}(hf:Fr S w w')(hS:∀ g,Z g->g < w.heap.size->¬ S g)(h:PXL w Z l v):PXL w' Z l v :=
 match h with
 | .nil=>.nil
 | .cons x l a b h1 h2=>.cons x l a b (h1.frame hf hS) (h2.frame hf hS)
end
end
section
variable {Z Z':Nat->Prop} {w:World}
mutual
theorem PX.mono{x:Ex}{v:List Value}(hZ:∀ g,g < w.heap.size->Z g->Z' g)(h:PX w Z x v):PX w Z' x v :=
 match h with
 | .mk op s v keys pieces l kv pv lv xs h1 h2 h3 h4=>.mk op s v keys pieces l kv pv lv xs (h1.mono hZ) (h2.mono hZ) (h3.mono hZ) (h4.mono hZ)
theorem PXL.mono{l:List Ex}{v:List Value}(hZ:∀ g,g < w.heap.size->Z g->Z' g)(h:PXL w Z l v):PXL w Z' l v :=
 match h with
 | .nil=>.nil
 | .cons x l a b h1 h2=>.cons x l a b (h1.mono hZ) (h2.mono hZ)
end
end
theorem Row.one{w:World}{Z:Nat->Prop}{v:Value}{n size:Nat}{xs:List Value}(h:Row w Z v n size xs):v.oneCell'=true:=by
 obtain⟨_,_,A,cap,rfl,_⟩:=h;rfl
theorem PX.inv{w:World}{Z:Nat->Prop}{op:Nat}{s:ByteArray}{v:Val}{keys pieces:List ByteArray}{l:List Ex}{cs:List Value}(h:PX w Z (.mk op s v keys pieces l) cs):∃ (kv pv lv:Value) (xs:List Value),cs = .int .i64 op :: .string s::(eM v ++ [kv,pv,lv])/\Row w Z kv keys.length 1 (strs keys)/\Row w Z pv pieces.length 1 (strs pieces)/\Row w Z lv l.length 11 xs/\PXL w Z l xs:=by
 cases h with
 | mk _ _ _ _ _ _ kv pv lv xs h1 h2 h3 h4=>exact⟨kv,pv,lv,xs,rfl,h1,h2,h3,h4⟩
theorem PX.form{w:World}{Z:Nat->Prop}{x:Ex}{cs:List Value}(h:PX w Z x cs):∃ (op k n:Int) (s s2 t2:ByteArray) (A B C:Option Addr) (a1 a2 b1 b2 c1 c2:Nat),cs = [.int .i64 op,.string s,.int .i64 k,.int .i64 n,.string s2,.string t2,.slice none 0 0,.slice none 0 0,.slice A a1 a2,.slice B b1 b2,.slice C c1 c2]:=by
 obtain⟨op,s,v,keys,pieces,l⟩:=x
 obtain⟨kv,pv,lv,xs,rfl,h1,h2,h3,_⟩:=h.inv
 obtain⟨k,n,s2,t2,hv⟩:=fD v
 obtain⟨_,_,A,a2,rfl,_⟩:=h1
 obtain⟨_,_,B,b2,rfl,_⟩:=h2
 obtain⟨_,_,C,c2,rfl,_⟩:=h3
 exact⟨op,k,n,s,s2,t2,A,B,C,_,a2,_,b2,_,c2,by rw[hv];rfl⟩
theorem PXL.length{w:World}{Z:Nat->Prop}{l:List Ex}{xs:List Value}(h:PXL w Z l xs):xs.length=l.length * 11:=by
 induction l generalizing xs with
 | nil=>cases h;rfl
 | cons x l ih =>
  cases h with
  | cons _ _ a b h1 h2 =>
   obtain⟨op,k,n,s,s2,t2,A,B,C,a1,a2,b1,b2,c1,c2,rfl⟩:=h1.form
   rw[List.length_append,ih h2,List.length_cons]
   simp
   omega
def pxE (w:World)(Z:Nat->Prop)(x:Ex)(cs:List Value):Prop:=PX w Z x cs
instance pxOK:bq pxE 11 where
 frame:=fun h hf hS=>PX.frame hf hS h
 mono:=fun h hS=>PX.mono hS h
 len:=fun h=>by obtain⟨op,k,n,s,s2,t2,A,B,C,a1,a2,b1,b2,c1,c2,rfl⟩:=PX.form h;rfl
 one:=fun h v hv=>by
  obtain⟨op,k,n,s,s2,t2,A,B,C,a1,a2,b1,b2,c1,c2,rfl⟩:=PX.form h
  simp at hv
  rcases hv with rfl|rfl|rfl|rfl|rfl|rfl|rfl|rfl|rfl|rfl|rfl <;> rfl
theorem Row.nil0(w:World)(Z:Nat->Prop)(size:Nat):Row w Z (.slice none 0 0) 0 size []:=⟨by simp,by omega,none,0,rfl,fun h=>by omega⟩
def PLX (w:World)(x:Ex)(e:Ending)(w':World):Prop :=
 ∃ (op k n:Int) (s s2 t2:ByteArray) (A B C:Option Addr) (a1 a2 b1 b2 c1 c2:Nat),e = .returned (.tuple #[.agg #[.int .i64 op,.string s,.int .i64 k,.int .i64 n,.string s2,.string t2,.slice none 0 0,.slice none 0 0,.slice A a1 a2,.slice B b1 b2,.slice C c1 c2],.bool true])/\PX w' (w.heap.size <= ·) x [.int .i64 op,.string s,.int .i64 k,.int .i64 n,.string s2,.string t2,.slice none 0 0,.slice none 0 0,.slice A a1 a2,.slice B b1 b2,.slice C c1 c2]/\New w w'
def jO (x:Ex):Prop:=∀ (w:World) (Z:Nat->Prop) (v:Value),Rep w Z x v->Calls Tryz.prog 49 #[v] w (PLX w x)
theorem rN(n b0 b1 b2 b3:Nat):1<=(Lib.decodeN n b0 b1 b2 b3).2:=by
 unfold Lib.decodeN
 repeat' split
 all_goals simp
theorem cn{s:ByteArray}{i:Nat}(h:¬ (ah s i).1=65533):1<=(ah s i).2:=by
 unfold ah Lib.decodeGo at h ⊢
 split at h
 .exact absurd rfl h
 .rename_i h0;rw[if_neg h0,Lib.decode_at];exact rN _ _ _ _ _
theorem iS(r:Int):Utf8.valid r=Lib.validRune r:=by
 unfold Utf8.valid Lib.validRune
 rw[Bool.eq_iff_iff]
 simp
 omega
theorem pow16{n r d:Nat}(h:r < 16 ^ n)(hd:d < 16):16 * r+d < 16 ^ (n+1):=by rw[Nat.pow_succ];omega
theorem mz{n r:Nat}(h:r < 16 ^ n)(hn:n<=6):r < 16777216:=Nat.lt_of_lt_of_le h (Nat.le_trans (Nat.pow_le_pow_right (by decide) hn) (by decide))
def iU (r:Option (Nat × Nat × Nat)):Option (Nat × Nat):=match r with|none=>none|some (res,n,j)=>if n=0\/6 < n\/Utf8.valid res=false then none else some (res,j)
theorem gG{s:ByteArray}{i:Nat}(h:(ah s i).1=123){r:Option (Nat × Nat × Nat)}(hr:ci s (s.size+1) (i+(ah s i).2) 0 0=r):bD s i=iU r:=by
 unfold bD
 rw[if_pos h,hr]
 clear hr
 cases r with
 | none=>rfl
 | some x=>obtain⟨a,b,c⟩:=x;simp only[iU]
theorem ej(w:World)(g off cap:Nat)(s:ByteArray)(i:Nat)(hi:i<=s.size)(hcap:s.size<=cap)(hmax:s.size<=1000000)(hb:BA w g off s)(hg:Glob w) :
  Calls Tryz.prog 165 #[.slice (some ⟨g,off,none⟩) s.size cap,.int .i64 i] w (EV w (bD s i)):=by
 have T0:=hqZ (Fr.refl (fun _=>False) w)
 have HB:=hqZ hb
 have HG:=hqZ hg
 have HI:=hqZ (bp s i hi)
 clear hb hg
 go_enter Tryz.func165,Tryz.ntmps165
 by_cases q1:(ah s i).1=65533
 case pos =>
  have ER:=hqZ (show bD s i=none from(by simp[bD,q1]))
  (go_wp2_with fail;refine(Calls.mono (aM _ g off cap s i hi hcap hmax (BA.fr (S:=fun _=>False) HB.out (by exact T0.out) id) (HG.out.frN (by exact T0.out))) fun _ _ h=>NR.bad h q1).mono ?_;rintro e v ⟨⟨t,u,rfl⟩,hf⟩;(have xs0:=Fr.size hf;have T1:=hqZ (Fr.transN T0.out hf);clear T0;clear hf))
  go_wp2
  refine bodyPost_ret (v:=(.tuple #[.int .i32 0,.int .i64 ((i:Nat):Int),.iface t u])) (by simp only[results,Tryz.results165];go_simp) rfl ?_
  rw[ER.out]
  exact⟨⟨_,_,_,rfl⟩,by exact T1.out⟩
 (go_wp2_with fail;refine(Calls.mono (aM _ g off cap s i hi hcap hmax (BA.fr (S:=fun _=>False) HB.out (by exact T0.out) id) (HG.out.frN (by exact T0.out))) fun _ _ h=>NR.good h q1).mono ?_;rintro e w1 ⟨rfl,hf⟩;(have xs0:=Fr.size hf;have T1:=hqZ (Fr.transN T0.out hf);clear T0;clear hf))
 cases q2:(((ah s i).1:Int) == 123)
 case false =>
  have q2':¬ (ah s i).1=123:=by simp at q2;omega
  have ER:=hqZ (show bD s i=none from(by simp[bD,q2']))
  (go_wp2_with fail;refine(bv _ _).mono ?_;rintro e v ⟨⟨t,u,rfl⟩,hf⟩;(have xs2:=Fr.size hf;have T0:=hqZ (Fr.transN T1.out hf);clear T1;clear hf))
  go_wp2
  refine bodyPost_ret (v:=(.tuple #[.int .i32 0,.int .i64 ((i+(ah s i).2:Nat):Int),.iface t u])) (by simp only[results,Tryz.results165];go_simp) rfl ?_
  rw[ER.out]
  exact⟨⟨_,_,_,rfl⟩,by exact T0.out⟩
 have q2':(ah s i).1=123:=by simp at q2;omega
 clear q2
 go_wp2_with fail
 go_loopg [1,9,10] (s.size+1) (fun k v1 v9 v10 wr=>∃ (j n r:Nat) (z:Int),v1 = .int .i64 (j:Int)/\v9 = .int .i64 (n:Int)/\v10 = .int .i64 z /\
  ci s k j n r=ci s (s.size+1) (i+(ah s i).2) 0 0/\j<=s.size/\n<=j/\s.size+1<=k+j/\(n<=6->z=(r:Int)/\r < 16 ^ n)/\Fr (fun _=>False) w wr)
 case atStart=>exact⟨i+(ah s i).2,0,0,0,by push_cast;rfl,rfl,rfl,rfl,HI.out,by omega,by omega,fun _=>⟨rfl,by decide⟩,by exact T1.out⟩
 case round =>
  obtain⟨j,n,r,z,rfl,rfl,rfl,e1,hj,hn,hk,hz,hf⟩:=hrel
  (clear T1;have H0:=hqZ hf;have xs2:=Fr.size H0.out;clear hf)
  have E1:=hqZ e1
  have HZ:=hqZ hz
  clear e1 hz
  obtain⟨k,rfl⟩:∃ k,gk=k+1:=⟨gk - 1,by omega⟩
  by_cases q3:(ah s j).1=65533
  case pos =>
   have ER:=hqZ (show bD s i=none from(by rw[gG q2' E1.out.symm];simp[ci,q3,iU]))
   (go_wp2_with fail;refine(Calls.mono (aM _ g off cap s j hj hcap hmax (BA.fr (S:=fun _=>False) HB.out (by exact H0.out) id) (HG.out.frN (by exact H0.out))) fun _ _ h=>NR.bad h q3).mono ?_;rintro e v ⟨⟨t,u,rfl⟩,hf⟩;(have xs3:=Fr.size hf;have T0:=hqZ (Fr.transN H0.out hf);clear H0;clear hf))
   go_wp2
   refine bodyPost_ret (v:=(.tuple #[.int .i32 0,.int .i64 ((j:Nat):Int),.iface t u])) (by simp only[results,Tryz.results165];go_simp) rfl ?_
   rw[ER.out]
   exact⟨⟨_,_,_,rfl⟩,by exact T0.out⟩
  (go_wp2_with fail;refine(Calls.mono (aM _ g off cap s j hj hcap hmax (BA.fr (S:=fun _=>False) HB.out (by exact H0.out) id) (HG.out.frN (by exact H0.out))) fun _ _ h=>NR.good h q3).mono ?_;rintro e w2 ⟨rfl,hf⟩;(have xs3:=Fr.size hf;have T0:=hqZ (Fr.transN H0.out hf);clear H0;clear hf))
  have HP:=hqZ (cn q3)
  have HL:=hqZ (bp s j hj)
  cases q4:(((ah s j).1:Int) == 125)
  case true =>
   have q4':(ah s j).1=125:=by simp at q4;omega
   have E2:=hqZ (show bD s i=if n=0\/6 < n\/Utf8.valid r=false then none else some (r,j+(ah s j).2)from by rw[gG q2' E1.out.symm];simp[ci,q4',iU])
   clear q4
   cases q5:((n:Int) == 0)
   case true =>
    have q5':n=0:=by simp at q5;omega
    have ER:=hqZ (show bD s i=none from(by rw[E2.out,if_pos (.inl q5')]))
    (go_wp2_with fail;refine(bv _ _).mono ?_;rintro e v ⟨⟨t,u,rfl⟩,hf⟩;(have xs5:=Fr.size hf;have T1:=hqZ (Fr.transN T0.out hf);clear T0;clear hf))
    go_wp2
    refine bodyPost_ret (v:=(.tuple #[.int .i32 0,.int .i64 ((j+(ah s j).2:Nat):Int),.iface t u])) (by simp only[results,Tryz.results165];go_simp) rfl ?_
    rw[ER.out]
    exact⟨⟨_,_,_,rfl⟩,by exact T1.out⟩
   cases q6:decide ((6:Int) < (n:Int))
   case true =>
    have q6':6 < n:=by simp at q6;omega
    have ER:=hqZ (show bD s i=none from(by rw[E2.out,if_pos (.inr (.inl q6'))]))
    (go_wp2_with fail;refine(bv _ _).mono ?_;rintro e v ⟨⟨t,u,rfl⟩,hf⟩;(have xs5:=Fr.size hf;have T1:=hqZ (Fr.transN T0.out hf);clear T0;clear hf))
    go_wp2
    refine bodyPost_ret (v:=(.tuple #[.int .i32 0,.int .i64 ((j+(ah s j).2:Nat):Int),.iface t u])) (by simp only[results,Tryz.results165];go_simp) rfl ?_
    rw[ER.out]
    exact⟨⟨_,_,_,rfl⟩,by exact T1.out⟩
   have q5':¬ n=0:=by simp at q5;omega
   have q6':¬ 6 < n:=by simp at q6;omega
   obtain⟨ez,hr⟩:=HZ.out (by omega)
   subst ez
   have hr2:=mz hr (by omega)
   (go_wp2_with fail;refine(Tryz.utf8_ValidRune _ _).mono ?_;rintro e w4 ⟨rfl,rfl⟩)
   cases q7:Lib.validRune (r:Int)
   case false =>
    have ER:=hqZ (show bD s i=none from(by rw[E2.out,if_pos (.inr (.inr (by rw[iS];exact q7)))]))
    (go_wp2_with fail;refine(bv _ _).mono ?_;rintro e v ⟨⟨t,u,rfl⟩,hf⟩;(have xs5:=Fr.size hf;have T1:=hqZ (Fr.transN T0.out hf);clear T0;clear hf))
    go_wp2
    refine bodyPost_ret (v:=(.tuple #[.int .i32 0,.int .i64 ((j+(ah s j).2:Nat):Int),.iface t u])) (by simp only[results,Tryz.results165];go_simp) rfl ?_
    rw[ER.out]
    exact⟨⟨_,_,_,rfl⟩,by exact T1.out⟩
   have ER:=hqZ (show bD s i=some (r,j+(ah s j).2)from by rw[E2.out,if_neg];rw[iS,q7];simp[q5',q6'])
   go_wp2
   refine bodyPost_ret (v:=(.tuple #[.int .i32 (r:Int),.int .i64 ((j:Int)+((ah s j).2:Int)),.nilIface])) (by simp only[results,Tryz.results165];go_simp) rfl ?_
   rw[ER.out]
   refine⟨?_,by exact T0.out⟩
   push_cast
   rfl
  case false =>
   have q4':¬ (ah s j).1=125:=by simp at q4;omega
   (go_wp2_with fail;refine(fu _ _ (cL _ _)).mono ?_;rintro e w4 ⟨rfl,rfl⟩)
   cases h2:cw (ah s j).1 with
   | none =>
    have ER:=hqZ (show bD s i=none from(by rw[gG q2' E1.out.symm];simp[ci,q3,q4',h2,iU]))
    (go_wp2_with fail;refine(bv _ _).mono ?_;rintro e v ⟨⟨t,u,rfl⟩,hf⟩;(have xs5:=Fr.size hf;have T1:=hqZ (Fr.transN T0.out hf);clear T0;clear hf))
    go_wp2
    refine bodyPost_ret (v:=(.tuple #[.int .i32 0,.int .i64 ((j+(ah s j).2:Nat):Int),.iface t u])) (by simp only[results,Tryz.results165];go_simp) rfl ?_
    rw[ER.out]
    exact⟨⟨_,_,_,rfl⟩,by exact T1.out⟩
   | some d =>
    have hd:=gN h2
    have E2:=hqZ (show ci s k (j+(ah s j).2) (n+1) (16 * r+d)=ci s (s.size+1) (i+(ah s i).2) 0 0 from by rw[<- E1.out];simp[ci,q3,q4',h2])
    (go_wp2_with fail;refine(eE _ _ _ h2).mono ?_;rintro e w2 ⟨rfl,rfl⟩)
    go_wp2
    go_roundg k
    case measure=>omega
    case rel =>
     refine⟨j+(ah s j).2,n+1,16 * r+d,_,by push_cast;rfl,by push_cast;rfl,rfl,E2.out,HL.out,?_,?_,?_,by exact T0.out⟩
     .have:=HP.out;omega
     .have:=HP.out;omega
     .intro h6
      obtain⟨e,hr⟩:=HZ.out (by omega)
      have:=mz hr (by omega)
      subst e
      refine⟨?_,pow16 hr hd⟩
      rw[IntWalk.wrap64_in (16 * (r:Int)) (by omega),IntWalk.wrap64_in _ (by omega)]
      push_cast
      rfl
theorem bT:Tryz.prog.underlying 322=some (.pointer 324):=by kernel_rfl
theorem uT:Tryz.prog.underlying 335=some .unsafePointer:=by kernel_rfl
theorem bI:(Tryz.prog.info? 324).map (fun i=>i.size)=some 2:=by kernel_rfl
theorem jD(b:Nat)(w:World)(h0:w.cell? ⟨b,0,none⟩=some (.pointer (some ⟨b,0,none⟩))) :
  Calls Tryz.prog 174 #[.pointer (some ⟨b,0,none⟩)] w fun e w'=>e = .returned (.tuple #[])/\w'=w:=by
 obtain⟨j,hj,_⟩:=Option.map_eq_some_iff.1 bI
 go_enter Tryz.func174,Tryz.ntmps174
 go_wp2
 rw[Lib.run_neq_ptr_same w _ bT hj]
 go_wp2
 go_end0
 exact⟨rfl,rfl⟩
theorem ix(b:Nat)(w:World)(h0:w.cell? ⟨b,0,none⟩=some (.pointer none))(hsh:w.shape? b=some (324,2))(hfz:w.frozen? ⟨b,0,none⟩=false) :
  Calls Tryz.prog 174 #[.pointer (some ⟨b,0,none⟩)] w fun e w'=>e = .returned (.tuple #[])/\w'=w.setCell ⟨b,0,none⟩ (.pointer (some ⟨b,0,none⟩)):=by
 obtain⟨j,hj,hjs⟩:=Option.map_eq_some_iff.1 bI
 go_enter Tryz.func174,Tryz.ntmps174
 go_wp2
 rw[Lib.run_to_unsafe w ⟨b,0,none⟩ bT uT hj (by rw[hjs];decide) hsh (Nat.zero_lt_succ 1)]
 simp only[Result.andThen]
 rw[Oper.upon_value]
 go_wp2
 rw[run_callFunc_extern (Tryz.func182) (by kernel_rfl) (by kernel_rfl) (by kernel_rfl) (e:=Extern.AbiNoEscape.same) (by kernel_rfl)]
 rw[Lib.run_noEscape]
 simp only[Result.andThen]
 rw[Oper.upon_value]
 go_wp2
 rw[Lib.run_from_unsafe w ⟨b,0,none⟩ uT bT hj hsh (by kernel_rfl)]
 simp only[Result.andThen]
 rw[Oper.upon_value]
 go_wp2
 go_end0
 exact⟨rfl,rfl⟩
theorem nz(B b:Nat)(bs:List Value)(w:World)(h:Lib.IsBuilderF 324 5 B b bs w) :
  Calls Tryz.prog 174 #[.pointer (some ⟨b,0,none⟩)] w fun e w'=>e = .returned (.tuple #[])/\Lib.BuilderAtF 324 5 B b (.pointer (some ⟨b,0,none⟩)) bs w'/\Below B w w':=by
 rcases h with h|h
 .refine(ix b w h.cell0 h.shape h.frozen0).mono ?_
  rintro e w' ⟨rfl,rfl⟩
  exact⟨rfl,h.used _,(Below.refl B w).setCell (p:=⟨b,0,none⟩) h.1 _⟩
 .refine(jD b w h.cell0).mono ?_
  rintro e w' ⟨rfl,rfl⟩
  exact⟨rfl,h,Below.refl B _⟩
theorem lU(B b:Nat)(bs:List Value)(r:Int)(hr0 : -2147483648<=r)(hr1:r<=2147483647)(w:World)(h:Lib.IsBuilderF 324 5 B b bs w)(hlen:bs.length+4<=140737488355328)(hBw:B<=w.heap.size) :
  Calls Tryz.prog 163 #[.pointer (some ⟨b,0,none⟩),.int .i32 r] w fun e w'=>(∃ n:Int,e = .returned (.tuple #[.int .i64 n,.nilIface]))/\Lib.IsBuilderF 324 5 B b (bs++Lib.runeCells r) w'/\Below B w w':=by
 have hk4:=Lib.runeCells_le r
 go_enter Tryz.func163,Tryz.ntmps163
 go_wp2_with (go_at_call 174;refine(nz B b bs _ h).mono ?_)
 rintro e w1 ⟨rfl,h1,hb1⟩
 obtain⟨hB,v,hbk,hown,hne⟩:=h1
 obtain⟨ao,cap,rfl⟩:∃ ao cap,v = .slice ao bs.length cap:=by
  rcases hown.2 with ⟨hv,h0⟩|⟨g,cap,cur,fz,hv,_⟩
  .exact⟨none,0,by rw[hv,h0]⟩
  .exact⟨_,_,hv⟩
 have c0:w1.cell? ⟨b,0,none⟩=some (.pointer (some ⟨b,0,none⟩)):=by rw[Lib.cell_of_heap hbk];rfl
 have c1:w1.cell? ⟨b,1,none⟩=some (.slice ao bs.length cap):=by rw[Lib.cell_of_heap hbk];rfl
 go_wp2_with (go_at_call 175;refine(Tryz.utf8_AppendRune_row B _ bs.length bs r hr0 hr1 _ hown hlen (by have:=hb1.size;omega)).mono ?_)
 rintro e w2 ⟨v',rfl,hown',o,hgrow⟩
 have hlt:b < w1.heap.size:=by
  rcases Nat.lt_or_ge b w1.heap.size with h'|h'
  .exact h'
  .simp[Array.getElem?_eq_none h']at hbk
 have hb2:w2.heap[b]? = some (.cells #[.pointer (some ⟨b,0,none⟩),.slice ao bs.length cap] 324 (0,0)):=by
  rw[hgrow.block b (by simp;omega) (fun e=>hne e.symm),Lib.alloc_old w1 _ b hlt]
  exact hbk
 have d0:w2.cell? ⟨b,0,none⟩=some (.pointer (some ⟨b,0,none⟩)):=by rw[Lib.cell_of_heap hb2];rfl
 have d1:w2.cell? ⟨b,1,none⟩=some (.slice ao bs.length cap):=by rw[Lib.cell_of_heap hb2];rfl
 have f1:w2.frozen? ⟨b,1,none⟩=false:=Lib.frozen_of_heap hb2 1
 obtain⟨g,cap',rfl⟩:∃ g cap',v' = .slice (some ⟨g,0,none⟩) (bs.length+(Lib.runeCells r).length) cap':=by
  rcases hown'.2 with ⟨_,h0⟩|⟨g,cap',cur,fz,hv,_⟩
  .omega
  .exact⟨g,cap',hv⟩
 go_wp2
 go_ret2
 refine⟨⟨_,rfl⟩,.inr ?_,?_⟩
 .exact Lib.BuilderAtF.put (T:=324) (e:=5) hB hb2 (bs':=bs++Lib.runeCells r) (by simpa using hown') (by decide)
 .exact((hb1.alloc (by have:=hb1.size;omega) _).grown hgrow (by have:=hb1.size;simp;omega) (fun k hk=>(hown.lt k hk).1)).setCell (p:=⟨b,1,none⟩) hB _
end Go.Proofs.YtbdhlpeckennjaaGreatDoor
