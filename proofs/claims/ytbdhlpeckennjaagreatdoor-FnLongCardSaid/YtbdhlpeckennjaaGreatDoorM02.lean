/- FnLong (the proof that the law returns true for every input), part 2 of 52; the last part says what is proved, and its condition. -/
import Derived.Laws.AppendOwn
import Derived.Test.YtbdhlpeckennjaaGreatDoorM01
set_option linter.unusedVariables false
set_option linter.unusedSimpArgs false
set_option maxHeartbeats 80000000
set_option maxRecDepth 1000000
namespace Go.Proofs.YtbdhlpeckennjaaGreatDoor
open Go Go.RowKit
def Row (w:World)(Z:Nat->Prop)(v:Value)(n size:Nat)(xs:List Value):Prop :=
 xs.length=n * size/\n<=200000/\∃ (A:Option Addr) (cap:Nat),v = .slice A n cap/\(0 < n->∃ g,A=some ⟨g,0,none⟩/\Z g/\g < w.heap.size/\∀ j u,xs[j]? = some u->w.cell? ⟨g,j,none⟩=some u)
theorem Row.frame{S:Nat->Prop}{w w':World}{Z:Nat->Prop}{v:Value}{n size:Nat}{xs:List Value}(h:Row w Z v n size xs)(hf:Fr S w w')(hS:∀ g,Z g->g < w.heap.size->¬ S g):Row w' Z v n size xs:=by
 obtain⟨h1,h2,A,cap,h3,h4⟩:=h
 refine⟨h1,h2,A,cap,h3,fun hn=>?_⟩
 obtain⟨g,e,hB,hl,hc⟩:=h4 hn
 exact⟨g,e,hB,Nat.lt_of_lt_of_le hl hf.size,fun j u hu=>(hf.cell (p:=⟨g,j,none⟩) hl (hS g hB hl)).trans (hc j u hu)⟩
theorem Row.mono{w:World}{Z Z':Nat->Prop}{v:Value}{n size:Nat}{xs:List Value}(h:Row w Z v n size xs)(hZ:∀ g,g < w.heap.size->Z g->Z' g):Row w Z' v n size xs:=by
 obtain⟨h1,h2,A,cap,h3,h4⟩:=h
 refine⟨h1,h2,A,cap,h3,fun hn=>?_⟩
 obtain⟨g,e,hb,hl,r⟩:=h4 hn
 exact⟨g,e,hZ g hl hb,hl,r⟩
def binT (op:Nat):Option TypeId :=
 match op with
 | 4=>some 258
 | 5=>some 260
 | 6=>some 261
 | 7=>some 262
 | 8=>some 263
 | 9=>some 264
 | 10=>some 265
 | 11=>some 266
 | 12=>some 267
 | 14=>some 268
 | 18=>some 273
 | 19=>some 274
 | 20=>some 275
 | 24=>some 269
 | 26=>some 276
 | 27=>some 277
 | 28=>some 278
 | _=>none
def unT (op:Nat):Option TypeId :=
 match op with
 | 21=>some 194
 | 22=>some 195
 | 29=>some 196
 | _=>none
def nameT(op:Nat):Option TypeId :=
 match op with
 | 13=>some 179
 | 16=>some 188
 | 23=>some 180
 | _=>none
def litV:Val->Option Value
 | .none=>none
 | .bool b=>some (.iface 250 (.bool b))
 | .long n=>some (.iface 251 (.int .i64 n))
 | .str s=>some (.iface 123 (.string s))
 | .ent t i=>some (.iface 153 (.agg #[.string t,.string i]))
def dU:List ByteArray->List Value->List Value
 | k::ks,v::vs=>.string k::v::dU ks vs
 | _,_=>[]
def bH (l:List (Bool × List UInt8)):List Value:=l.flatMap fun x=>[.bool x.1,.string ⟨x.2.toArray⟩]
mutual
inductive Rep (w:World) (Z:Nat->Prop):Ex->Value->Prop
 | lit (l:Val) (v:Value):litV l=some v->Rep w Z (.lit l) (.iface 168 (.agg #[v]))
 | var (s:ByteArray):Rep w Z (.var s) (.iface 172 (.agg #[.string s]))
 | ite (a b c:Ex) (u v x:Value):Rep w Z a u->Rep w Z b v->Rep w Z c x->Rep w Z (.opn 3 [a,b,c]) (.iface 174 (.agg #[u,v,x]))
 | bin (op:Nat) (t:TypeId) (a b:Ex) (u v:Value):binT op=some t->Rep w Z a u->Rep w Z b v->Rep w Z (.opn op [a,b]) (.iface t (.agg #[u,v]))
 | una (op:Nat) (t:TypeId) (a:Ex) (u:Value):unT op=some t->Rep w Z a u->Rep w Z (.opn op [a]) (.iface t (.agg #[u]))
 | nam (op:Nat) (t:TypeId) (s:ByteArray) (a:Ex) (u:Value):nameT op=some t->Rep w Z a u->Rep w Z (.named op s [a]) (.iface t (.agg #[u,.string s]))
 | isIn (s:ByteArray) (a b:Ex) (u v:Value):Rep w Z a u->Rep w Z b v->Rep w Z (.named 17 s [a,b]) (.iface 190 (.agg #[u,.string s,v]))
 | like (l:List (Bool × List UInt8)) (a:Ex) (u sv:Value):Rep w Z a u->Row w Z sv l.length 2 (bH l)->Rep w Z (.like (gq l) a) (.iface 185 (.agg #[u,sv]))
 | call (s:ByteArray) (l:List Ex) (vs:List Value) (sv:Value):RepL w Z l vs->Row w Z sv l.length 1 vs->Rep w Z (.named 25 s l) (.iface 200 (.agg #[.string s,sv]))
 | set (l:List Ex) (vs:List Value) (sv:Value):RepL w Z l vs->Row w Z sv l.length 1 vs->Rep w Z (.opn 31 l) (.iface 202 (.agg #[sv]))
 | rec_ (ks:List ByteArray) (l:List Ex) (vs:List Value) (sv:Value):ks.length=l.length->RepL w Z l vs->Row w Z sv l.length 2 (dU ks vs)->Rep w Z (.rec_ ks l) (.iface 205 (.agg #[sv]))
inductive RepL (w:World) (Z:Nat->Prop):List Ex->List Value->Prop
 | nil:RepL w Z [] []
 | cons (x:Ex) (l:List Ex) (v:Value) (vs:List Value):Rep w Z x v->RepL w Z l vs->RepL w Z (x::l) (v::vs)
end
section
variable {S Z:Nat->Prop} {w w':World}
mutual
theorem Rep.frame{x:Ex}{v:Value}(hf:Fr S w w')(hS:∀ g,Z g->g < w.heap.size->¬ S g)(h:Rep w Z x v):Rep w' Z x v :=
 match h with
 | .lit l v e=>.lit l v e
 | .var s=>.var s
 | .ite a b c u v x h1 h2 h3=>.ite a b c u v x (h1.frame hf hS) (h2.frame hf hS) (h3.frame hf hS)
 | .bin op t a b u v e h1 h2=>.bin op t a b u v e (h1.frame hf hS) (h2.frame hf hS)
 | .una op t a u e h1=>.una op t a u e (h1.frame hf hS)
 | .nam op t s a u e h1=>.nam op t s a u e (h1.frame hf hS)
 | .isIn s a b u v h1 h2=>.isIn s a b u v (h1.frame hf hS) (h2.frame hf hS)
 | .like l a u sv h1 h2=>.like l a u sv (h1.frame hf hS) (h2.frame hf hS)
 | .call s l vs sv h1 h2=>.call s l vs sv (h1.frame hf hS) (h2.frame hf hS)
 | .set l vs sv h1 h2=>.set l vs sv (h1.frame hf hS) (h2.frame hf hS)
 | .rec_ ks l vs sv e h1 h2=>.rec_ ks l vs sv e (h1.frame hf hS) (h2.frame hf hS)
theorem RepL.frame{l:List Ex}{vs:List Value}(hf:Fr S w w')(hS:∀ g,Z g->g < w.heap.size->¬ S g)(h:RepL w Z l vs):RepL w' Z l vs :=
 match h with
 | .nil=>.nil
 | .cons x l v vs h1 h2=>.cons x l v vs (h1.frame hf hS) (h2.frame hf hS)
end
end
section
variable {Z Z':Nat->Prop} {w:World}
mutual
theorem Rep.mono{x:Ex}{v:Value}(hZ:∀ g,g < w.heap.size->Z g->Z' g)(h:Rep w Z x v):Rep w Z' x v :=
 match h with
 | .lit l v e=>.lit l v e
 | .var s=>.var s
 | .ite a b c u v x h1 h2 h3=>.ite a b c u v x (h1.mono hZ) (h2.mono hZ) (h3.mono hZ)
 | .bin op t a b u v e h1 h2=>.bin op t a b u v e (h1.mono hZ) (h2.mono hZ)
 | .una op t a u e h1=>.una op t a u e (h1.mono hZ)
 | .nam op t s a u e h1=>.nam op t s a u e (h1.mono hZ)
 | .isIn s a b u v h1 h2=>.isIn s a b u v (h1.mono hZ) (h2.mono hZ)
 | .like l a u sv h1 h2=>.like l a u sv (h1.mono hZ) (h2.mono hZ)
 | .call s l vs sv h1 h2=>.call s l vs sv (h1.mono hZ) (h2.mono hZ)
 | .set l vs sv h1 h2=>.set l vs sv (h1.mono hZ) (h2.mono hZ)
 | .rec_ ks l vs sv e h1 h2=>.rec_ ks l vs sv e (h1.mono hZ) (h2.mono hZ)
theorem RepL.mono{l:List Ex}{vs:List Value}(hZ:∀ g,g < w.heap.size->Z g->Z' g)(h:RepL w Z l vs):RepL w Z' l vs :=
 match h with
 | .nil=>.nil
 | .cons x l v vs h1 h2=>.cons x l v vs (h1.mono hZ) (h2.mono hZ)
end
end
theorem RepL.length{w:World}{Z:Nat->Prop}{l:List Ex}{vs:List Value}(h:RepL w Z l vs):vs.length=l.length:=by
 induction l generalizing vs with
 | nil=>cases h;rfl
 | cons x l ih=>cases h with|cons _ _ v vs h1 h2=>simp[ih h2]
theorem Rep.cell{w:World}{Z:Nat->Prop}{x:Ex}{v:Value}(h:Rep w Z x v):∃ t cs,v = .iface t (.agg cs):=by
 cases h <;> exact⟨_,_,rfl⟩
def Box (w:World)(b:Nat)(t:TypeId)(v:Value):Prop:=w.heap[b]? = some (.cells #[v] t (0,0))
section
variable {w w':World} {b pb:Nat} {t:TypeId} {v:Value}
theorem Box.cell(h:Box w b t v):w.cell? ⟨b,0,none⟩=some v:=cell_of_row w b 0 _ _ _ h
theorem Box.free(h:Box w b t v):w.frozen? ⟨b,0,none⟩=false:=by unfold Box at h;simp[World.frozen?,h]
theorem Box.lt(h:Box w b t v):b < w.heap.size:=(Array.getElem?_eq_some_iff.1 h).1
theorem Box.next(h:Box w b t v)(hf:Fr (· = pb) w w')(hn:b ≠ pb):Box w' b t v:=(hf.block b h.lt hn).trans h
theorem Box.new(w:World)(t:TypeId)(v:Value):Box (w.alloc (.cells #[v] t)) w.heap.size t v:=heap_alloc_new w _
theorem Box.at_(w:World)(t:TypeId)(v:Value){n:Nat}(hn:n=w.heap.size):Box (w.alloc (.cells #[v] t)) n t v:=by subst hn;exact heap_alloc_new w _
theorem Box.set(h:Box w b t v)(u:Value):Box (w.setCell ⟨b,0,none⟩ u) b t u:=by
 have:=lE w b 0 u h
 simpa[Box] using this
theorem Box.far(h:Box w b t v){g o:Nat}{u:Value}(hn:b ≠ g):Box (w.setCell ⟨g,o,none⟩ u) b t v:=(fT _ _ _ _ _ hn).trans h
theorem Box.alloc(h:Box w b t v)(o:Obj):Box (w.alloc o) b t v:=(eh _ _ _ h.lt).trans h
theorem Box.drew(h:Box w b t v):Box w.drew b t v:=h
end
def GotN (pb tb:Nat)(w:World)(r:PR Ex)(e:Ending)(w':World):Prop :=
 match r with
 | .ok x ts=>∃ (t:TypeId) (u:Value),e = .returned (.tuple #[.agg #[.iface t u],.nilIface])/\Rep w' (w.heap.size <= ·) x (.iface t u)/\PSt w' pb tb ts/\Fr (· = pb) w w'
 | .bad=>∃ (t:TypeId) (u:Value),e = .returned (.tuple #[.agg #[.nilIface],.iface t u])/\Fr (· = pb) w w'
 | .out=>True
def Does (f:FuncId)(P:List Tok->PR Ex):Prop :=
 ∀ (w:World) (pb tb:Nat) (ts:List Tok),PSt w pb tb ts->P ts ≠ .out->Calls Tryz.prog f #[.pointer (some ⟨pb,0,none⟩)] w (GotN pb tb w (P ts))
section
variable {f:FuncId} {P:List Tok->PR Ex} {w:World} {pb tb:Nat} {ts:List Tok}
theorem Does.ok(h:Does f P)(hp:PSt w pb tb ts){x:Ex}{ts':List Tok}(hr:P ts = .ok x ts') :
  Calls Tryz.prog f #[.pointer (some ⟨pb,0,none⟩)] w fun e w'=>∃ (t:TypeId) (u:Value),e = .returned (.tuple #[.agg #[.iface t u],.nilIface])/\Rep w' (w.heap.size <= ·) x (.iface t u)/\PSt w' pb tb ts'/\Fr (· = pb) w w':=by
 have:=h w pb tb ts hp (by rw[hr];intro e;cases e)
 rw[hr]at this
 exact this
theorem Does.bad(h:Does f P)(hp:PSt w pb tb ts)(hr:P ts = .bad) :
  Calls Tryz.prog f #[.pointer (some ⟨pb,0,none⟩)] w fun e w'=>∃ (t:TypeId) (u:Value),e = .returned (.tuple #[.agg #[.nilIface],.iface t u])/\Fr (· = pb) w w':=by
 have:=h w pb tb ts hp (by rw[hr];intro e;cases e)
 rw[hr]at this
 exact this
end
end Go.Proofs.YtbdhlpeckennjaaGreatDoor
