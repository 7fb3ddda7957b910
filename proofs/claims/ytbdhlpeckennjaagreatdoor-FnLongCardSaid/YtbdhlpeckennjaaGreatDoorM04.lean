/- FnLong (the proof that the law returns true for every input), part 4 of 52; the last part says what is proved, and its condition. -/
import Derived.Maps.AppendAt
import Derived.OwnWalk
import Derived.Test.YtbdhlpeckennjaaGreatDoorM03
set_option linter.unusedVariables false
set_option linter.unusedSimpArgs false
set_option maxHeartbeats 80000000
set_option maxRecDepth 1000000
namespace Go.Proofs.YtbdhlpeckennjaaGreatDoor
open Go Go.RowKit
def Blk (w:World)(b:Nat)(cs:Array Value)(t:TypeId):Prop:=w.heap[b]? = some (.cells cs t (0,0))
section
variable {w w':World} {b:Nat} {t:TypeId} {cs:Array Value} {S:Nat->Prop}
theorem Blk.cell(h:Blk w b cs t)(k:Nat)(v:Value)(hk:cs[k]? = some v):w.cell? ⟨b,k,none⟩=some v:=by unfold Blk at h;have:=Array.getElem?_eq_some_iff.1 hk;simp[World.cell?,h,hk]
theorem Blk.free(h:Blk w b cs t)(k:Nat):w.frozen? ⟨b,k,none⟩=false:=by unfold Blk at h;simp[World.frozen?,h]
theorem Blk.lt(h:Blk w b cs t):b < w.heap.size:=(Array.getElem?_eq_some_iff.1 h).1
theorem Blk.next(h:Blk w b cs t)(hf:Fr S w w')(hn:¬ S b):Blk w' b cs t:=(hf.block b h.lt hn).trans h
theorem Blk.at_(w:World)(t:TypeId)(cs:Array Value){n:Nat}(hn:n=w.heap.size):Blk (w.alloc (.cells cs t)) n cs t:=by subst hn;exact heap_alloc_new w _
theorem Blk.set(h:Blk w b cs t)(k:Nat)(u:Value){cs':Array Value}(e:cs'=cs.setIfInBounds k u):Blk (w.setCell ⟨b,k,none⟩ u) b cs' t:=by subst e;exact lE w b k u h
theorem Blk.far(h:Blk w b cs t){g o:Nat}{u:Value}(hn:b ≠ g):Blk (w.setCell ⟨g,o,none⟩ u) b cs t:=(fT _ _ _ _ _ hn).trans h
theorem Blk.alloc(h:Blk w b cs t)(o:Obj):Blk (w.alloc o) b cs t:=(eh _ _ _ h.lt).trans h
theorem Blk.drew(h:Blk w b cs t):Blk w.drew b cs t:=h
theorem Blk.drewN(h:Blk w b cs t)(n:Nat):Blk (w.drewN n) b cs t:=h
end
section
variable {w:World} {b:Nat} {t:TypeId} {u v v1 v2 v3:Value}
theorem Blk.s10(h:Blk w b #[v] t):Blk (w.setCell ⟨b,0,none⟩ u) b #[u] t:=h.set 0 u rfl
theorem Blk.s20(h:Blk w b #[v,v1] t):Blk (w.setCell ⟨b,0,none⟩ u) b #[u,v1] t:=h.set 0 u rfl
theorem Blk.s30(h:Blk w b #[v,v1,v2] t):Blk (w.setCell ⟨b,0,none⟩ u) b #[u,v1,v2] t:=h.set 0 u rfl
theorem Blk.s31(h:Blk w b #[v,v1,v2] t):Blk (w.setCell ⟨b,1,none⟩ u) b #[v,u,v2] t:=h.set 1 u rfl
theorem Blk.s32(h:Blk w b #[v,v1,v2] t):Blk (w.setCell ⟨b,2,none⟩ u) b #[v,v1,u] t:=h.set 2 u rfl
theorem Blk.facts1(h:Blk w b #[v] t):w.cell? ⟨b,0,none⟩=some v/\w.frozen? ⟨b,0,none⟩=false/\b < w.heap.size:=⟨h.cell 0 v rfl,h.free 0,h.lt⟩
theorem Blk.facts2(h:Blk w b #[v,v1] t):w.cell? ⟨b,0,none⟩=some v/\w.frozen? ⟨b,0,none⟩=false/\w.cell? ⟨b,1,none⟩=some v1/\w.frozen? ⟨b,1,none⟩=false/\b < w.heap.size:=⟨h.cell 0 v rfl,h.free 0,h.cell 1 v1 rfl,h.free 1,h.lt⟩
end
theorem Blk.k1{w:World}{b:Nat}{t:TypeId}{v0:Value}(h:Blk w b #[v0] t):(w.cell? ⟨b,0,none⟩=some v0/\w.frozen? ⟨b,0,none⟩=false)/\b < w.heap.size:=⟨⟨h.cell 0 _ rfl,h.free 0⟩,h.lt⟩
theorem Blk.k2{w:World}{b:Nat}{t:TypeId}{v0 v1:Value}(h:Blk w b #[v0,v1] t):(w.cell? ⟨b,0,none⟩=some v0/\w.frozen? ⟨b,0,none⟩=false/\w.cell? ⟨b,1,none⟩=some v1/\w.frozen? ⟨b,1,none⟩=false)/\b < w.heap.size:=⟨⟨h.cell 0 _ rfl,h.free 0,h.cell 1 _ rfl,h.free 1⟩,h.lt⟩
theorem Blk.k4{w:World}{b:Nat}{t:TypeId}{v0 v1 v2 v3:Value}(h:Blk w b #[v0,v1,v2,v3] t):(w.cell? ⟨b,0,none⟩=some v0/\w.frozen? ⟨b,0,none⟩=false/\w.cell? ⟨b,1,none⟩=some v1/\w.frozen? ⟨b,1,none⟩=false/\w.cell? ⟨b,2,none⟩=some v2/\w.frozen? ⟨b,2,none⟩=false/\w.cell? ⟨b,3,none⟩=some v3/\w.frozen? ⟨b,3,none⟩=false)/\b < w.heap.size:=⟨⟨h.cell 0 _ rfl,h.free 0,h.cell 1 _ rfl,h.free 1,h.cell 2 _ rfl,h.free 2,h.cell 3 _ rfl,h.free 3⟩,h.lt⟩
theorem Blk.k6{w:World}{b:Nat}{t:TypeId}{v0 v1 v2 v3 v4 v5:Value}(h:Blk w b #[v0,v1,v2,v3,v4,v5] t):(w.cell? ⟨b,0,none⟩=some v0/\w.frozen? ⟨b,0,none⟩=false/\w.cell? ⟨b,1,none⟩=some v1/\w.frozen? ⟨b,1,none⟩=false/\w.cell? ⟨b,2,none⟩=some v2/\w.frozen? ⟨b,2,none⟩=false/\w.cell? ⟨b,3,none⟩=some v3/\w.frozen? ⟨b,3,none⟩=false/\w.cell? ⟨b,4,none⟩=some v4/\w.frozen? ⟨b,4,none⟩=false/\w.cell? ⟨b,5,none⟩=some v5/\w.frozen? ⟨b,5,none⟩=false)/\b < w.heap.size:=⟨⟨h.cell 0 _ rfl,h.free 0,h.cell 1 _ rfl,h.free 1,h.cell 2 _ rfl,h.free 2,h.cell 3 _ rfl,h.free 3,h.cell 4 _ rfl,h.free 4,h.cell 5 _ rfl,h.free 5⟩,h.lt⟩
theorem Blk.k10{w:World}{b:Nat}{t:TypeId}{v0 v1 v2 v3 v4 v5 v6 v7 v8 v9:Value}(h:Blk w b #[v0,v1,v2,v3,v4,v5,v6,v7,v8,v9] t):(w.cell? ⟨b,0,none⟩=some v0/\w.frozen? ⟨b,0,none⟩=false/\w.cell? ⟨b,1,none⟩=some v1/\w.frozen? ⟨b,1,none⟩=false/\w.cell? ⟨b,2,none⟩=some v2/\w.frozen? ⟨b,2,none⟩=false/\w.cell? ⟨b,3,none⟩=some v3/\w.frozen? ⟨b,3,none⟩=false/\w.cell? ⟨b,4,none⟩=some v4/\w.frozen? ⟨b,4,none⟩=false/\w.cell? ⟨b,5,none⟩=some v5/\w.frozen? ⟨b,5,none⟩=false/\w.cell? ⟨b,6,none⟩=some v6/\w.frozen? ⟨b,6,none⟩=false/\w.cell? ⟨b,7,none⟩=some v7/\w.frozen? ⟨b,7,none⟩=false/\w.cell? ⟨b,8,none⟩=some v8/\w.frozen? ⟨b,8,none⟩=false/\w.cell? ⟨b,9,none⟩=some v9/\w.frozen? ⟨b,9,none⟩=false)/\b < w.heap.size:=⟨⟨h.cell 0 _ rfl,h.free 0,h.cell 1 _ rfl,h.free 1,h.cell 2 _ rfl,h.free 2,h.cell 3 _ rfl,h.free 3,h.cell 4 _ rfl,h.free 4,h.cell 5 _ rfl,h.free 5,h.cell 6 _ rfl,h.free 6,h.cell 7 _ rfl,h.free 7,h.cell 8 _ rfl,h.free 8,h.cell 9 _ rfl,h.free 9⟩,h.lt⟩
theorem Blk.k11{w:World}{b:Nat}{t:TypeId}{v0 v1 v2 v3 v4 v5 v6 v7 v8 v9 v10:Value}(h:Blk w b #[v0,v1,v2,v3,v4,v5,v6,v7,v8,v9,v10] t):(w.cell? ⟨b,0,none⟩=some v0/\w.frozen? ⟨b,0,none⟩=false/\w.cell? ⟨b,1,none⟩=some v1/\w.frozen? ⟨b,1,none⟩=false/\w.cell? ⟨b,2,none⟩=some v2/\w.frozen? ⟨b,2,none⟩=false/\w.cell? ⟨b,3,none⟩=some v3/\w.frozen? ⟨b,3,none⟩=false/\w.cell? ⟨b,4,none⟩=some v4/\w.frozen? ⟨b,4,none⟩=false/\w.cell? ⟨b,5,none⟩=some v5/\w.frozen? ⟨b,5,none⟩=false/\w.cell? ⟨b,6,none⟩=some v6/\w.frozen? ⟨b,6,none⟩=false/\w.cell? ⟨b,7,none⟩=some v7/\w.frozen? ⟨b,7,none⟩=false/\w.cell? ⟨b,8,none⟩=some v8/\w.frozen? ⟨b,8,none⟩=false/\w.cell? ⟨b,9,none⟩=some v9/\w.frozen? ⟨b,9,none⟩=false/\w.cell? ⟨b,10,none⟩=some v10/\w.frozen? ⟨b,10,none⟩=false)/\b < w.heap.size:=⟨⟨h.cell 0 _ rfl,h.free 0,h.cell 1 _ rfl,h.free 1,h.cell 2 _ rfl,h.free 2,h.cell 3 _ rfl,h.free 3,h.cell 4 _ rfl,h.free 4,h.cell 5 _ rfl,h.free 5,h.cell 6 _ rfl,h.free 6,h.cell 7 _ rfl,h.free 7,h.cell 8 _ rfl,h.free 8,h.cell 9 _ rfl,h.free 9,h.cell 10 _ rfl,h.free 10⟩,h.lt⟩
theorem Blk.k12{w:World}{b:Nat}{t:TypeId}{v0 v1 v2 v3 v4 v5 v6 v7 v8 v9 v10 v11:Value}(h:Blk w b #[v0,v1,v2,v3,v4,v5,v6,v7,v8,v9,v10,v11] t):(w.cell? ⟨b,0,none⟩=some v0/\w.frozen? ⟨b,0,none⟩=false/\w.cell? ⟨b,1,none⟩=some v1/\w.frozen? ⟨b,1,none⟩=false/\w.cell? ⟨b,2,none⟩=some v2/\w.frozen? ⟨b,2,none⟩=false/\w.cell? ⟨b,3,none⟩=some v3/\w.frozen? ⟨b,3,none⟩=false/\w.cell? ⟨b,4,none⟩=some v4/\w.frozen? ⟨b,4,none⟩=false/\w.cell? ⟨b,5,none⟩=some v5/\w.frozen? ⟨b,5,none⟩=false/\w.cell? ⟨b,6,none⟩=some v6/\w.frozen? ⟨b,6,none⟩=false/\w.cell? ⟨b,7,none⟩=some v7/\w.frozen? ⟨b,7,none⟩=false/\w.cell? ⟨b,8,none⟩=some v8/\w.frozen? ⟨b,8,none⟩=false/\w.cell? ⟨b,9,none⟩=some v9/\w.frozen? ⟨b,9,none⟩=false/\w.cell? ⟨b,10,none⟩=some v10/\w.frozen? ⟨b,10,none⟩=false/\w.cell? ⟨b,11,none⟩=some v11/\w.frozen? ⟨b,11,none⟩=false)/\b < w.heap.size:=⟨⟨h.cell 0 _ rfl,h.free 0,h.cell 1 _ rfl,h.free 1,h.cell 2 _ rfl,h.free 2,h.cell 3 _ rfl,h.free 3,h.cell 4 _ rfl,h.free 4,h.cell 5 _ rfl,h.free 5,h.cell 6 _ rfl,h.free 6,h.cell 7 _ rfl,h.free 7,h.cell 8 _ rfl,h.free 8,h.cell 9 _ rfl,h.free 9,h.cell 10 _ rfl,h.free 10,h.cell 11 _ rfl,h.free 11⟩,h.lt⟩
theorem Blk.k18{w:World}{b:Nat}{t:TypeId}{v0 v1 v2 v3 v4 v5 v6 v7 v8 v9 v10 v11 v12 v13 v14 v15 v16 v17:Value}(h:Blk w b #[v0,v1,v2,v3,v4,v5,v6,v7,v8,v9,v10,v11,v12,v13,v14,v15,v16,v17] t):(w.cell? ⟨b,0,none⟩=some v0/\w.frozen? ⟨b,0,none⟩=false/\w.cell? ⟨b,1,none⟩=some v1/\w.frozen? ⟨b,1,none⟩=false/\w.cell? ⟨b,2,none⟩=some v2/\w.frozen? ⟨b,2,none⟩=false/\w.cell? ⟨b,3,none⟩=some v3/\w.frozen? ⟨b,3,none⟩=false/\w.cell? ⟨b,4,none⟩=some v4/\w.frozen? ⟨b,4,none⟩=false/\w.cell? ⟨b,5,none⟩=some v5/\w.frozen? ⟨b,5,none⟩=false/\w.cell? ⟨b,6,none⟩=some v6/\w.frozen? ⟨b,6,none⟩=false/\w.cell? ⟨b,7,none⟩=some v7/\w.frozen? ⟨b,7,none⟩=false/\w.cell? ⟨b,8,none⟩=some v8/\w.frozen? ⟨b,8,none⟩=false/\w.cell? ⟨b,9,none⟩=some v9/\w.frozen? ⟨b,9,none⟩=false/\w.cell? ⟨b,10,none⟩=some v10/\w.frozen? ⟨b,10,none⟩=false/\w.cell? ⟨b,11,none⟩=some v11/\w.frozen? ⟨b,11,none⟩=false/\w.cell? ⟨b,12,none⟩=some v12/\w.frozen? ⟨b,12,none⟩=false/\w.cell? ⟨b,13,none⟩=some v13/\w.frozen? ⟨b,13,none⟩=false/\w.cell? ⟨b,14,none⟩=some v14/\w.frozen? ⟨b,14,none⟩=false/\w.cell? ⟨b,15,none⟩=some v15/\w.frozen? ⟨b,15,none⟩=false/\w.cell? ⟨b,16,none⟩=some v16/\w.frozen? ⟨b,16,none⟩=false/\w.cell? ⟨b,17,none⟩=some v17/\w.frozen? ⟨b,17,none⟩=false)/\b < w.heap.size:=⟨⟨h.cell 0 _ rfl,h.free 0,h.cell 1 _ rfl,h.free 1,h.cell 2 _ rfl,h.free 2,h.cell 3 _ rfl,h.free 3,h.cell 4 _ rfl,h.free 4,h.cell 5 _ rfl,h.free 5,h.cell 6 _ rfl,h.free 6,h.cell 7 _ rfl,h.free 7,h.cell 8 _ rfl,h.free 8,h.cell 9 _ rfl,h.free 9,h.cell 10 _ rfl,h.free 10,h.cell 11 _ rfl,h.free 11,h.cell 12 _ rfl,h.free 12,h.cell 13 _ rfl,h.free 13,h.cell 14 _ rfl,h.free 14,h.cell 15 _ rfl,h.free 15,h.cell 16 _ rfl,h.free 16,h.cell 17 _ rfl,h.free 17⟩,h.lt⟩
theorem Fr.transN{S:Nat->Prop}{w w1 w2:World}(h:Fr S w w1)(k:Fr (fun _=>False) w1 w2):Fr S w w2:=h.trans k.ofNew
section
variable {Z:Nat->Prop} {w w':World}
theorem Rep.carry{x:Ex}{v:Value}(h:Rep w Z x v)(hf:Fr (fun g=>¬ Z g) w w'):Rep w' Z x v:=h.frame hf (fun _ h1 _ h2=>h2 h1)
theorem RepL.carry{x:List Ex}{v:List Value}(h:RepL w Z x v)(hf:Fr (fun g=>¬ Z g) w w'):RepL w' Z x v:=h.frame hf (fun _ h1 _ h2=>h2 h1)
theorem Row.carry{v:Value}{n size:Nat}{xs:List Value}(h:Row w Z v n size xs)(hf:Fr (fun g=>¬ Z g) w w'):Row w' Z v n size xs:=h.frame hf (fun _ h1 _ h2=>h2 h1)
end
theorem Fr.trans'{S S':Nat->Prop}{w w1 w2:World}(h:Fr S w w1)(k:Fr S' w1 w2)(hs:∀ g,g < w.heap.size->S' g->S g):Fr S w w2 :=
 ⟨k.os.trans h.os,k.tape.trans h.tape,k.output.trans h.output,Nat.le_trans h.size k.size,fun i hi hn=>(k.block i (Nat.lt_of_lt_of_le hi h.size) (fun e=>hn (hs i hi e))).trans (h.block i hi hn)⟩
class bq {α:Type} (E:World->(Nat->Prop)->α->List Value->Prop) (size:outParam Nat):Prop where
 frame:∀ {S Z:Nat->Prop} {w w':World} {x:α} {cs:List Value},E w Z x cs->Fr S w w'->(∀ g,Z g->g < w.heap.size->¬ S g)->E w' Z x cs
 mono:∀ {Z Z':Nat->Prop} {w:World} {x:α} {cs:List Value},E w Z x cs->(∀ g,g < w.heap.size->Z g->Z' g)->E w Z' x cs
 len:∀ {Z:Nat->Prop} {w:World} {x:α} {cs:List Value},E w Z x cs->cs.length=size
 one:∀ {Z:Nat->Prop} {w:World} {x:α} {cs:List Value},E w Z x cs->∀ u ∈ cs,u.oneCell'=true
section
variable {α:Type} (E:World->(Nat->Prop)->α->List Value->Prop)
def EL (w:World)(Z:Nat->Prop):List α->List Value->Prop
 | [],cs=>cs = []
 | x::l,cs=>∃ a b,cs=a++b/\E w Z x a/\EL w Z l b
variable {E} {size:Nat}
theorem EL.frame(h:bq E size){S Z:Nat->Prop}{w w':World}{l:List α}{cs:List Value}(k:EL E w Z l cs)(hf:Fr S w w')(hS:∀ g,Z g->g < w.heap.size->¬ S g):EL E w' Z l cs:=by
 induction l generalizing cs with
 | nil=>exact k
 | cons x l ih=>obtain⟨a,b,e,h1,h2⟩:=k;exact⟨a,b,e,h.frame h1 hf hS,ih h2⟩
theorem EL.mono(h:bq E size){Z Z':Nat->Prop}{w:World}{l:List α}{cs:List Value}(k:EL E w Z l cs)(hS:∀ g,g < w.heap.size->Z g->Z' g):EL E w Z' l cs:=by
 induction l generalizing cs with
 | nil=>exact k
 | cons x l ih=>obtain⟨a,b,e,h1,h2⟩:=k;exact⟨a,b,e,h.mono h1 hS,ih h2⟩
theorem EL.snoc{Z:Nat->Prop}{w:World}{l:List α}{cs:List Value}{x:α}{a:List Value}(k:EL E w Z l cs)(hx:E w Z x a):EL E w Z (l ++ [x]) (cs++a):=by
 induction l generalizing cs with
 | nil=>cases k;exact⟨a,[],by simp,hx,rfl⟩
 | cons y l ih=>obtain⟨a',b,e,h1,h2⟩:=k;exact⟨a',b++a,by simp[e],h1,ih h2⟩
def Acc (E:World->(Nat->Prop)->α->List Value->Prop)(w:World)(Z:Nat->Prop)(v:Value)(l:List α)(e:TypeId)(size:Nat):Prop :=
 ∃ xs,w.ownsRow 0 e size v l.length xs/\(∀ k,v.ownBlock=some k->Z k)/\EL E w (fun g=>Z g/\v.ownBlock ≠ some g) l xs
theorem Acc.nil(w:World)(Z:Nat->Prop)(e:TypeId)(size:Nat):Acc E w Z (.slice none 0 0) [] e size :=
 ⟨[],World.ownsRow_nil w 0 e size,by simp[Value.ownBlock],rfl⟩
theorem Acc.carry[hE:bq E size]{Z:Nat->Prop}{w w':World}{v:Value}{l:List α}{e:TypeId}(h:Acc E w Z v l e size)(hf:Fr (fun g=>¬ Z g) w w'):Acc E w' Z v l e size:=by
 obtain⟨xs,h1,h2,h3⟩:=h
 refine⟨xs,⟨h1.1,?_⟩,h2,h3.frame hE hf (fun g hg _ hn=>hn hg.1)⟩
 rcases h1.2 with hn|⟨g,cap,cur,e1,e2,e3,r⟩
 .exact .inl hn
 .refine .inr ⟨g,cap,cur,e1,e2,?_,r⟩
  rw[hf.block g (Array.getElem?_eq_some_iff.1 e3).1 (fun hn=>hn (h2 g (by rw[e1];rfl)))]
  exact e3
theorem Acc.mono[hE:bq E size]{Z Z':Nat->Prop}{w:World}{v:Value}{l:List α}{e:TypeId}(h:Acc E w Z v l e size)(hZ:∀ g,g < w.heap.size->Z g->Z' g):Acc E w Z' v l e size:=by
 obtain⟨xs,h1,h2,h3⟩:=h
 exact⟨xs,h1,fun k hk=>hZ k (h1.lt k hk).2 (h2 k hk),h3.mono hE (fun g hg hz=>⟨hZ g hg hz.1,hz.2⟩)⟩
theorem Acc.lt{Z:Nat->Prop}{w:World}{v:Value}{l:List α}{e:TypeId}(k:Acc E w Z v l e size):∀ g,v.ownBlock=some g->g < w.heap.size/\Z g:=by
 obtain⟨xs,h1,h2,h3⟩:=k
 exact fun g hg=>⟨(h1.lt g hg).2,h2 g hg⟩
theorem Acc.row[h:bq E size]{Z:Nat->Prop}{w:World}{v:Value}{l:List α}{e:TypeId}(k:Acc E w Z v l e size)(hl:l.length<=100000):∃ xs,Row w Z v l.length size xs/\EL E w Z l xs:=by
 obtain⟨xs,h1,h2,h3⟩:=k
 refine⟨xs,⟨h1.1,by omega,?_⟩,?_⟩
 .rcases h1.2 with ⟨hn,h0⟩|⟨g,cap,cur,e1,e2,e3,r⟩
  .exact⟨none,0,by rw[hn,h0],fun h=>by omega⟩
  .refine⟨some ⟨g,0,none⟩,cap,e1,fun _=>⟨g,rfl,h2 g (by rw[e1];rfl),(h1.lt g (by rw[e1];rfl)).2,fun j u hu=>?_⟩⟩
   have:=h1.cells (g:=g) (by rw[e1];rfl) j u hu
   rw[show(⟨g,j,none⟩:Addr)=(⟨g,0,none⟩:Addr).add j from by unfold Addr.add;split <;> simp_all]
   exact this
 .exact h3.mono h (fun g _ hg=>hg.1)
structure ElT(T e:TypeId)(size bytes:Nat):Prop where
 ht:Tryz.prog.underlying T=some (.slice e)
 hi:∃ i z,Tryz.prog.info? e=some i/\i.zero=some z/\i.size=size/\i.bytes=bytes/\z.cells.size=size
 hsz:0 < size
 hb:bytes<=1000
theorem Acc.push[h:bq E size]{T e:TypeId}{bytes:Nat}(hT:ElT T e size bytes){w:World}{ops:Array Oper}{rest:List Oper}{o:Oper}{a:Act}{Q:Exit->Act->World->Prop}(hgd:o.guard=none)(s x:Operand)
  (ho:o.op = .call { callee:=.builtin .append,args:=#[s,x],argTypes:=#[T,T] }) {Z Zy:Nat->Prop} {v:Value} {l:List α} (hs:a.eval s=v) (hacc:Acc E w Z v l e size)
  {g c:Nat} (hx:a.eval x = .slice (some ⟨g,0,none⟩) 1 c) {y:α} {news:List Value} {e':TypeId} (hblk:Blk w g news.toArray e') (hy:E w Zy y news) (hZ:∀ k,k < w.heap.size->Zy k->Z k/\v.ownBlock ≠ some k) (hnew:Z w.heap.size) (hlen:l.length<=1000000) {S:Nat->Prop} (hS:∀ k,v.ownBlock=some k->S k)
  (hk:∀ v' w',Acc E w' Z v' (l ++ [y]) e size->Fr S w w'->wpList Tryz.prog ops Q rest (a.put o.dst v') w'):wpList Tryz.prog ops Q (o::rest) a w:=by
 obtain⟨i,z,i1,i2,i3,i4,i5⟩:=hT.hi
 obtain⟨xs,h1,h2,h3⟩:=hacc
 have hl:=h.len hy
 have hfin:∀ v' w',w'.ownsRow 0 e size v' (l.length+1) (xs++news)->w.grownBy w' v.ownBlock->(v'.ownBlock=v.ownBlock\/v'.ownBlock=some w.heap.size)->Acc E w' Z v' (l ++ [y]) e size:=by
  intro v' w' k1 k2 k4
  have hfr:Fr (fun k=>v.ownBlock=some k) w w':=Fr.of_grown k2 (fun k e=>e)
  have hne:∀ g,g < w.heap.size->v.ownBlock ≠ some g->v'.ownBlock ≠ some g:=by
   intro g hg hn
   rcases k4 with e|e
   .rw[e];exact hn
   .rw[e];intro e';cases e';omega
  have hA:EL E w (fun g=>(Z g/\v'.ownBlock ≠ some g)/\v.ownBlock ≠ some g) l xs:=EL.mono h h3 (fun g hg hz=>⟨⟨hz.1,hne g hg hz.2⟩,hz.2⟩)
  have hB:E w (fun g=>(Z g/\v'.ownBlock ≠ some g)/\v.ownBlock ≠ some g) y news:=h.mono hy (fun g hg hz=>⟨⟨(hZ g hg hz).1,hne g hg (hZ g hg hz).2⟩,(hZ g hg hz).2⟩)
  have hA':=EL.mono h (EL.frame h hA hfr (fun g hg _ e=>hg.2 e)) (Z':=fun g=>Z g/\v'.ownBlock ≠ some g) (fun g _ hg=>hg.1)
  have hB':=h.mono (h.frame hB hfr (fun g hg _ e=>hg.2 e)) (Z':=fun g=>Z g/\v'.ownBlock ≠ some g) (fun g _ hg=>hg.1)
  refine⟨xs++news,?_,?_,EL.snoc hA' hB'⟩
  .rw[List.length_append,List.length_singleton];exact k1
  .intro k hk'
   rcases k4 with e|e
   .exact h2 k (e ▸ hk')
   .rw[e]at hk';cases hk';exact hnew
 refine wpList_append_own_at w hgd s x T ho 0 e i z size bytes hT.ht i1 i2 i3 i4 i5 hT.hsz v l.length xs hs h1 ⟨g,0,none⟩ 1 c news hx (by omega) (fun j u hu=>?_) (h.one hy) (by unfold maxLen;omega) ?_ (Nat.zero_le _) (fun v' w' k1 k2 _ k4=>hk v' w' (hfin v' w' k1 k2 k4) (Fr.of_grown k2 (fun k e=>hS k e)))
 .have:=hblk.cell j u (by simpa using hu)
  rw[show(⟨g,0,none⟩:Addr).add j=(⟨g,j,none⟩:Addr)from by unfold Addr.add;split <;> simp_all]
  exact this
 .have:=hT.hb
  have h3:(l.length+1) * bytes<=1000001 * 1000:=Nat.mul_le_mul (by omega) this
  omega
end
def Stop (p:Prop):Prop:=p
theorem bu{p:Prop}(h:Stop p):p:=h
def gZ (w:World)(Z:Nat->Prop)(x:Ex)(cs:List Value):Prop:=∃ t u,cs = [.iface t u]/\Rep w Z x (.iface t u)
instance nodeOK:bq gZ 1 where
 frame:=fun⟨t,u,e,h⟩ hf hS=>⟨t,u,e,h.frame hf hS⟩
 mono:=fun⟨t,u,e,h⟩ hS=>⟨t,u,e,Rep.mono hS h⟩
 len:=fun⟨t,u,e,h⟩=>by rw[e];rfl
 one:=fun⟨t,u,e,h⟩ v hv=>by rw[e]at hv;simp at hv;rw[hv];rfl
theorem nodeT:ElT 365 246 1 16:=⟨by kernel_rfl,by
 have h:(Tryz.prog.info? 246).map (fun i=>(i.zero.map (·.cells.size),i.size,i.bytes))=some (some 1,1,16):=by kernel_rfl
 obtain⟨i,hi⟩:∃ i,Tryz.prog.info? 246=some i:=by cases hh:Tryz.prog.info? 246 with|none=>rw[hh]at h;cases h|some i=>exact⟨i,rfl⟩
 rw[hi]at h
 simp at h
 obtain⟨⟨z,hz,hc⟩,h1,h2⟩:=h
 exact⟨i,z,hi,hz,h1,h2,hc⟩,by decide,by decide⟩
theorem jn{w:World}{Z:Nat->Prop}{l:List Ex}{xs:List Value}(h:EL gZ w Z l xs):RepL w Z l xs:=by
 induction l generalizing xs with
 | nil=>cases h;exact .nil
 | cons x l ih=>obtain⟨a,b,rfl,⟨t,u,rfl,hx⟩,h2⟩:=h;exact .cons _ _ _ _ hx (ih h2)
def Got {α:Type}(V:α->Value)(F:Value->Prop)(pb tb:Nat)(w:World)(r:PR α)(e:Ending)(w':World):Prop :=
 match r with
 | .ok a ts=>e = .returned (.tuple #[V a,.nilIface])/\PSt w' pb tb ts/\Fr (· = pb) w w'
 | .bad=>∃ (v:Value) (t:TypeId) (u:Value),F v/\e = .returned (.tuple #[v,.iface t u])/\Fr (· = pb) w w'
 | .out=>True
theorem got{α:Type}(G:World->PR α->Ending->World->Prop){p:Program}{f:FuncId}{a:Array Value}{w:World}{r r':PR α}(h:Calls p f a w (G w r))(e:r=r'):Calls p f a w (G w r'):=e ▸ h
def isStr(v:Value):Prop:=∃ s,v = .string s
abbrev GotS:=Got (fun s=>.string s) isStr
theorem kX(a b:ByteArray):(a++⟨#[58,58]⟩++b).size=a.size+2+b.size:=by rw[ByteArray.size_append,ByteArray.size_append];rfl
theorem aD(w:World)(k o l c:Int)(f s:ByteArray) :
  Calls Tryz.prog 119 #[.agg #[.int .i64 k,.string f,.int .i64 o,.int .i64 l,.int .i64 c,.string s]] w fun e w'=>e = .returned (.bool (k == 1))/\New w w':=by
 go_enter Tryz.func119,Tryz.ntmps119
 go_wp2
 go_ret
 refine⟨rfl,?_⟩
 repeat' (with_reducible(first|exact Fr.refl _ _|apply Fr.drew|apply Fr.alloc))
theorem gr(w:World)(pb tb:Nat)(ts:List Tok)(s:ByteArray)(h:PSt w pb tb ts)(hs:s.size<=1000000)(hne:aj bt s ts ≠ .out) :
  Calls Tryz.prog 130 #[.pointer (some ⟨pb,0,none⟩),.string s] w (GotS pb tb w (aj bt s ts)):=by
 have hft:=aq
 have ltp:=h.lt
 have ltt:=h.lt2
 have ll:=h.len
 have P0:=hqZ h
 have T0:=hqZ (Fr.refl (· = pb) w)
 have HN:=hqZ hne
 clear h hne
 go_enter Tryz.func130,Tryz.ntmps130
 go_wp2_with fail
 go_loopg [6] (ts.length+1) (fun k v wr=>∃ (s':ByteArray) (ts':List Tok),v = .string s'/\ai bt k s' ts'=aj bt s ts/\PSt wr pb tb ts'/\Fr (· = pb) w wr/\s'.size+k * 1000002<=200000000000)
 case atStart=>exact⟨s,ts,rfl,rfl,P0.out,Fr.refl _ _,by omega⟩
 case round =>
  obtain⟨s',ts',rfl,e1,hp,hf,hz⟩:=hrel
  clear P0 T0
  have E0:=hqZ e1
  have P1:=hqZ hp
  have F1:=hqZ hf
  have s0:=hf.size
  clear e1 hp hf
  obtain⟨n,rfl⟩:∃ n,gk=n+1:=by
   cases gk with
   | zero=>exact absurd E0.out.symm HN.out
   | succ n=>exact⟨n,rfl⟩
  (go_wp2_with fail;refine(ay _ pb tb ts' ?_).mono ?_;(all_goals try exact P1.out);rintro e w1 ⟨⟨o,l,c,rfl⟩,hf⟩;(have xs0:=Fr.size hf;have T0:=hqZ (Fr.transN F1.out hf);clear F1;have P0:=hqZ (PSt.new (P1.out) hf);clear P1;clear hf))
  cases hq:((hd ts').text.toList == [58,58])
  .go_wp2
   go_ret2
   rw[show aj bt s ts = .ok s' ts' from by rw[<- E0.out];simp[ai,bt,Tok.is,hq,PR.bind]]
   exact⟨rfl,by exact P0.out,by exact T0.out⟩
  ·(go_wp2_with fail;refine(ag _ pb tb ts' ?_).mono ?_;(all_goals try exact P0.out);rintro e w2 ⟨⟨o2,l2,c2,rfl⟩,hp,hf⟩;(have xs2:=Fr.size hf;have T1:=hqZ (Fr.trans T0.out hf);clear T0;clear P0;have P0:=hqZ hp;clear hp;clear hf))
   have hz1:=PSt.fine P0.out |>.hd
   (go_wp2_with fail;refine(ag _ pb tb (adv ts') ?_).mono ?_;(all_goals try exact P0.out);rintro e w3 ⟨⟨o3,l3,c3,rfl⟩,hp,hf⟩;(have xs4:=Fr.size hf;have T0:=hqZ (Fr.trans T1.out hf);clear T1;clear P0;have P0:=hqZ hp;clear hp;clear hf))
   have E1:=hqZ (show aj bt s ts=if(hd (adv ts')).kind=1 then ai bt n (s'++⟨#[58,58]⟩++(hd (adv ts')).text) (adv (adv ts'))else .bad from by rw[<- E0.out];simp only[ai,bt,Tok.is,hq,if_true];split <;> rfl)
   cases hk:(((hd (adv ts')).kind:Int) == 1)
   ·(go_wp2_with fail;refine(aD _ _ _ _ _ _ _).mono ?_;rintro e w4 ⟨rfl,hf⟩;(have xs6:=Fr.size hf;simp only[aa,ae,ad,af]at xs6;have T1:=hqZ (Fr.transN (T0.out.alloc _) hf);clear T0;have P1:=hqZ (PSt.new (PSt.over (w0:=w) P0.out (Fr.r.alloc _) ltp ltt) hf);clear P0;have B0:=hqZ (Blk.next (Blk.at_ _ _ _ (n:=w3.heap.size) rfl) hf id);obtain⟨xk0,xl0⟩:=Blk.k6 B0.out;clear hf))
    (go_wp2_with fail;refine(ax _ pb tb (adv (adv ts')) _ _ ?_).mono ?_;(all_goals try exact P1.out);rintro e w5 ⟨⟨t,u,rfl⟩,hf⟩;(have xs8:=Fr.size hf;have T0:=hqZ (Fr.transN T1.out hf);clear T1;have P0:=hqZ (PSt.new (P1.out) hf);clear P1;have B1:=hqZ (Blk.next B0.out hf id);clear B0;obtain⟨xk6,xl1⟩:=Blk.k6 B1.out;clear hf;clear xk0))
    go_wp2
    go_ret2
    rw[show aj bt s ts = .bad from by rw[E1.out,if_neg];simp at hk;omega]
    exact⟨_,t,u,⟨s',rfl⟩,rfl,by exact T0.out⟩
   .have ER:=hqZ (show ai bt n (s'++⟨#[58,58]⟩++(hd (adv ts')).text) (adv (adv ts'))=aj bt s ts from by rw[E1.out,if_pos];simp at hk;omega)
    (go_wp2_with fail;refine(aD _ _ _ _ _ _ _).mono ?_;rintro e w4 ⟨rfl,hf⟩;(have xs6:=Fr.size hf;simp only[aa,ae,ad,af]at xs6;have T1:=hqZ (Fr.transN (T0.out.alloc _) hf);clear T0;have P1:=hqZ (PSt.new (PSt.over (w0:=w) P0.out (Fr.r.alloc _) ltp ltt) hf);clear P0;have B0:=hqZ (Blk.next (Blk.at_ _ _ _ (n:=w3.heap.size) rfl) hf id);obtain⟨xk0,xl0⟩:=Blk.k6 B0.out;clear hf))
    have hz2:(hd (adv ts')).text.size<=1000000:=hz1
    go_wp2
    go_roundg n
    case measure=>omega
    case rel =>
     exact⟨_,_,rfl,ER.out,by exact P1.out,by exact T1.out,by rw[kX];omega⟩
theorem dv(w:World)(pb tb:Nat)(ts:List Tok)(h:PSt w pb tb ts)(hne:dA ts ≠ .out) :
  Calls Tryz.prog 87 #[.pointer (some ⟨pb,0,none⟩)] w (GotS pb tb w (dA ts)):=by
 have hft:=aq
 have ltp:=h.lt
 have ltt:=h.lt2
 have P0:=hqZ h
 have T0:=hqZ (Fr.refl (· = pb) w)
 have HN:=hqZ hne
 clear h hne
 go_enter Tryz.func87,Tryz.ntmps87
 have hz1:=PSt.fine P0.out |>.hd
 (go_wp2_with fail;refine(ag _ pb tb ts ?_).mono ?_;(all_goals try exact P0.out);rintro e w1 ⟨⟨o,l,c,rfl⟩,hp,hf⟩;(have xs0:=Fr.size hf;have T1:=hqZ (Fr.trans T0.out hf);clear T0;clear P0;have P0:=hqZ hp;clear hp;clear hf))
 cases hk:(((hd ts).kind:Int) == 1)
 ·(go_wp2_with fail;refine(aD _ _ _ _ _ _ _).mono ?_;rintro e w4 ⟨rfl,hf⟩;(have xs2:=Fr.size hf;simp only[aa,ae,ad,af]at xs2;have T0:=hqZ (Fr.transN (T1.out.alloc _) hf);clear T1;have P1:=hqZ (PSt.new (PSt.over (w0:=w) P0.out (Fr.r.alloc _) ltp ltt) hf);clear P0;have B0:=hqZ (Blk.next (Blk.at_ _ _ _ (n:=w1.heap.size) rfl) hf id);obtain⟨xk0,xl0⟩:=Blk.k6 B0.out;clear hf))
  (go_wp2_with fail;refine(ax _ pb tb (adv ts) _ _ ?_).mono ?_;(all_goals try exact P1.out);rintro e w5 ⟨⟨t,u,rfl⟩,hf⟩;(have xs4:=Fr.size hf;have T1:=hqZ (Fr.transN T0.out hf);clear T0;have P0:=hqZ (PSt.new (P1.out) hf);clear P1;have B1:=hqZ (Blk.next B0.out hf id);clear B0;obtain⟨xk6,xl1⟩:=Blk.k6 B1.out;clear hf;clear xk0))
  go_wp2
  go_ret2
  rw[show dA ts = .bad from by rw[dA,if_neg];simp at hk;omega]
  exact⟨_,t,u,⟨_,rfl⟩,rfl,by exact T1.out⟩
 .have ER:=hqZ (show dA ts=aj bt (hd ts).text (adv ts)from by rw[dA,if_pos];simp at hk;omega)
  (go_wp2_with fail;refine(aD _ _ _ _ _ _ _).mono ?_;rintro e w4 ⟨rfl,hf⟩;(have xs2:=Fr.size hf;simp only[aa,ae,ad,af]at xs2;have T0:=hqZ (Fr.transN (T1.out.alloc _) hf);clear T1;have P1:=hqZ (PSt.new (PSt.over (w0:=w) P0.out (Fr.r.alloc _) ltp ltt) hf);clear P0;have B0:=hqZ (Blk.next (Blk.at_ _ _ _ (n:=w1.heap.size) rfl) hf id);obtain⟨xk0,xl0⟩:=Blk.k6 B0.out;clear hf))
  have HN1:=hqZ (show aj bt (hd ts).text (adv ts) ≠ .out from by rw[<- ER.out];exact HN.out)
  cases hr:aj bt (hd ts).text (adv ts)with
  | out=>exact absurd hr HN1.out
  | bad =>
   (go_wp2_with fail;refine(got (GotS pb tb) (gr _ pb tb _ _ ?_ hz1 HN1.out) hr).mono ?_;(all_goals try exact P1.out);rintro e w5 ⟨_,t,u,⟨s,rfl⟩,rfl,hf⟩;(have xs4:=Fr.size hf;have T1:=hqZ (Fr.trans T0.out hf);clear T0;clear P1;have B1:=hqZ (Blk.next B0.out hf (by show ¬ _;omega));clear B0;obtain⟨xk6,xl1⟩:=Blk.k6 B1.out;clear hf;clear xk0))
   go_wp2
   go_ret2
   rw[ER.out,hr]
   exact⟨_,t,u,⟨s,rfl⟩,rfl,by exact T1.out⟩
  | ok s ts1 =>
   (go_wp2_with fail;refine(got (GotS pb tb) (gr _ pb tb _ _ ?_ hz1 HN1.out) hr).mono ?_;(all_goals try exact P1.out);rintro e w5 ⟨rfl,hp,hf⟩;(have xs4:=Fr.size hf;have T1:=hqZ (Fr.trans T0.out hf);clear T0;clear P1;have B1:=hqZ (Blk.next B0.out hf (by show ¬ _;omega));clear B0;obtain⟨xk6,xl1⟩:=Blk.k6 B1.out;have P0:=hqZ hp;clear hp;clear hf;clear xk0))
   go_wp2
   go_ret2
   rw[ER.out,hr]
   exact⟨rfl,by exact P0.out,by exact T1.out⟩
end Go.Proofs.YtbdhlpeckennjaaGreatDoor
