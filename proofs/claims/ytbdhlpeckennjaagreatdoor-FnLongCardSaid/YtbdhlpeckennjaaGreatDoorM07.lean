/- FnLong (the proof that the law returns true for every input), part 7 of 52; the last part says what is proved, and its condition. -/
import Derived.Maps.OwnSet
import Derived.Maps.OwnOps
import Derived.StillTailTactics
import Derived.Test.YtbdhlpeckennjaaGreatDoorM06
set_option linter.unusedVariables false
set_option linter.unusedSimpArgs false
set_option maxHeartbeats 80000000
set_option maxRecDepth 1000000
namespace Go.Proofs.YtbdhlpeckennjaaGreatDoor
open Go Go.RowKit
def MapL (w:World)(b:Nat)(l:List (ByteArray × Value)):Prop :=
 ∃ es clock,w.heap[b]? = some (.map es clock)/\es.toList.map (fun e=>(e.key,e.val))=l.map (fun p=>(Value.string p.1,p.2))
def look (l:List (ByteArray × Value))(s:ByteArray):Option Value:=(l.find? (fun p=>p.1.data.toList == s.data.toList)).map (·.2)
theorem MapL.next{S:Nat->Prop}{w w':World}{b:Nat}{l:List (ByteArray × Value)}(h:MapL w b l)(hf:Fr S w w')(hn:¬ S b):MapL w' b l:=by
 obtain⟨es,c,hb,he⟩:=h
 exact⟨es,c,(hf.block b (Array.getElem?_eq_some_iff.1 hb).1 hn).trans hb,he⟩
theorem MapL.lt{w:World}{b:Nat}{l:List (ByteArray × Value)}(h:MapL w b l):b < w.heap.size:=by
 obtain⟨es,c,hb,he⟩:=h
 exact(Array.getElem?_eq_some_iff.1 hb).1
theorem MapL.made(w:World):MapL (w.alloc (.map #[] 0)) w.heap.size []:=⟨#[],0,heap_alloc_new w _,rfl⟩
theorem MapL.carry{Z:Nat->Prop}{w w':World}{b:Nat}{l:List (ByteArray × Value)}(h:MapL w b l)(hf:Fr (fun g=>¬ Z g) w w')(hz:Z b):MapL w' b l:=h.next hf (fun hn=>hn hz)
theorem dl(x:ByteArray):x.toList=x.data.toList:=by
 have:=ByteArray.toList_mk x.data.toList
 simpa using this
theorem rP{a b:ByteArray}(h:a.data.toList=b.data.toList):a=b:=by
 cases a;cases b
 simp only[ByteArray.mk.injEq]
 exact Array.toList_inj.1 h
theorem gP(s:ByteArray):∀ (es:List MapEntry) (l:List (ByteArray × Value)) (i:Nat),es.map (fun e=>(e.key,e.val))=l.map (fun p=>(Value.string p.1,p.2)) ->
  (look l s=none/\Instr.findNow .string (.string s) es i=some none)\/∃ j v,look l s=some v/\Instr.findNow .string (.string s) es i=some (some (i+j,v))
 | [],l,i,h=>by
  cases l with
  | nil=>exact .inl ⟨rfl,rfl⟩
  | cons p l=>cases h
 | e::es,l,i,h=>by
  cases l with
  | nil=>cases h
  | cons p l =>
   simp only[List.map_cons,List.cons.injEq,Prod.mk.injEq]at h
   obtain⟨⟨hk,hv⟩,hr⟩:=h
   by_cases hq:p.1.data.toList=s.data.toList
   .have hq':=rP hq
    refine .inr ⟨0,p.2,by unfold look;rw[List.find?_cons_of_pos (by simp[hq])];rfl,?_⟩
    have hb:(s == s)=true:=(MapKept.bytes_beq s s).2 rfl
    simp[Instr.findNow,Instr.sameNow,hk,hq',hv,hb]
   .have hq':¬ s=p.1:=fun e=>hq (by rw[e])
    have hl:look (p::l) s=look l s:=by unfold look;rw[List.find?_cons_of_neg (by simpa using hq)]
    have hs:Instr.findNow .string (.string s) (e::es) i=Instr.findNow .string (.string s) es (i+1):=by
     have hb:(s == p.1)=false:=by
      cases h:(s == p.1)
      .rfl
      .exact absurd ((MapKept.bytes_beq s p.1).1 h) hq'
     simp[Instr.findNow,Instr.sameNow,hk,hb]
    rw[hl,hs]
    rcases gP s es l (i+1) hr with h|⟨j,v,h1,h2⟩
    .exact .inl h
    .exact .inr ⟨j+1,v,h1,by rw[h2];simp;omega⟩
section
variable {P:Program} {w:World}
theorem MapL.run_lookup{t k e:TypeId}{b:Nat}{l:List (ByteArray × Value)}(h:MapL w b l)(ht:P.underlying t=some (.map k e))(hk:P.underlying k=some .string){z:Value}(hz:(zeroValue e).run P w = .ok z w)(s:ByteArray) :
  (Instr.lookup t (.map (some b)) (.string s) true).run P w = .ok (.tuple #[(look l s).getD z,.bool (look l s).isSome]) w:=by
 obtain⟨es,c,hb,he⟩:=h
 have hc:∀ em,(Instr.checkKey em 10000 k (.string s)).run P w = .ok () w:=fun em=>MapKept.run_checkKey hk (by simp[MapKept.IsKey]) em 9999
 rcases gP s es.toList l 0 he with ⟨h1,h2⟩|⟨j,v,h1,h2⟩
 .have hf:=MapKept.run_findKey (w:=w) hk h2
  rw[h1]
  simp[Instr.lookup,run_underlying ht,MapKept.run_getObj_map hb,hc,hf,hz,Result.andThen]
 .have hf:=MapKept.run_findKey (w:=w) hk h2
  rw[h1]
  simp[Instr.lookup,run_underlying ht,MapKept.run_getObj_map hb,hc,hf,Result.andThen]
theorem jf{t k e:TypeId}(ht:P.underlying t=some (.map k e))(hk:P.underlying k=some .string){z:Value}(hz:(zeroValue e).run P w = .ok z w)(s:ByteArray) :
  (Instr.lookup t (.map none) (.string s) true).run P w = .ok (.tuple #[z,.bool false]) w:=by
 have hc:∀ em,(Instr.checkKey em 10000 k (.string s)).run P w = .ok () w:=fun em=>MapKept.run_checkKey hk (by simp[MapKept.IsKey]) em 9999
 have hf:(Instr.findKey k (.string s) []).run P w = .ok none w:=MapKept.run_findKey (w:=w) hk rfl
 simp[Instr.lookup,run_underlying ht,hc,hf,hz,Result.andThen]
theorem MapL.run_new{t k e:TypeId}{b:Nat}{l:List (ByteArray × Value)}(h:MapL w b l)(ht:P.underlying t=some (.map k e))(hk:P.underlying k=some .string)(s:ByteArray)(v:Value)(hn:look l s=none) :
  ∃ w',(Instr.mapUpdate t (.map (some b)) (.string s) v).run P w = .ok () w'/\MapL w' b (l ++ [(s,v)])/\Fr (· = b) w w':=by
 obtain⟨es,c,hb,he⟩:=h
 have hc:∀ em,(Instr.checkKey em 10000 k (.string s)).run P w = .ok () w:=fun em=>MapKept.run_checkKey hk (by simp[MapKept.IsKey]) em 9999
 rcases gP s es.toList l 0 he with ⟨h1,h2⟩|⟨j,v,h1,h2⟩
 .have hf:=MapKept.run_findKey (w:=w) hk h2
  refine⟨{ w with heap:=w.heap.setIfInBounds b (.map (es.push { key:=.string s,val:=v,born:=c }) (c+1)) },?_,?_,?_⟩
  .simp[Instr.mapUpdate,run_underlying ht,MapKept.run_getObj_map hb,hc,hf,MapKept.run_setObj_map _ hb,Result.andThen]
  .exact⟨_,_,(MapKept.heap_set hb).1,by simp[he]⟩
  .exact⟨rfl,rfl,rfl,by simp,fun g _ hg=>(MapKept.heap_set hb).2 g hg⟩
 .rw[hn]at h1;cases h1
end
section
variable {P:Program} (w:World) {ops:Array Oper} {rest:List Oper} {o:Oper} {a:Act} {Q:Exit->Act->World->Prop}
theorem cM(hg:o.guard=none)(m x:Operand)(t:TypeId)(hop:o.op=Op.lookup t m x true){k e:TypeId}(ht:P.underlying t=some (.map k e))(hk:P.underlying k=some .string){z:Value}(hz:(zeroValue e).run P w = .ok z w)
  {b:Nat} {l:List (ByteArray × Value)} (hm:a.eval m = .map (some b)) (h:MapL w b l) {s:ByteArray} (hx:a.eval x = .string s)
  (hK:wpList P ops Q rest (a.put o.dst (.tuple #[(look l s).getD z,.bool (look l s).isSome])) w):wpList P ops Q (o::rest) a w:=by
 refine wpList_plain hg fun K' hK'=>?_
 have hrun:=h.run_lookup ht hk hz s
 unfold Oper.wp
 simp[execOp,hop,hm,hx,hrun,Result.andThen]
 exact hK' _ _ hK
theorem ik(hg:o.guard=none)(m x:Operand)(t:TypeId)(hop:o.op=Op.lookup t m x true){k e:TypeId}(ht:P.underlying t=some (.map k e))(hk:P.underlying k=some .string){z:Value}(hz:(zeroValue e).run P w = .ok z w)
  (hm:a.eval m = .map none) {s:ByteArray} (hx:a.eval x = .string s)
  (hK:wpList P ops Q rest (a.put o.dst (.tuple #[z,.bool false])) w):wpList P ops Q (o::rest) a w:=by
 refine wpList_plain hg fun K' hK'=>?_
 have hrun:=jf (w:=w) ht hk hz s
 unfold Oper.wp
 simp[execOp,hop,hm,hx,hrun,Result.andThen]
 exact hK' _ _ hK
theorem dT(hg:o.guard=none)(m x v:Operand)(t:TypeId)(hop:o.op=Op.mapUpdate t m x v){k e:TypeId}(ht:P.underlying t=some (.map k e))(hk:P.underlying k=some .string)
  {b:Nat} {l:List (ByteArray × Value)} (hm:a.eval m = .map (some b)) (h:MapL w b l) {s:ByteArray} {val:Value} (hx:a.eval x = .string s) (hv:a.eval v=val) (hn:look l s=none)
  (hK:∀ w',MapL w' b (l ++ [(s,val)])->Fr (· = b) w w'->wpList P ops Q rest (a.put o.dst undef) w'):wpList P ops Q (o::rest) a w:=by
 refine wpList_plain hg fun K' hK'=>?_
 obtain⟨w',hrun,h1,h2⟩:=h.run_new ht hk s val hn
 unfold Oper.wp
 simp[execOp,hop,hm,hx,hv,hrun,Result.andThen]
 exact hK' _ _ (hK w' h1 h2)
end
section
variable {P:Program} (w:World) {ops:Array Oper} {rest:List Oper} {o:Oper} {a:Act} {Q:Exit->Act->World->Prop}
theorem ge(hg:o.guard=none)(m x v:Operand)(t:TypeId)(hop:o.op=Op.insert t m x v){k e:TypeId}(ht:P.underlying t=some (.map k e))(hk:P.underlying k=some .string)
  {b:Nat} {L:List (ByteArray × Value)} {n:Nat} (hm:a.eval m = .map (some b)) (h:MapL w b (L.take n)) {s:ByteArray} {val:Value} (hs:L[n]? = some (s,val)) (hx:a.eval x = .string s) (hv:a.eval v=val) (hn:look (L.take n) s=none)
  (hK:∀ w',MapL w' b (L.take (n+1))->Fr (· = b) w w'->wpList P ops Q rest (a.put o.dst undef) w'):wpList P ops Q (o::rest) a w:=by
 refine wpList_plain hg fun K' hK'=>?_
 obtain⟨w',hrun,h1,h2⟩:=h.run_new ht hk s val hn
 have e1:L.take (n+1)=L.take n ++ [(s,val)]:=by rw[List.take_add_one,hs];rfl
 unfold Oper.wp
 simp[execOp,hop,hm,hx,hv,hrun,Result.andThen]
 exact hK' _ _ (hK w' (e1 ▸ h1) h2)
end
theorem at_ins{P:Program}{ops:Array Oper}{rest:List Oper}{dst:Option Tmp}{t:TypeId}{m x v:Operand}{ty:TypeId}{pos:String}{after:Array Edge}{gd:Option (Nat × Bool)}{a:Act}{w:World}{Q:Exit->Act->World->Prop}
  (h:wpList P ops Q ({ dst,op:=.insert t m x v,type:=ty,pos,after,guard:=gd }::rest) a w):wpList P ops Q ({ dst,op:=.insert t m x v,type:=ty,pos,after,guard:=gd }::rest) a w:=h
def extL:List (ByteArray × Value) :=
 [(⟨#[105,112]⟩,.agg #[.int .i64 1,.bool false]),(⟨#[100,101,99,105,109,97,108]⟩,.agg #[.int .i64 1,.bool false]),(⟨#[100,97,116,101,116,105,109,101]⟩,.agg #[.int .i64 1,.bool false]),(⟨#[100,117,114,97,116,105,111,110]⟩,.agg #[.int .i64 1,.bool false]),
  (⟨#[108,101,115,115,84,104,97,110]⟩,.agg #[.int .i64 2,.bool true]),(⟨#[108,101,115,115,84,104,97,110,79,114,69,113,117,97,108]⟩,.agg #[.int .i64 2,.bool true]),(⟨#[103,114,101,97,116,101,114,84,104,97,110]⟩,.agg #[.int .i64 2,.bool true]),(⟨#[103,114,101,97,116,101,114,84,104,97,110,79,114,69,113,117,97,108]⟩,.agg #[.int .i64 2,.bool true]),
  (⟨#[105,115,73,112,118,52]⟩,.agg #[.int .i64 1,.bool true]),(⟨#[105,115,73,112,118,54]⟩,.agg #[.int .i64 1,.bool true]),(⟨#[105,115,76,111,111,112,98,97,99,107]⟩,.agg #[.int .i64 1,.bool true]),(⟨#[105,115,77,117,108,116,105,99,97,115,116]⟩,.agg #[.int .i64 1,.bool true]),(⟨#[105,115,73,110,82,97,110,103,101]⟩,.agg #[.int .i64 2,.bool true]),
  (⟨#[116,111,68,97,116,101]⟩,.agg #[.int .i64 1,.bool true]),(⟨#[116,111,84,105,109,101]⟩,.agg #[.int .i64 1,.bool true]),(⟨#[111,102,102,115,101,116]⟩,.agg #[.int .i64 2,.bool true]),(⟨#[100,117,114,97,116,105,111,110,83,105,110,99,101]⟩,.agg #[.int .i64 2,.bool true]),
  (⟨#[116,111,68,97,121,115]⟩,.agg #[.int .i64 1,.bool true]),(⟨#[116,111,72,111,117,114,115]⟩,.agg #[.int .i64 1,.bool true]),(⟨#[116,111,77,105,110,117,116,101,115]⟩,.agg #[.int .i64 1,.bool true]),(⟨#[116,111,83,101,99,111,110,100,115]⟩,.agg #[.int .i64 1,.bool true]),(⟨#[116,111,77,105,108,108,105,115,101,99,111,110,100,115]⟩,.agg #[.int .i64 1,.bool true])]
theorem ni(s:ByteArray):match eK s.toList with
  | none=>look extL s=none
  | some b=>∃ n:Int,look extL s=some (.agg #[.int .i64 n,.bool b]):=by
 rw[dl]
 unfold look
 generalize s.data.toList=e
 unfold eK
 split
 .rename_i hb
  split at hb
  .cases hb
  .rename_i h1
   split at hb
   .cases hb
   .rename_i h2
    rw[Option.map_eq_none_iff,List.find?_eq_none]
    intro p hp
    simp only[not_or]at h1 h2
    simp only[extL,List.mem_cons,List.not_mem_nil,or_false]at hp
    simp only[beq_iff_eq]
    intro he
    subst he
    obtain⟨a1,a2,a3,a4⟩:=h1
    obtain⟨b1,b2,b3,b4,b5,b6,b7,b8,b9,b10,b11,b12,b13,b14,b15,b16,b17,b18⟩:=h2
    rcases hp with rfl|rfl|rfl|rfl|rfl|rfl|rfl|rfl|rfl|rfl|rfl|rfl|rfl|rfl|rfl|rfl|rfl|rfl|rfl|rfl|rfl|rfl <;> simp_all
 .rename_i b hb
  split at hb
  .rename_i h
   cases hb
   rcases h with rfl|rfl|rfl|rfl <;> first|exact⟨1,rfl⟩|exact⟨2,rfl⟩
  .split at hb
   .rename_i h
    cases hb
    rcases h with rfl|rfl|rfl|rfl|rfl|rfl|rfl|rfl|rfl|rfl|rfl|rfl|rfl|rfl|rfl|rfl|rfl|rfl <;> first|exact⟨1,rfl⟩|exact⟨2,rfl⟩
   .cases hb
theorem extT:Tryz.prog.underlying 374=some (.map 197 372):=by kernel_rfl
theorem mD:Tryz.prog.underlying 197=some .string:=by kernel_rfl
theorem pD(w:World):Calls Tryz.prog 243 #[] w (fun e w'=>e = .returned (.map (some w.heap.size))/\MapL w' w.heap.size extL/\New w w'):=by
 have hmm:=@run_makeMap Tryz.prog
 have M0:=hqZ (show MapL (w.alloc (.map #[] 0)) w.heap.size (extL.take 0)from MapL.made w)
 have F0:=hqZ ((Fr.refl (· = w.heap.size) w).alloc (.map #[] 0))
 go_enter Tryz.func243,Tryz.ntmps243
 go_wp2_with (first|(with_reducible refine at_ins ?_;refine ge _ rfl _ _ _ _ rfl extT mD rfl M0.out rfl rfl rfl (by kernel_rfl) ?_;intro w1 h1 f1;have M1:=hqZ h1;have F1:=hqZ (F0.out.trans f1);clear h1 f1 M0 F0;have M0:=M1;have F0:=F1;clear M1 F1)|go_in)
 go_ret
 refine⟨rfl,M0.out,F0.out.mono ?_⟩
 intro k hk e
 omega
def KM (w:World)(Z:Nat->Prop)(mv:Value)(ks:List ByteArray):Prop :=
 (mv = .map none/\ks = [])\/∃ b,mv = .map (some b)/\Z b/\MapL w b (ks.map fun k=>(k,.agg #[]))
theorem KM.carry{Z:Nat->Prop}{w w':World}{mv:Value}{ks:List ByteArray}(h:KM w Z mv ks)(hf:Fr (fun g=>¬ Z g) w w'):KM w' Z mv ks:=by
 rcases h with h|⟨b,h1,h2,h3⟩
 .exact .inl h
 .exact .inr ⟨b,h1,h2,h3.next hf (fun hn=>hn h2)⟩
theorem KM.mono{Z Z':Nat->Prop}{w:World}{mv:Value}{ks:List ByteArray}(h:KM w Z mv ks)(hZ:∀ g,g < w.heap.size->Z g->Z' g):KM w Z' mv ks:=by
 rcases h with h|⟨b,h1,h2,h3⟩
 .exact .inl h
 .exact .inr ⟨b,h1,hZ b h3.lt h2,h3⟩
theorem kB(ks:List ByteArray)(s:ByteArray):(look (ks.map fun k=>(k,Value.agg #[])) s).isSome=ks.any (fun k=>k.toList == s.toList):=by
 unfold look
 induction ks with
 | nil=>rfl
 | cons k ks ih =>
  simp only[List.map_cons,List.any_cons]
  by_cases hq:k.data.toList=s.data.toList
  .rw[List.find?_cons_of_pos (by simp[hq])]
   simp[dl,hq]
  .rw[List.find?_cons_of_neg (by simpa using hq)]
   rw[ih]
   have:(k.toList == s.toList)=false:=by simpa[dl] using hq
   rw[this];rfl
theorem pW(ks:List ByteArray)(s:ByteArray):(look (ks.map fun k=>(k,Value.agg #[])) s).getD (.agg #[]) = .agg #[]:=by
 unfold look
 cases h:(ks.map fun k=>(k,Value.agg #[])).find? (fun p=>p.1.data.toList == s.data.toList)with
 | none=>rfl
 | some p =>
  obtain⟨k,-,rfl⟩:=List.mem_map.1 (List.mem_of_find?_eq_some h)
  rfl
theorem dn{P:Program}(w:World){ops:Array Oper}{rest:List Oper}{o:Oper}{a:Act}{Q:Exit->Act->World->Prop}(hg:o.guard=none)(m x:Operand)(t:TypeId)(hop:o.op=Op.lookup t m x true){k e:TypeId}(ht:P.underlying t=some (.map k e))(hk:P.underlying k=some .string)(hz:(zeroValue e).run P w = .ok (.agg #[]) w)
  {b:Nat} {ks:List ByteArray} (hm:a.eval m = .map (some b)) (h:MapL w b (ks.map fun k=>(k,Value.agg #[]))) {s:ByteArray} (hx:a.eval x = .string s)
  (hK:wpList P ops Q rest (a.put o.dst (.tuple #[.agg #[],.bool (ks.any fun k=>k.toList == s.toList)])) w):wpList P ops Q (o::rest) a w:=by
 refine cM w hg m x t hop ht hk hz hm h hx ?_
 rw[pW,kB]
 exact hK
theorem setT:Tryz.prog.underlying 228=some (.map 9 270):=by kernel_rfl
theorem strT:Tryz.prog.underlying 9=some .string:=by kernel_rfl
theorem pn(w:World):(zeroValue 270).run Tryz.prog w = .ok (.agg #[]) w:=by kernel_rfl
theorem eH(w:World)(Z:Nat->Prop)(mv:Value)(ks:List ByteArray)(s:ByteArray)(h:KM w Z mv ks) :
  Calls Tryz.prog 121 #[.agg #[mv],.string s] w fun e w'=>e = .returned (.bool (ks.any fun k=>k.toList == s.toList))/\New w w':=by
 rcases h with ⟨rfl,rfl⟩|⟨b,rfl,h2,h3⟩
 .go_enter Tryz.func121,Tryz.ntmps121
  go_wp2_with (first|(at_lookup;refine ik _ rfl _ _ _ rfl setT strT (pn _) rfl rfl ?_)|go_in)
  go_ret
  refine⟨rfl,?_⟩
  repeat' (with_reducible(first|exact Fr.refl _ _|apply Fr.drew|apply Fr.alloc))
 .go_enter Tryz.func121,Tryz.ntmps121
  go_wp2_with (first|(at_lookup;refine dn _ rfl _ _ _ rfl setT strT (pn _) rfl (h3.next (S:=fun _=>False) ?_ id) rfl ?_;· repeat' (with_reducible(first|exact Fr.refl _ _|apply Fr.drew|apply Fr.alloc)))|go_in)
  go_ret
  refine⟨rfl,?_⟩
  repeat' (with_reducible(first|exact Fr.refl _ _|apply Fr.drew|apply Fr.alloc))
theorem mp_some(b:Nat)(w:World):Sem.run Tryz.prog (binOp BinOp.eql 228 (.map (some b)) (.map none)) w = .ok (.bool false) w:=by kernel_rfl
theorem mp_none(w:World):Sem.run Tryz.prog (binOp BinOp.eql 228 (.map none) (.map none)) w = .ok (.bool true) w:=by kernel_rfl
theorem lP(w:World)(mb kb:Nat)(mv:Value)(ks:List ByteArray)(s:ByteArray)(hb:Blk w kb #[mv] 230)(h:KM w (fun g=>g=mb) mv ks)(hn:(ks.any fun k=>k.toList == s.toList)=false) :
  Calls Tryz.prog 122 #[.pointer (some ⟨kb,0,none⟩),.string s] w fun e w'=>e = .returned (.bool true)/\∃ mv' mb',Blk w' kb #[mv'] 230/\KM w' (fun g=>g=mb') mv' (ks ++ [s])/\(mb'=mb\/(w.heap.size<=mb'/\mb' < w'.heap.size))/\Fr (fun k=>k=kb\/k=mb) w w':=by
 have hmm:=@run_makeMap Tryz.prog
 have hms:=mp_some
 have hmn:=mp_none
 have c0:=hb.cell 0 mv rfl
 have f0:=hb.free 0
 have l0:=hb.lt
 have hnl:look (ks.map fun k=>(k,Value.agg #[])) s=none:=by
  have:=kB ks s
  rw[hn]at this
  simpa using this
 have HB:=hqZ hb
 have HL:=hqZ hnl
 have HM:=hqZ h
 clear hb hnl
 rcases h with ⟨rfl,rfl⟩|⟨b,rfl,rfl,h3⟩
 .have HZ:=hqZ (show ∀ v,MapL ((w.setCell ⟨kb,0,none⟩ v).alloc (.map #[] 0)) w.heap.size (([]:List ByteArray).map fun k=>(k,Value.agg #[]))from fun v=>by have:=MapL.made (w.setCell ⟨kb,0,none⟩ v);rwa [af]at this)
  go_enter Tryz.func122,Tryz.ntmps122
  go_wp2_with (first|(at_lookup;refine bu ?_)|go_in)
  unfold Stop
  refine dn _ rfl _ _ _ rfl setT strT (pn _) rfl ((HZ.out (.map (some w.heap.size))).next (S:=fun k=>k=kb) ?_ (by omega)) rfl ?_
  .repeat' (with_reducible(first|exact Fr.refl _ _|apply Fr.drew|apply Fr.alloc))
  go_wp2
  have B5:Blk (((w.setCell ⟨kb,0,none⟩ (.map (some w.heap.size))).alloc (.map #[] 0)).alloc (.cells #[] 270)) kb #[.map (some w.heap.size)] 230:=((HB.out.set 0 _ rfl).alloc _).alloc _
  have M5:MapL (((w.setCell ⟨kb,0,none⟩ (.map (some w.heap.size))).alloc (.map #[] 0)).alloc (.cells #[] 270)) w.heap.size (([]:List ByteArray).map fun k=>(k,Value.agg #[])):=(HZ.out _).next (S:=fun k=>False) (Fr.r.alloc _) id
  have F5:Fr (fun k=>k=kb\/k=mb) w (((w.setCell ⟨kb,0,none⟩ (.map (some w.heap.size))).alloc (.map #[] 0)).alloc (.cells #[] 270)):=Fr.alloc (Fr.alloc (Fr.set Fr.r (.inl (.inl rfl))) _) _
  have S5:w.heap.size < (((w.setCell ⟨kb,0,none⟩ (.map (some w.heap.size))).alloc (.map #[] 0)).alloc (.cells #[] 270)).heap.size:=by simp only[aa,af];omega
  generalize (((w.setCell ⟨kb,0,none⟩ (.map (some w.heap.size))).alloc (.map #[] 0)).alloc (.cells #[] 270))=w5 at B5 M5 F5 S5 ⊢
  have c5:=B5.cell 0 _ rfl
  have HM5:=hqZ M5
  have HF5:=hqZ F5
  have HB5:=hqZ B5
  clear M5 F5 B5
  go_still_tail 6,(by kernel_rfl)
  change wpList _ _ _ _ _ w5.drew
  refine dT _ rfl _ _ _ _ rfl setT strT rfl (HM5.out.next (S:=fun k=>False) (Fr.drew Fr.r) id) rfl rfl HL.out ?_
  intro w1 h1 f1
  have H1:=hqZ h1
  have F1:=hqZ (Fr.trans (Fr.drew Fr.r) f1:Fr _ w5 w1)
  clear h1 f1
  go_wp2
  go_ret
  refine⟨rfl,_,w.heap.size,HB5.out.next F1.out (by omega),.inr ⟨_,rfl,rfl,?_⟩,.inr ⟨Nat.le_refl _,?_⟩,?_⟩
  .exact H1.out
  .have:=F1.out.size
   omega
  .refine Fr.trans' HF5.out F1.out (fun g hg e=>?_)
   omega
 .go_enter Tryz.func122,Tryz.ntmps122
  go_wp2_with (first|(at_lookup;refine bu ?_)|go_in)
  unfold Stop
  refine dn _ rfl _ _ _ rfl setT strT (pn _) rfl (h3.next (S:=fun k=>False) ?_ id) rfl ?_
  .repeat' (with_reducible(first|exact Fr.refl _ _|apply Fr.drew|apply Fr.alloc))
  go_wp2
  have hne:kb ≠ b:=by
   rintro rfl
   obtain⟨es,c,hb,-⟩:=h3
   have:=HB.out
   unfold Blk at this
   rw[this]at hb
   cases hb
  have B5:Blk (w.alloc (.cells #[] 270)) kb #[.map (some b)] 230:=HB.out.alloc _
  have M5:MapL (w.alloc (.cells #[] 270)) b (ks.map fun k=>(k,Value.agg #[])):=h3.next (S:=fun k=>False) (Fr.r.alloc _) id
  have F5:Fr (fun k=>k=kb\/k=b) w (w.alloc (.cells #[] 270)):=Fr.alloc Fr.r _
  generalize (w.alloc (.cells #[] 270))=w5 at B5 M5 F5 ⊢
  have c5:=B5.cell 0 _ rfl
  have HM5:=hqZ M5
  have HF5:=hqZ F5
  have HB5:=hqZ B5
  clear M5 F5 B5
  go_still_tail 6,(by kernel_rfl)
  change wpList _ _ _ _ _ w5.drew
  refine dT _ rfl _ _ _ _ rfl setT strT rfl (HM5.out.next (S:=fun k=>False) (Fr.drew Fr.r) id) rfl rfl HL.out ?_
  intro w1 h1 f1
  have H1:=hqZ h1
  have F1:=hqZ (Fr.trans (Fr.drew Fr.r) f1:Fr _ w5 w1)
  clear h1 f1
  go_wp2
  go_ret
  refine⟨rfl,_,b,HB5.out.next F1.out hne,.inr ⟨_,rfl,rfl,?_⟩,.inl rfl,?_⟩
  .have:=H1.out
   rw[List.map_append]
   exact this
  .exact Fr.trans' HF5.out F1.out (fun g hg e=>.inr e)
def GotL (pb tb:Nat)(w:World)(r:PR (List Ex))(e:Ending)(w':World):Prop :=
 match r with
 | .ok l ts=>∃ v,e = .returned (.tuple #[v,.nilIface])/\Acc gZ w' (w.heap.size <= ·) v l 246 1/\l.length<=100000/\PSt w' pb tb ts/\Fr (· = pb) w w'
 | .bad=>∃ (v:Value) (t:TypeId) (u:Value),e = .returned (.tuple #[v,.iface t u])/\Fr (· = pb) w w'
 | .out=>True
theorem oW(E:List Tok->PR Ex)(hE:Does 135 E)(w:World)(pb tb:Nat)(ts:List Tok)(m:ByteArray)(h:PSt w pb tb ts)(hne:bk E m.toList ts ≠ .out) :
  Calls Tryz.prog 232 #[.pointer (some ⟨pb,0,none⟩),.string m] w (GotL pb tb w (bk E m.toList ts)):=by
 have hft:=aq
 have ltp:=h.lt
 have ltt:=h.lt2
 have ll:=h.len
 have P0:=hqZ h
 have T0:=hqZ (Fr.refl (· = pb) w)
 have HN:=hqZ hne
 have HE:=hqZ hE
 clear h hne hE
 go_enter Tryz.func232,Tryz.ntmps232
 go_wp2_with fail
 go_loopg [6] (ts.length+1) (fun k v wr=>∃ (l:List Ex) (ts':List Tok),
  ai (bG E m.toList) k l ts'=bk E m.toList ts/\PSt wr pb tb ts'/\Fr (· = pb) w wr/\Acc gZ wr (w.heap.size <= ·) v l 246 1/\l.length+k<=100001)
 case atStart=>exact⟨[],ts,rfl,by exact P0.out,by exact T0.out,Acc.nil _ _ _ _,by simp;omega⟩
 case round =>
  obtain⟨l,ts',e1,hp,hf,hacc,hlen⟩:=hrel
  have HV:=hqZ hacc.lt
  (clear T0;clear P0;have H0:=hqZ hf;have xs0:=Fr.size H0.out;clear hf;have H1:=hqZ hp;clear hp;have H2:=hqZ (Acc.mono (Z':=fun g=>w.heap.size<=g/\g < wr.heap.size) (hZ:=fun g h1 h2=>⟨h2,h1⟩) (h:=hacc));clear hacc)
  have E0:=hqZ e1
  clear e1
  obtain⟨n,rfl⟩:∃ n,gk=n+1:=by
   cases gk with
   | zero=>exact absurd E0.out.symm HN.out
   | succ n=>exact⟨n,rfl⟩
  (go_wp2_with fail;refine(ay _ pb tb ts' ?_).mono ?_;(all_goals try exact H1.out);rintro e v1 ⟨⟨o1,l1,c1,rfl⟩,hf⟩;(have xs1:=Fr.size hf;have T0:=hqZ (Fr.transN H0.out hf);clear H0;have P0:=hqZ (PSt.new (H1.out) hf);clear H1;have X0:=hqZ (Acc.carry H2.out (Fr.transN Fr.r hf));clear H2;clear hf))
  cases hq:((hd ts').text.toList == m.toList)
  case true =>
   have ER:=hqZ (show bk E m.toList ts = .ok l ts' from by rw[<- E0.out];simp[ai,bG,Tok.is,hq,PR.bind])
   go_wp2
   go_ret2
   rw[ER.out]
   exact⟨_,rfl,by exact Acc.mono (h:=X0.out) (hZ:=fun g _ hg=>by omega),by omega,by exact P0.out,by exact T0.out⟩
  case false =>
   have E1:=hqZ (show bk E m.toList ts=(E ts').bind fun e ts1=>if(hd ts1).is [44]then ai (bG E m.toList) n (l ++ [e]) (adv ts1)else if(hd ts1).is m.toList then ai (bG E m.toList) n (l ++ [e]) ts1 else .bad from by
    rw[<- E0.out];simp only[ai,bG,Tok.is,hq,Bool.false_eq_true,if_false];cases E ts' with
    | ok x ts1 =>
     rcases Bool.eq_false_or_eq_true ((hd ts1).text.toList == [44])with h1|h1 <;> rcases Bool.eq_false_or_eq_true ((hd ts1).text.toList == m.toList)with h2|h2 <;> simp[h1,h2,PR.bind]
    | bad=>rfl
    | out=>rfl)
   cases hs:E ts' with
   | out=>exact absurd (by rw[E1.out,hs];rfl) HN.out
   | bad =>
    (go_wp2_with fail;refine(HE.out.bad (tb:=tb) ?_ hs).mono ?_;(all_goals try exact P0.out);rintro e v2 ⟨t,u,rfl,hf⟩;(have xs3:=Fr.size hf;have T1:=hqZ (Fr.trans T0.out hf);clear T0;clear P0;have X1:=hqZ (Acc.carry X0.out (Fr.trans' Fr.r hf (fun k _ hs=>by omega)));clear X0;clear hf))
    go_wp2
    go_ret2
    rw[E1.out,hs]
    exact⟨_,t,u,rfl,by exact(T1.out.alloc _)⟩
   | ok y ts1 =>
    (go_wp2_with fail;refine(HE.out.ok (tb:=tb) ?_ hs).mono ?_;(all_goals try exact P0.out);rintro e v2 ⟨t2,u2,rfl,hy,hp,hf⟩;(have xs3:=Fr.size hf;have T1:=hqZ (Fr.trans T0.out hf);clear T0;clear P0;have X1:=hqZ (Rep.mono (Z':=fun g=>v1.heap.size<=g/\g < v2.heap.size) (hZ:=fun g h1 h2=>⟨h2,h1⟩) (h:=hy));clear hy;have X2:=hqZ (Acc.carry X0.out (Fr.trans' Fr.r hf (fun k _ hs=>by omega)));clear X0;have P0:=hqZ hp;clear hp;clear hf))
    have E2:=hqZ (show bk E m.toList ts=if(hd ts1).is [44]then ai (bG E m.toList) n (l ++ [y]) (adv ts1)else if(hd ts1).is m.toList then ai (bG E m.toList) n (l ++ [y]) ts1 else .bad from by rw[E1.out,hs];rfl)
    clear hs
    go_wp2_with (at_builtin;refine bu ?_)
    unfold Stop
    refine Acc.push (E:=gZ) (Z:=(w.heap.size <= ·)) nodeT rfl _ _ rfl rfl (by exact Acc.mono (h:=(Acc.carry X2.out ((Fr.r.alloc _).alloc _))) (hZ:=fun g _ hg=>by omega)) rfl (news:=[.iface t2 u2]) (by exact(Blk.at_ _ _ _ (n:=v2.heap.size+1) (by simp only[aa,ae,ad,af]))) (y:=y) (Zy:=(v1.heap.size <= ·)) ⟨_,_,rfl,by exact Rep.mono (h:=(Rep.carry X1.out ((Fr.r.alloc _).alloc _))) (hZ:=fun g _ hg=>by omega)⟩ (fun k _ hk=>⟨by(try dsimp only at hk ⊢);omega,fun e=>by have:=(HV.out k e).1;(try dsimp only at hk);omega⟩) (by simp only[aa];omega) (by omega) (S:=fun k=>w.heap.size<=k/\k < wr.heap.size) (fun k e=>by have:=HV.out k e;exact⟨this.2,this.1⟩) ?_
    rintro v' v3 hacc hf
    (have xs5:=Fr.size hf;simp only[aa,ae,ad,af]at xs5;have T0:=hqZ (Fr.trans' ((T1.out.alloc _).alloc _) hf (fun k hk hs=>by omega));clear T1;have P1:=hqZ (PSt.frame (PSt.over (w0:=w) P0.out ((Fr.r.alloc _).alloc _) ltp ltt) hf (by show ¬ _;omega) (by show ¬ _;omega));clear P0;have B0:=hqZ (Blk.next ((Blk.at_ _ _ _ (n:=v2.heap.size) rfl).alloc _) hf (by show ¬ _;omega));obtain⟨xk0,xl0⟩:=Blk.k1 B0.out;have B1:=hqZ (Blk.next (Blk.at_ _ _ _ (n:=v2.heap.size+1) (by simp only[aa,ae,ad,af])) hf (by show ¬ _;omega));obtain⟨xk1,xl1⟩:=Blk.k1 B1.out;have X0:=hqZ (Rep.carry X1.out (Fr.trans' ((Fr.r.alloc _).alloc _) hf (fun k _ hs=>by omega)));clear X1;clear X2;have X1:=hqZ (Acc.mono (Z':=fun g=>w.heap.size<=g/\g < v3.heap.size) (hZ:=fun g h1 h2=>⟨h2,h1⟩) (h:=hacc));clear hacc;clear hf)
    (go_wp2_with fail;refine(ay _ pb tb ts1 ?_).mono ?_;(all_goals try exact P1.out);rintro e v4 ⟨⟨o2,l2,c2,rfl⟩,hf⟩;(have xs7:=Fr.size hf;have T1:=hqZ (Fr.transN T0.out hf);clear T0;have P0:=hqZ (PSt.new (P1.out) hf);clear P1;have B2:=hqZ (Blk.next B0.out hf id);clear B0;obtain⟨xk2,xl2⟩:=Blk.k1 B2.out;have B0:=hqZ (Blk.next B1.out hf id);clear B1;obtain⟨xk3,xl3⟩:=Blk.k1 B0.out;have X2:=hqZ (Rep.carry X0.out (Fr.transN Fr.r hf));clear X0;have X0:=hqZ (Acc.carry X1.out (Fr.transN Fr.r hf));clear X1;clear hf;clear xk0 xk1))
    cases q1:((hd ts1).text.toList == [44])
    case true =>
     have E3:=hqZ (show ai (bG E m.toList) n (l ++ [y]) (adv ts1)=bk E m.toList ts from by rw[E2.out,if_pos (by simp[Tok.is,q1])])
     (go_wp2_with fail;refine(ag _ pb tb ts1 ?_).mono ?_;(all_goals try exact P0.out);rintro e v5 ⟨⟨o3,l3,c3,rfl⟩,hp,hf⟩;(have xs9:=Fr.size hf;have T0:=hqZ (Fr.trans T1.out hf);clear T1;clear P0;have B1:=hqZ (Blk.next B2.out hf (by show ¬ _;omega));clear B2;obtain⟨xk0,xl4⟩:=Blk.k1 B1.out;have B2:=hqZ (Blk.next B0.out hf (by show ¬ _;omega));clear B0;obtain⟨xk1,xl5⟩:=Blk.k1 B2.out;have X1:=hqZ (Rep.carry X2.out (Fr.trans' Fr.r hf (fun k _ hs=>by omega)));clear X2;have X2:=hqZ (Acc.carry X0.out (Fr.trans' Fr.r hf (fun k _ hs=>by omega)));clear X0;have P0:=hqZ hp;clear hp;clear hf;clear xk2 xk3))
     go_wp2
     go_roundg n
     case measure=>omega
     case rel=>exact⟨_,_,E3.out,by exact P0.out,by exact T0.out,by exact Acc.mono (h:=X2.out) (hZ:=fun g _ hg=>by omega),by simp;omega⟩
    cases q2:((hd ts1).text.toList == m.toList)
    case true =>
     have E3:=hqZ (show ai (bG E m.toList) n (l ++ [y]) ts1=bk E m.toList ts from by rw[E2.out,if_neg (by simp[Tok.is,q1]),if_pos (by simp[Tok.is,q2])])
     go_wp2
     go_roundg n
     case measure=>omega
     case rel=>exact⟨_,_,E3.out,by exact P0.out,by exact T1.out,by exact Acc.mono (h:=X0.out) (hZ:=fun g _ hg=>by omega),by simp;omega⟩
    have E3:=hqZ (show bk E m.toList ts = .bad from by rw[E2.out,if_neg (by simp[Tok.is,q1]),if_neg (by simp[Tok.is,q2])])
    (go_wp2_with fail;refine(ay _ pb tb ts1 ?_).mono ?_;(all_goals try exact P0.out);rintro e v5 ⟨⟨o3,l3,c3,rfl⟩,hf⟩;(have xs9:=Fr.size hf;have T0:=hqZ (Fr.transN T1.out hf);clear T1;have P1:=hqZ (PSt.new (P0.out) hf);clear P0;have B1:=hqZ (Blk.next B2.out hf id);clear B2;obtain⟨xk0,xl4⟩:=Blk.k1 B1.out;have B2:=hqZ (Blk.next B0.out hf id);clear B0;obtain⟨xk1,xl5⟩:=Blk.k1 B2.out;have X1:=hqZ (Rep.carry X2.out (Fr.transN Fr.r hf));clear X2;have X2:=hqZ (Acc.carry X0.out (Fr.transN Fr.r hf));clear X0;clear hf;clear xk2 xk3))
    (go_wp2_with fail;refine(ax _ pb tb ts1 _ _ ?_).mono ?_;(all_goals try exact PSt.over (w0:=w) P1.out (Fr.r.alloc _) ltp ltt);rintro e v6 ⟨⟨t,u,rfl⟩,hf⟩;(have xs11:=Fr.size hf;simp only[aa,ae,ad,af]at xs11;have T1:=hqZ (Fr.transN (T0.out.alloc _) hf);clear T0;have P0:=hqZ (PSt.new (PSt.over (w0:=w) P1.out (Fr.r.alloc _) ltp ltt) hf);clear P1;have B0:=hqZ (Blk.next (B1.out.alloc _) hf id);clear B1;obtain⟨xk2,xl6⟩:=Blk.k1 B0.out;have B1:=hqZ (Blk.next (B2.out.alloc _) hf id);clear B2;obtain⟨xk3,xl7⟩:=Blk.k1 B1.out;have B2:=hqZ (Blk.next (Blk.at_ _ _ _ (n:=v5.heap.size) rfl) hf id);obtain⟨xk4,xl8⟩:=Blk.k1 B2.out;have X0:=hqZ (Rep.carry X1.out (Fr.transN (Fr.r.alloc _) hf));clear X1;have X1:=hqZ (Acc.carry X2.out (Fr.transN (Fr.r.alloc _) hf));clear X2;clear hf;clear xk0 xk1))
    go_wp2
    go_ret2
    rw[E3.out]
    exact⟨_,t,u,rfl,by exact T1.out⟩
theorem gR(E:List Tok->PR Ex)(hE:Does 135 E)(w:World)(pb tb:Nat)(ts:List Tok)(m:List UInt8)(h:PSt w pb tb ts)(hne:bk E m ts ≠ .out) :
  Calls Tryz.prog 232 #[.pointer (some ⟨pb,0,none⟩),.string ⟨m.toArray⟩] w (GotL pb tb w (bk E m ts)):=by
 have:=oW E hE w pb tb ts ⟨m.toArray⟩ h (by rwa [ByteArray.toList_mk m])
 rwa [ByteArray.toList_mk m]at this
end Go.Proofs.YtbdhlpeckennjaaGreatDoor
