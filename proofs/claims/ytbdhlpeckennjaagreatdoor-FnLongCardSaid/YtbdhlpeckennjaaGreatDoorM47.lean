/- FnLong (the proof that the law returns true for every input), part 47 of 52; the last part says what is proved, and its condition. -/
import Derived.Test.YtbdhlpeckennjaaGreatDoorRows
import Derived.ProofKit
import Derived.OpenShut
import Derived.LaidMore
import Derived.Lay
import Derived.Stop.LaidErr
import Derived.Lib.LaidU8T
import Derived.PinnedBridge
import Derived.Test.YtbdhlpeckennjaaGreatDoorM26
set_option linter.unusedVariables false
set_option linter.unusedSimpArgs false
set_option maxHeartbeats 80000000
set_option maxRecDepth 1000000
namespace Go.Proofs.YtbdhlpeckennjaaGreatDoor
open Go Go.ChangeShapes Go.WideShapes Go.ChangeAt Go.RowKit
theorem own:ownKnob Tryz.prog.godebug=none:=by kernel_rfl
theorem rI:Rows.laid_unicode_utf8_first=Lib.firstData:=Pinned.utf8First_eq
theorem qT:(Rows.laid_unicode_utf8_acceptRanges:DataW Unit)=Lib.acceptData:=by kernel_rfl
theorem heap15{w:World}(h:w.ShapedOpen Tryz.prog):15<=w.heap.size:=by
 have hg:(14:Nat) < Tryz.prog.globals.size:=of_decide_eq_true (by kernel_rfl)
 have hz:(((begin Tryz.prog (fun _ _=>0) default).world.heap[14]?).bind Obj.row?).isSome=true:=by kernel_rfl
 obtain⟨⟨z,t⟩,hz⟩:=Option.isSome_iff_exists.1 hz
 obtain⟨cs,hc,_⟩:=h.1 14 z t hg hz
 have:=(Array.getElem?_eq_some_iff.1 hc).1
 omega
theorem starE:("*" ++ "errors.errorString") = "*errors.errorString" := by rfl
noncomputable def rowA(u:Nat):Bool:=Tryz.prog.typeName? 3 u != some ("*" ++ "errors.errorString") || u == 314
noncomputable def rowB(e:Nat):Bool:=Tryz.prog.typeName? 2 e != some "errors.errorString" ||(match (Tryz.prog.info? e).map (·.desc)with|some (TypeDesc.named _ _)=>true|_=>false)
theorem rowA0:((List.range 40).all fun k=>rowA (k+0))=true:=by kernel_rfl
theorem rowB0:((List.range 40).all fun k=>rowB (k+0))=true:=by kernel_rfl
theorem rowA1:((List.range 40).all fun k=>rowA (k+40))=true:=by kernel_rfl
theorem rowB1:((List.range 40).all fun k=>rowB (k+40))=true:=by kernel_rfl
theorem rowA2:((List.range 40).all fun k=>rowA (k+80))=true:=by kernel_rfl
theorem rowB2:((List.range 40).all fun k=>rowB (k+80))=true:=by kernel_rfl
theorem rowA3:((List.range 40).all fun k=>rowA (k+120))=true:=by kernel_rfl
theorem rowB3:((List.range 40).all fun k=>rowB (k+120))=true:=by kernel_rfl
theorem rowA4:((List.range 40).all fun k=>rowA (k+160))=true:=by kernel_rfl
theorem rowB4:((List.range 40).all fun k=>rowB (k+160))=true:=by kernel_rfl
theorem rowA5:((List.range 40).all fun k=>rowA (k+200))=true:=by kernel_rfl
theorem rowB5:((List.range 40).all fun k=>rowB (k+200))=true:=by kernel_rfl
theorem rowA6:((List.range 40).all fun k=>rowA (k+240))=true:=by kernel_rfl
theorem rowB6:((List.range 40).all fun k=>rowB (k+240))=true:=by kernel_rfl
theorem rowA7:((List.range 40).all fun k=>rowA (k+280))=true:=by kernel_rfl
theorem rowB7:((List.range 40).all fun k=>rowB (k+280))=true:=by kernel_rfl
theorem rowA8:((List.range 40).all fun k=>rowA (k+320))=true:=by kernel_rfl
theorem rowB8:((List.range 40).all fun k=>rowB (k+320))=true:=by kernel_rfl
theorem rowA9:((List.range 40).all fun k=>rowA (k+360))=true:=by kernel_rfl
theorem rowB9:((List.range 40).all fun k=>rowB (k+360))=true:=by kernel_rfl
theorem rowA10:((List.range 40).all fun k=>rowA (k+400))=true:=by kernel_rfl
theorem rowB10:((List.range 40).all fun k=>rowB (k+400))=true:=by kernel_rfl
theorem bg{f:Nat->Bool}{k u:Nat}(h:((List.range 40).all fun j=>f (j+k))=true)(h1:k<=u)(h2:u < k+40):f u=true:=by
 have:=List.all_eq_true.1 h (u - k) (List.mem_range.2 (by omega))
 rwa [Nat.sub_add_cancel h1]at this
theorem qV:Tryz.prog.types.size=434:=by kernel_rfl
theorem qZ(u:Nat)(h:u < 434):rowA u=true:=by
 by_cases h0:u < 40
 .exact bg rowA0 (by omega) (by omega)
 by_cases h1:u < 80
 .exact bg rowA1 (by omega) (by omega)
 by_cases h2:u < 120
 .exact bg rowA2 (by omega) (by omega)
 by_cases h3:u < 160
 .exact bg rowA3 (by omega) (by omega)
 by_cases h4:u < 200
 .exact bg rowA4 (by omega) (by omega)
 by_cases h5:u < 240
 .exact bg rowA5 (by omega) (by omega)
 by_cases h6:u < 280
 .exact bg rowA6 (by omega) (by omega)
 by_cases h7:u < 320
 .exact bg rowA7 (by omega) (by omega)
 by_cases h8:u < 360
 .exact bg rowA8 (by omega) (by omega)
 by_cases h9:u < 400
 .exact bg rowA9 (by omega) (by omega)
 exact bg rowA10 (by omega) (by omega)
theorem qY(u:Nat)(h:u < 434):rowB u=true:=by
 by_cases h0:u < 40
 .exact bg rowB0 (by omega) (by omega)
 by_cases h1:u < 80
 .exact bg rowB1 (by omega) (by omega)
 by_cases h2:u < 120
 .exact bg rowB2 (by omega) (by omega)
 by_cases h3:u < 160
 .exact bg rowB3 (by omega) (by omega)
 by_cases h4:u < 200
 .exact bg rowB4 (by omega) (by omega)
 by_cases h5:u < 240
 .exact bg rowB5 (by omega) (by omega)
 by_cases h6:u < 280
 .exact bg rowB6 (by omega) (by omega)
 by_cases h7:u < 320
 .exact bg rowB7 (by omega) (by omega)
 by_cases h8:u < 360
 .exact bg rowB8 (by omega) (by omega)
 by_cases h9:u < 400
 .exact bg rowB9 (by omega) (by omega)
 exact bg rowB10 (by omega) (by omega)
theorem rowE(u:TypeId)(h:Tryz.prog.typeName? 3 u=some "*errors.errorString"):u=314 :=
 typeName_ptr_named (nm := "errors.errorString") (List.all_eq_true.2 fun u hu=>qZ u (by have:=List.mem_range.1 hu;rw[qV]at this;exact this)) (List.all_eq_true.2 fun u hu=>qY u (by have:=List.mem_range.1 hu;rw[qV]at this;exact this)) (by decide) u (by rw[starE];exact h)
theorem sent{n:String}{text:List UInt8}{r:List (String × DataW Unit)}{W:World}{g:Nat}(h:laidMet Tryz.prog ((n,.iface "*errors.errorString" (.ptr (.agg [.lit (.string text)])))::r) W)(hg:Tryz.prog.globalNamed n=some g)(ht:(Tryz.prog.globals[g]?).map (·.type)=some 82) :
  ∃ a,W.cell? ⟨g,0,none⟩=some (.iface 314 (.pointer (some a))):=by
 obtain⟨a,s,hv,_⟩:=laid_sentinel (g:=g) h hg ht Tryz.underlying82 rowE Tryz.underlying314 Tryz.underlying316 rfl rfl Tryz.underlying9 (by kernel_rfl) (by kernel_rfl)
 have:=World.var?_cell hg hv 0
 exact⟨a,by simpa using this⟩
def u8ren:Shelf.Ren:={ f:=fun n=>n,t:=fun n=>if n=5 then 5 else if n=119 then 220 else if n=138 then 222 else 223,g:=fun n=>if n=3 then 0 else 1 }
theorem glob_of{W:World}(h:laidMet Tryz.prog Rows.fnLongRow.laid W):Glob W/\EofV W:=by
 have hF:Lib.VarReads Tryz.prog W "unicode/utf8.first" Lib.firstData:=rI ▸ Lib.laidMet.reads h (by simp[Rows.fnLongRow])
 have hA:Lib.VarReads Tryz.prog W "unicode/utf8.acceptRanges" Lib.acceptData:=qT ▸ Lib.laidMet.reads h (by simp[Rows.fnLongRow])
 have h5:=h.tail.tail.tail.tail.tail
 obtain⟨a1,c1⟩:=sent (g:=6) h5 (by kernel_rfl) (by kernel_rfl)
 obtain⟨a2,c2⟩:=sent (g:=5) h5.tail (by kernel_rfl) (by kernel_rfl)
 obtain⟨a3,c3⟩:=sent (g:=2) h5.tail.tail (by kernel_rfl) (by kernel_rfl)
 exact⟨⟨utf8Tabs_of_readsT (P:=Tryz.prog) (ρ:=u8ren) ⟨by kernel_rfl,by kernel_rfl,by kernel_rfl,by kernel_rfl⟩ ⟨by kernel_rfl,by kernel_rfl,by kernel_rfl,by kernel_rfl,by kernel_rfl,by kernel_rfl,by kernel_rfl⟩ hF hA,⟨_,c2,.inr ⟨_,_,rfl⟩⟩,⟨_,c1,.inr ⟨_,_,rfl⟩⟩⟩,a3,c3⟩
theorem gI{os:Os}{f:FuncId}{fn:Func}{s:ChangeSpec}{X:World->Array Value->Prop}{H:Type}{enc:TypeId × Value->H}
  (hX:∀ (w w':World) (args:Array Value),w.heap=w'.heap->X w args->X w' args) (started:os.Started) (noInit:Tryz.checked.prog.inits.idxOf? f=none) (hfn:Tryz.checked.prog.funcs[f]? = some fn)
  (witness:∃ (w:World) (tape:Tape) (i:Input),w.os=os/\(w.forCall tape i).Shaped Tryz.checked.prog/\i.vars = []/\Input.okWide Tryz.checked.prog (w.forCall tape i) .any w.heap.size f i /\
   ((s.pre enc Tryz.checked.prog fn [] false (w.forCall tape i).memory i.args/\X (w.forCall tape i).memory i.args)/\sizedMet enc Tryz.checked.prog fn (OpenSpec.ofChange s) false (w.forCall tape i).memory i.args)/\({}:Assume).holds Tryz.checked.prog (lone (Frame.enter Tryz.checked.prog f i.args .normal) [] (w.forCall tape i)))
  (contract:∀ (W:World) (base:Nat) (args:Array Value) (ds gs:List (DataW H)) (before:List MemPlace),15<=W.heap.size ->
   (∀ (j:Nat) t v,fn.params[j]? = some t->args[j]? = some v->Value.okWide Tryz.checked.prog W .any base t v)->DataW.Whole enc Tryz.checked.prog fn.params.toList s.vars false W args.toList ds gs before->X W args ->
   Calls Tryz.checked.prog f args W fun e W'=>∃ v,e = .returned v/\s.post enc Tryz.checked.prog fn false true false false W args v W') :
  ReturnsInHanded {} Tryz.checked os f .any (fun w args=>(s.pre enc Tryz.checked.prog fn [] false w args/\X w args)/\sizedMet enc Tryz.checked.prog fn (OpenSpec.ofChange s) false w args) (s.post enc Tryz.checked.prog fn false true false false):=by
 refine returnsInHanded_of_calls own started noInit witness ?_
 intro w tape i _ hsh _ hok hpre hholds
 obtain⟨_,_,_,fn',hfn',_,_,_,_,hval⟩:=hok
 have e:fn'=fn:=Option.some.inj (hfn'.symm.trans hfn)
 subst e
 obtain⟨⟨⟨ds,gs,before,hw,hc⟩,hx⟩,hz⟩:=hpre
 have hw':=DataW.Whole.of_heap (w':=w.forCall tape i) (by rfl) hw
 refine(contract (w.forCall tape i) w.heap.size i.args ds gs before (heap15 hsh) hval hw' (hX _ _ _ (by rfl) hx)).mono fun e W' ⟨v,he,hp⟩=>?_
 subst he
 exact ChangeSpec.post_blind hp
end Go.Proofs.YtbdhlpeckennjaaGreatDoor
