/- FnLong (the proof that the law returns true for every input), part 3 of 52; the last part says what is proved, and its condition. -/
import Derived.Deep.LoopGhost
import Derived.Test.YtbdhlpeckennjaaGreatDoorM02
set_option linter.unusedVariables false
set_option linter.unusedSimpArgs false
set_option maxHeartbeats 80000000
set_option maxRecDepth 1000000
namespace Go.Proofs.YtbdhlpeckennjaaGreatDoor
open Go Go.RowKit
theorem New.box{W w1:World}{t:TypeId}{v:Value}(h:New (W.alloc (.cells #[v] t)) w1):Box w1 W.heap.size t v :=
 (h.block _ (by simp) fun e=>e).trans (heap_alloc_new W _)
theorem al(w:World)(t:TypeId)(u:Value) :
  Calls Tryz.prog 167 #[.iface t u] w fun e w'=>e = .returned (.agg #[.iface t u])/\New w w':=by
 go_enter Tryz.func167,Tryz.ntmps167
 go_wp2
 refine bodyPost_ret (v:=.agg #[.iface t u]) (by simp only[results,Tryz.results167];go_simp) rfl ⟨rfl,?_⟩
 repeat' (with_reducible(first|exact Fr.refl _ _|apply Fr.drew|apply Fr.alloc|apply Fr.set))
theorem qQ(w:World)(t:TypeId)(u:Value)(t2:TypeId)(u2:Value) :
  Calls Tryz.prog 169 #[.agg #[.iface t u],.agg #[.iface t2 u2]] w fun e w'=>e = .returned (.agg #[.iface 258 (.agg #[.iface t u,.iface t2 u2])])/\New w w':=by
 go_enter Tryz.func169,Tryz.ntmps169
 go_wp2_with fail
 refine(al _ _ _).mono ?_
 rintro e w1 ⟨rfl,hf⟩
 have T:=hqZ hf
 have hb:=New.box hf
 try simp only[World.size_alloc]at hb
 have B0:=hqZ hb
 have c0:=hb.cell
 have f0:=hb.free
 have l0:=hb.lt
 clear hf hb
 go_wp2
 refine bodyPost_ret (v:=.agg #[.iface 258 (.agg #[.iface t u,.iface t2 u2])]) (by simp only[results,Tryz.results169];go_simp) rfl ⟨rfl,?_⟩
 refine Fr.set (Fr.trans ?_ T.out) (.inr (by omega))
 repeat' (with_reducible(first|exact Fr.refl _ _|apply Fr.drew|apply Fr.alloc|apply Fr.set))
theorem jM(w:World)(t:TypeId)(u:Value)(t2:TypeId)(u2:Value) :
  Calls Tryz.prog 179 #[.agg #[.iface t u],.agg #[.iface t2 u2]] w fun e w'=>e = .returned (.agg #[.iface 260 (.agg #[.iface t u,.iface t2 u2])])/\New w w':=by
 go_enter Tryz.func179,Tryz.ntmps179
 go_wp2_with fail
 refine(al _ _ _).mono ?_
 rintro e w1 ⟨rfl,hf⟩
 have T:=hqZ hf
 have hb:=New.box hf
 try simp only[World.size_alloc]at hb
 have B0:=hqZ hb
 have c0:=hb.cell
 have f0:=hb.free
 have l0:=hb.lt
 clear hf hb
 go_wp2
 refine bodyPost_ret (v:=.agg #[.iface 260 (.agg #[.iface t u,.iface t2 u2])]) (by simp only[results,Tryz.results179];go_simp) rfl ⟨rfl,?_⟩
 refine Fr.set (Fr.trans ?_ T.out) (.inr (by omega))
 repeat' (with_reducible(first|exact Fr.refl _ _|apply Fr.drew|apply Fr.alloc|apply Fr.set))
theorem iC(w:World)(t:TypeId)(u:Value)(t2:TypeId)(u2:Value) :
  Calls Tryz.prog 188 #[.agg #[.iface t u],.agg #[.iface t2 u2]] w fun e w'=>e = .returned (.agg #[.iface 261 (.agg #[.iface t u,.iface t2 u2])])/\New w w':=by
 go_enter Tryz.func188,Tryz.ntmps188
 go_wp2_with fail
 refine(al _ _ _).mono ?_
 rintro e w1 ⟨rfl,hf⟩
 have T:=hqZ hf
 have hb:=New.box hf
 try simp only[World.size_alloc]at hb
 have B0:=hqZ hb
 have c0:=hb.cell
 have f0:=hb.free
 have l0:=hb.lt
 clear hf hb
 go_wp2
 refine bodyPost_ret (v:=.agg #[.iface 261 (.agg #[.iface t u,.iface t2 u2])]) (by simp only[results,Tryz.results188];go_simp) rfl ⟨rfl,?_⟩
 refine Fr.set (Fr.trans ?_ T.out) (.inr (by omega))
 repeat' (with_reducible(first|exact Fr.refl _ _|apply Fr.drew|apply Fr.alloc|apply Fr.set))
theorem eI(w:World)(t:TypeId)(u:Value)(t2:TypeId)(u2:Value) :
  Calls Tryz.prog 189 #[.agg #[.iface t u],.agg #[.iface t2 u2]] w fun e w'=>e = .returned (.agg #[.iface 262 (.agg #[.iface t u,.iface t2 u2])])/\New w w':=by
 go_enter Tryz.func189,Tryz.ntmps189
 go_wp2_with fail
 refine(al _ _ _).mono ?_
 rintro e w1 ⟨rfl,hf⟩
 have T:=hqZ hf
 have hb:=New.box hf
 try simp only[World.size_alloc]at hb
 have B0:=hqZ hb
 have c0:=hb.cell
 have f0:=hb.free
 have l0:=hb.lt
 clear hf hb
 go_wp2
 refine bodyPost_ret (v:=.agg #[.iface 262 (.agg #[.iface t u,.iface t2 u2])]) (by simp only[results,Tryz.results189];go_simp) rfl ⟨rfl,?_⟩
 refine Fr.set (Fr.trans ?_ T.out) (.inr (by omega))
 repeat' (with_reducible(first|exact Fr.refl _ _|apply Fr.drew|apply Fr.alloc|apply Fr.set))
theorem ga(w:World)(t:TypeId)(u:Value)(t2:TypeId)(u2:Value) :
  Calls Tryz.prog 190 #[.agg #[.iface t u],.agg #[.iface t2 u2]] w fun e w'=>e = .returned (.agg #[.iface 263 (.agg #[.iface t u,.iface t2 u2])])/\New w w':=by
 go_enter Tryz.func190,Tryz.ntmps190
 go_wp2_with fail
 refine(al _ _ _).mono ?_
 rintro e w1 ⟨rfl,hf⟩
 have T:=hqZ hf
 have hb:=New.box hf
 try simp only[World.size_alloc]at hb
 have B0:=hqZ hb
 have c0:=hb.cell
 have f0:=hb.free
 have l0:=hb.lt
 clear hf hb
 go_wp2
 refine bodyPost_ret (v:=.agg #[.iface 263 (.agg #[.iface t u,.iface t2 u2])]) (by simp only[results,Tryz.results190];go_simp) rfl ⟨rfl,?_⟩
 refine Fr.set (Fr.trans ?_ T.out) (.inr (by omega))
 repeat' (with_reducible(first|exact Fr.refl _ _|apply Fr.drew|apply Fr.alloc|apply Fr.set))
theorem dL(w:World)(t:TypeId)(u:Value)(t2:TypeId)(u2:Value) :
  Calls Tryz.prog 191 #[.agg #[.iface t u],.agg #[.iface t2 u2]] w fun e w'=>e = .returned (.agg #[.iface 264 (.agg #[.iface t u,.iface t2 u2])])/\New w w':=by
 go_enter Tryz.func191,Tryz.ntmps191
 go_wp2_with fail
 refine(al _ _ _).mono ?_
 rintro e w1 ⟨rfl,hf⟩
 have T:=hqZ hf
 have hb:=New.box hf
 try simp only[World.size_alloc]at hb
 have B0:=hqZ hb
 have c0:=hb.cell
 have f0:=hb.free
 have l0:=hb.lt
 clear hf hb
 go_wp2
 refine bodyPost_ret (v:=.agg #[.iface 264 (.agg #[.iface t u,.iface t2 u2])]) (by simp only[results,Tryz.results191];go_simp) rfl ⟨rfl,?_⟩
 refine Fr.set (Fr.trans ?_ T.out) (.inr (by omega))
 repeat' (with_reducible(first|exact Fr.refl _ _|apply Fr.drew|apply Fr.alloc|apply Fr.set))
theorem iA(w:World)(t:TypeId)(u:Value)(t2:TypeId)(u2:Value) :
  Calls Tryz.prog 192 #[.agg #[.iface t u],.agg #[.iface t2 u2]] w fun e w'=>e = .returned (.agg #[.iface 265 (.agg #[.iface t u,.iface t2 u2])])/\New w w':=by
 go_enter Tryz.func192,Tryz.ntmps192
 go_wp2_with fail
 refine(al _ _ _).mono ?_
 rintro e w1 ⟨rfl,hf⟩
 have T:=hqZ hf
 have hb:=New.box hf
 try simp only[World.size_alloc]at hb
 have B0:=hqZ hb
 have c0:=hb.cell
 have f0:=hb.free
 have l0:=hb.lt
 clear hf hb
 go_wp2
 refine bodyPost_ret (v:=.agg #[.iface 265 (.agg #[.iface t u,.iface t2 u2])]) (by simp only[results,Tryz.results192];go_simp) rfl ⟨rfl,?_⟩
 refine Fr.set (Fr.trans ?_ T.out) (.inr (by omega))
 repeat' (with_reducible(first|exact Fr.refl _ _|apply Fr.drew|apply Fr.alloc|apply Fr.set))
theorem lO(w:World)(t:TypeId)(u:Value)(t2:TypeId)(u2:Value) :
  Calls Tryz.prog 193 #[.agg #[.iface t u],.agg #[.iface t2 u2]] w fun e w'=>e = .returned (.agg #[.iface 266 (.agg #[.iface t u,.iface t2 u2])])/\New w w':=by
 go_enter Tryz.func193,Tryz.ntmps193
 go_wp2_with fail
 refine(al _ _ _).mono ?_
 rintro e w1 ⟨rfl,hf⟩
 have T:=hqZ hf
 have hb:=New.box hf
 try simp only[World.size_alloc]at hb
 have B0:=hqZ hb
 have c0:=hb.cell
 have f0:=hb.free
 have l0:=hb.lt
 clear hf hb
 go_wp2
 refine bodyPost_ret (v:=.agg #[.iface 266 (.agg #[.iface t u,.iface t2 u2])]) (by simp only[results,Tryz.results193];go_simp) rfl ⟨rfl,?_⟩
 refine Fr.set (Fr.trans ?_ T.out) (.inr (by omega))
 repeat' (with_reducible(first|exact Fr.refl _ _|apply Fr.drew|apply Fr.alloc|apply Fr.set))
theorem qS(w:World)(t:TypeId)(u:Value)(t2:TypeId)(u2:Value) :
  Calls Tryz.prog 194 #[.agg #[.iface t u],.agg #[.iface t2 u2]] w fun e w'=>e = .returned (.agg #[.iface 267 (.agg #[.iface t u,.iface t2 u2])])/\New w w':=by
 go_enter Tryz.func194,Tryz.ntmps194
 go_wp2_with fail
 refine(al _ _ _).mono ?_
 rintro e w1 ⟨rfl,hf⟩
 have T:=hqZ hf
 have hb:=New.box hf
 try simp only[World.size_alloc]at hb
 have B0:=hqZ hb
 have c0:=hb.cell
 have f0:=hb.free
 have l0:=hb.lt
 clear hf hb
 go_wp2
 refine bodyPost_ret (v:=.agg #[.iface 267 (.agg #[.iface t u,.iface t2 u2])]) (by simp only[results,Tryz.results194];go_simp) rfl ⟨rfl,?_⟩
 refine Fr.set (Fr.trans ?_ T.out) (.inr (by omega))
 repeat' (with_reducible(first|exact Fr.refl _ _|apply Fr.drew|apply Fr.alloc|apply Fr.set))
theorem pg(w:World)(t:TypeId)(u:Value)(t2:TypeId)(u2:Value) :
  Calls Tryz.prog 196 #[.agg #[.iface t u],.agg #[.iface t2 u2]] w fun e w'=>e = .returned (.agg #[.iface 274 (.agg #[.iface t u,.iface t2 u2])])/\New w w':=by
 go_enter Tryz.func196,Tryz.ntmps196
 go_wp2_with fail
 refine(al _ _ _).mono ?_
 rintro e w1 ⟨rfl,hf⟩
 have T:=hqZ hf
 have hb:=New.box hf
 try simp only[World.size_alloc]at hb
 have B0:=hqZ hb
 have c0:=hb.cell
 have f0:=hb.free
 have l0:=hb.lt
 clear hf hb
 go_wp2
 refine bodyPost_ret (v:=.agg #[.iface 274 (.agg #[.iface t u,.iface t2 u2])]) (by simp only[results,Tryz.results196];go_simp) rfl ⟨rfl,?_⟩
 refine Fr.set (Fr.trans ?_ T.out) (.inr (by omega))
 repeat' (with_reducible(first|exact Fr.refl _ _|apply Fr.drew|apply Fr.alloc|apply Fr.set))
theorem iy(w:World)(t:TypeId)(u:Value)(t2:TypeId)(u2:Value) :
  Calls Tryz.prog 197 #[.agg #[.iface t u],.agg #[.iface t2 u2]] w fun e w'=>e = .returned (.agg #[.iface 273 (.agg #[.iface t u,.iface t2 u2])])/\New w w':=by
 go_enter Tryz.func197,Tryz.ntmps197
 go_wp2_with fail
 refine(al _ _ _).mono ?_
 rintro e w1 ⟨rfl,hf⟩
 have T:=hqZ hf
 have hb:=New.box hf
 try simp only[World.size_alloc]at hb
 have B0:=hqZ hb
 have c0:=hb.cell
 have f0:=hb.free
 have l0:=hb.lt
 clear hf hb
 go_wp2
 refine bodyPost_ret (v:=.agg #[.iface 273 (.agg #[.iface t u,.iface t2 u2])]) (by simp only[results,Tryz.results197];go_simp) rfl ⟨rfl,?_⟩
 refine Fr.set (Fr.trans ?_ T.out) (.inr (by omega))
 repeat' (with_reducible(first|exact Fr.refl _ _|apply Fr.drew|apply Fr.alloc|apply Fr.set))
theorem iB(w:World)(t:TypeId)(u:Value)(t2:TypeId)(u2:Value) :
  Calls Tryz.prog 205 #[.agg #[.iface t u],.agg #[.iface t2 u2]] w fun e w'=>e = .returned (.agg #[.iface 275 (.agg #[.iface t u,.iface t2 u2])])/\New w w':=by
 go_enter Tryz.func205,Tryz.ntmps205
 go_wp2_with fail
 refine(al _ _ _).mono ?_
 rintro e w1 ⟨rfl,hf⟩
 have T:=hqZ hf
 have hb:=New.box hf
 try simp only[World.size_alloc]at hb
 have B0:=hqZ hb
 have c0:=hb.cell
 have f0:=hb.free
 have l0:=hb.lt
 clear hf hb
 go_wp2
 refine bodyPost_ret (v:=.agg #[.iface 275 (.agg #[.iface t u,.iface t2 u2])]) (by simp only[results,Tryz.results205];go_simp) rfl ⟨rfl,?_⟩
 refine Fr.set (Fr.trans ?_ T.out) (.inr (by omega))
 repeat' (with_reducible(first|exact Fr.refl _ _|apply Fr.drew|apply Fr.alloc|apply Fr.set))
theorem iE(w:World)(t:TypeId)(u:Value)(t2:TypeId)(u2:Value) :
  Calls Tryz.prog 236 #[.agg #[.iface t u],.agg #[.iface t2 u2]] w fun e w'=>e = .returned (.agg #[.iface 276 (.agg #[.iface t u,.iface t2 u2])])/\New w w':=by
 go_enter Tryz.func236,Tryz.ntmps236
 go_wp2_with fail
 refine(al _ _ _).mono ?_
 rintro e w1 ⟨rfl,hf⟩
 have T:=hqZ hf
 have hb:=New.box hf
 try simp only[World.size_alloc]at hb
 have B0:=hqZ hb
 have c0:=hb.cell
 have f0:=hb.free
 have l0:=hb.lt
 clear hf hb
 go_wp2
 refine bodyPost_ret (v:=.agg #[.iface 276 (.agg #[.iface t u,.iface t2 u2])]) (by simp only[results,Tryz.results236];go_simp) rfl ⟨rfl,?_⟩
 refine Fr.set (Fr.trans ?_ T.out) (.inr (by omega))
 repeat' (with_reducible(first|exact Fr.refl _ _|apply Fr.drew|apply Fr.alloc|apply Fr.set))
theorem gc(w:World)(t:TypeId)(u:Value)(t2:TypeId)(u2:Value) :
  Calls Tryz.prog 237 #[.agg #[.iface t u],.agg #[.iface t2 u2]] w fun e w'=>e = .returned (.agg #[.iface 277 (.agg #[.iface t u,.iface t2 u2])])/\New w w':=by
 go_enter Tryz.func237,Tryz.ntmps237
 go_wp2_with fail
 refine(al _ _ _).mono ?_
 rintro e w1 ⟨rfl,hf⟩
 have T:=hqZ hf
 have hb:=New.box hf
 try simp only[World.size_alloc]at hb
 have B0:=hqZ hb
 have c0:=hb.cell
 have f0:=hb.free
 have l0:=hb.lt
 clear hf hb
 go_wp2
 refine bodyPost_ret (v:=.agg #[.iface 277 (.agg #[.iface t u,.iface t2 u2])]) (by simp only[results,Tryz.results237];go_simp) rfl ⟨rfl,?_⟩
 refine Fr.set (Fr.trans ?_ T.out) (.inr (by omega))
 repeat' (with_reducible(first|exact Fr.refl _ _|apply Fr.drew|apply Fr.alloc|apply Fr.set))
theorem gb(w:World)(t:TypeId)(u:Value)(t2:TypeId)(u2:Value) :
  Calls Tryz.prog 238 #[.agg #[.iface t u],.agg #[.iface t2 u2]] w fun e w'=>e = .returned (.agg #[.iface 278 (.agg #[.iface t u,.iface t2 u2])])/\New w w':=by
 go_enter Tryz.func238,Tryz.ntmps238
 go_wp2_with fail
 refine(al _ _ _).mono ?_
 rintro e w1 ⟨rfl,hf⟩
 have T:=hqZ hf
 have hb:=New.box hf
 try simp only[World.size_alloc]at hb
 have B0:=hqZ hb
 have c0:=hb.cell
 have f0:=hb.free
 have l0:=hb.lt
 clear hf hb
 go_wp2
 refine bodyPost_ret (v:=.agg #[.iface 278 (.agg #[.iface t u,.iface t2 u2])]) (by simp only[results,Tryz.results238];go_simp) rfl ⟨rfl,?_⟩
 refine Fr.set (Fr.trans ?_ T.out) (.inr (by omega))
 repeat' (with_reducible(first|exact Fr.refl _ _|apply Fr.drew|apply Fr.alloc|apply Fr.set))
theorem kj(w:World)(t:TypeId)(u:Value)(t2:TypeId)(u2:Value) :
  Calls Tryz.prog 239 #[.agg #[.iface t u],.agg #[.iface t2 u2]] w fun e w'=>e = .returned (.agg #[.iface 268 (.agg #[.iface t u,.iface t2 u2])])/\New w w':=by
 go_enter Tryz.func239,Tryz.ntmps239
 go_wp2_with fail
 refine(al _ _ _).mono ?_
 rintro e w1 ⟨rfl,hf⟩
 have T:=hqZ hf
 have hb:=New.box hf
 try simp only[World.size_alloc]at hb
 have B0:=hqZ hb
 have c0:=hb.cell
 have f0:=hb.free
 have l0:=hb.lt
 clear hf hb
 go_wp2
 refine bodyPost_ret (v:=.agg #[.iface 268 (.agg #[.iface t u,.iface t2 u2])]) (by simp only[results,Tryz.results239];go_simp) rfl ⟨rfl,?_⟩
 refine Fr.set (Fr.trans ?_ T.out) (.inr (by omega))
 repeat' (with_reducible(first|exact Fr.refl _ _|apply Fr.drew|apply Fr.alloc|apply Fr.set))
theorem kl(w:World)(t:TypeId)(u:Value)(t2:TypeId)(u2:Value) :
  Calls Tryz.prog 240 #[.agg #[.iface t u],.agg #[.iface t2 u2]] w fun e w'=>e = .returned (.agg #[.iface 269 (.agg #[.iface t u,.iface t2 u2])])/\New w w':=by
 go_enter Tryz.func240,Tryz.ntmps240
 go_wp2_with fail
 refine(al _ _ _).mono ?_
 rintro e w1 ⟨rfl,hf⟩
 have T:=hqZ hf
 have hb:=New.box hf
 try simp only[World.size_alloc]at hb
 have B0:=hqZ hb
 have c0:=hb.cell
 have f0:=hb.free
 have l0:=hb.lt
 clear hf hb
 go_wp2
 refine bodyPost_ret (v:=.agg #[.iface 269 (.agg #[.iface t u,.iface t2 u2])]) (by simp only[results,Tryz.results240];go_simp) rfl ⟨rfl,?_⟩
 refine Fr.set (Fr.trans ?_ T.out) (.inr (by omega))
 repeat' (with_reducible(first|exact Fr.refl _ _|apply Fr.drew|apply Fr.alloc|apply Fr.set))
theorem dY(w:World)(t:TypeId)(u:Value) :
  Calls Tryz.prog 211 #[.agg #[.iface t u]] w fun e w'=>e = .returned (.agg #[.iface 194 (.agg #[.iface t u])])/\New w w':=by
 go_enter Tryz.func211,Tryz.ntmps211
 go_wp2_with fail
 refine(al _ _ _).mono ?_
 rintro e w1 ⟨rfl,hf⟩
 have T:=hqZ hf
 have hb:=New.box hf
 try simp only[World.size_alloc]at hb
 have B0:=hqZ hb
 have c0:=hb.cell
 have f0:=hb.free
 have l0:=hb.lt
 clear hf hb
 go_wp2
 refine bodyPost_ret (v:=.agg #[.iface 194 (.agg #[.iface t u])]) (by simp only[results,Tryz.results211];go_simp) rfl ⟨rfl,?_⟩
 refine Fr.set (Fr.trans ?_ T.out) (.inr (by omega))
 repeat' (with_reducible(first|exact Fr.refl _ _|apply Fr.drew|apply Fr.alloc|apply Fr.set))
theorem fY(w:World)(t:TypeId)(u:Value) :
  Calls Tryz.prog 212 #[.agg #[.iface t u]] w fun e w'=>e = .returned (.agg #[.iface 195 (.agg #[.iface t u])])/\New w w':=by
 go_enter Tryz.func212,Tryz.ntmps212
 go_wp2_with fail
 refine(al _ _ _).mono ?_
 rintro e w1 ⟨rfl,hf⟩
 have T:=hqZ hf
 have hb:=New.box hf
 try simp only[World.size_alloc]at hb
 have B0:=hqZ hb
 have c0:=hb.cell
 have f0:=hb.free
 have l0:=hb.lt
 clear hf hb
 go_wp2
 refine bodyPost_ret (v:=.agg #[.iface 195 (.agg #[.iface t u])]) (by simp only[results,Tryz.results212];go_simp) rfl ⟨rfl,?_⟩
 refine Fr.set (Fr.trans ?_ T.out) (.inr (by omega))
 repeat' (with_reducible(first|exact Fr.refl _ _|apply Fr.drew|apply Fr.alloc|apply Fr.set))
theorem jK(w:World)(t:TypeId)(u:Value) :
  Calls Tryz.prog 242 #[.agg #[.iface t u]] w fun e w'=>e = .returned (.agg #[.iface 196 (.agg #[.iface t u])])/\New w w':=by
 go_enter Tryz.func242,Tryz.ntmps242
 go_wp2_with fail
 refine(al _ _ _).mono ?_
 rintro e w1 ⟨rfl,hf⟩
 have T:=hqZ hf
 have hb:=New.box hf
 try simp only[World.size_alloc]at hb
 have B0:=hqZ hb
 have c0:=hb.cell
 have f0:=hb.free
 have l0:=hb.lt
 clear hf hb
 go_wp2
 refine bodyPost_ret (v:=.agg #[.iface 196 (.agg #[.iface t u])]) (by simp only[results,Tryz.results242];go_simp) rfl ⟨rfl,?_⟩
 refine Fr.set (Fr.trans ?_ T.out) (.inr (by omega))
 repeat' (with_reducible(first|exact Fr.refl _ _|apply Fr.drew|apply Fr.alloc|apply Fr.set))
theorem gD(w:World)(t:TypeId)(u:Value)(t2:TypeId)(u2:Value)(t3:TypeId)(u3:Value) :
  Calls Tryz.prog 152 #[.agg #[.iface t u],.agg #[.iface t2 u2],.agg #[.iface t3 u3]] w fun e w'=>e = .returned (.agg #[.iface 174 (.agg #[.iface t u,.iface t2 u2,.iface t3 u3])])/\New w w':=by
 go_enter Tryz.func152,Tryz.ntmps152
 go_wp2_with fail
 refine(al _ _ _).mono ?_
 rintro e w1 ⟨rfl,hf⟩
 have T:=hqZ hf
 have hb:=New.box hf
 try simp only[World.size_alloc]at hb
 have B0:=hqZ hb
 have c0:=hb.cell
 have f0:=hb.free
 have l0:=hb.lt
 clear hf hb
 go_wp2
 refine bodyPost_ret (v:=.agg #[.iface 174 (.agg #[.iface t u,.iface t2 u2,.iface t3 u3])]) (by simp only[results,Tryz.results152];go_simp) rfl ⟨rfl,?_⟩
 refine Fr.set (Fr.trans ?_ T.out) (.inr (by omega))
 repeat' (with_reducible(first|exact Fr.refl _ _|apply Fr.drew|apply Fr.alloc|apply Fr.set))
theorem fZ(w:World)(t:TypeId)(u:Value)(s:ByteArray) :
  Calls Tryz.prog 198 #[.agg #[.iface t u],.string s] w fun e w'=>e = .returned (.agg #[.iface 179 (.agg #[.iface t u,.string s])])/\New w w':=by
 go_enter Tryz.func198,Tryz.ntmps198
 go_wp2_with fail
 refine(al _ _ _).mono ?_
 rintro e w1 ⟨rfl,hf⟩
 have T:=hqZ hf
 have hb:=New.box hf
 try simp only[World.size_alloc]at hb
 have B0:=hqZ hb
 have c0:=hb.cell
 have f0:=hb.free
 have l0:=hb.lt
 clear hf hb
 go_wp2
 refine bodyPost_ret (v:=.agg #[.iface 179 (.agg #[.iface t u,.string s])]) (by simp only[results,Tryz.results198];go_simp) rfl ⟨rfl,?_⟩
 refine Fr.set (Fr.trans ?_ T.out) (.inr (by omega))
 repeat' (with_reducible(first|exact Fr.refl _ _|apply Fr.drew|apply Fr.alloc|apply Fr.set))
theorem di(w:World)(t:TypeId)(u:Value)(s:ByteArray) :
  Calls Tryz.prog 199 #[.agg #[.iface t u],.string s] w fun e w'=>e = .returned (.agg #[.iface 180 (.agg #[.iface t u,.string s])])/\New w w':=by
 go_enter Tryz.func199,Tryz.ntmps199
 go_wp2_with fail
 refine(al _ _ _).mono ?_
 rintro e w1 ⟨rfl,hf⟩
 have T:=hqZ hf
 have hb:=New.box hf
 try simp only[World.size_alloc]at hb
 have B0:=hqZ hb
 have c0:=hb.cell
 have f0:=hb.free
 have l0:=hb.lt
 clear hf hb
 go_wp2
 refine bodyPost_ret (v:=.agg #[.iface 180 (.agg #[.iface t u,.string s])]) (by simp only[results,Tryz.results199];go_simp) rfl ⟨rfl,?_⟩
 refine Fr.set (Fr.trans ?_ T.out) (.inr (by omega))
 repeat' (with_reducible(first|exact Fr.refl _ _|apply Fr.drew|apply Fr.alloc|apply Fr.set))
theorem qR(w:World)(t:TypeId)(u:Value)(s:ByteArray) :
  Calls Tryz.prog 203 #[.agg #[.iface t u],.string s] w fun e w'=>e = .returned (.agg #[.iface 188 (.agg #[.iface t u,.string s])])/\New w w':=by
 go_enter Tryz.func203,Tryz.ntmps203
 go_wp2_with fail
 refine(al _ _ _).mono ?_
 rintro e w1 ⟨rfl,hf⟩
 have T:=hqZ hf
 have hb:=New.box hf
 try simp only[World.size_alloc]at hb
 have B0:=hqZ hb
 have c0:=hb.cell
 have f0:=hb.free
 have l0:=hb.lt
 clear hf hb
 go_wp2
 refine bodyPost_ret (v:=.agg #[.iface 188 (.agg #[.iface t u,.string s])]) (by simp only[results,Tryz.results203];go_simp) rfl ⟨rfl,?_⟩
 refine Fr.set (Fr.trans ?_ T.out) (.inr (by omega))
 repeat' (with_reducible(first|exact Fr.refl _ _|apply Fr.drew|apply Fr.alloc|apply Fr.set))
theorem nF(w:World)(t:TypeId)(u:Value)(s:ByteArray)(t2:TypeId)(u2:Value) :
  Calls Tryz.prog 202 #[.agg #[.iface t u],.string s,.agg #[.iface t2 u2]] w fun e w'=>e = .returned (.agg #[.iface 190 (.agg #[.iface t u,.string s,.iface t2 u2])])/\New w w':=by
 go_enter Tryz.func202,Tryz.ntmps202
 go_wp2_with fail
 refine(al _ _ _).mono ?_
 rintro e w1 ⟨rfl,hf⟩
 have T:=hqZ hf
 have hb:=New.box hf
 try simp only[World.size_alloc]at hb
 have B0:=hqZ hb
 have c0:=hb.cell
 have f0:=hb.free
 have l0:=hb.lt
 clear hf hb
 go_wp2
 refine bodyPost_ret (v:=.agg #[.iface 190 (.agg #[.iface t u,.string s,.iface t2 u2])]) (by simp only[results,Tryz.results202];go_simp) rfl ⟨rfl,?_⟩
 refine Fr.set (Fr.trans ?_ T.out) (.inr (by omega))
 repeat' (with_reducible(first|exact Fr.refl _ _|apply Fr.drew|apply Fr.alloc|apply Fr.set))
theorem nE(w:World)(t:TypeId)(u:Value)(a:Option Addr)(n c:Nat) :
  Calls Tryz.prog 201 #[.agg #[.iface t u],.agg #[.slice a n c]] w fun e w'=>e = .returned (.agg #[.iface 185 (.agg #[.iface t u,.slice a n c])])/\New w w':=by
 go_enter Tryz.func201,Tryz.ntmps201
 go_wp2_with fail
 refine(al _ _ _).mono ?_
 rintro e w1 ⟨rfl,hf⟩
 have T:=hqZ hf
 have hb:=New.box hf
 try simp only[World.size_alloc]at hb
 have B0:=hqZ hb
 have c0:=hb.cell
 have f0:=hb.free
 have l0:=hb.lt
 clear hf hb
 go_wp2
 refine bodyPost_ret (v:=.agg #[.iface 185 (.agg #[.iface t u,.slice a n c])]) (by simp only[results,Tryz.results201];go_simp) rfl ⟨rfl,?_⟩
 refine Fr.set (Fr.trans ?_ T.out) (.inr (by omega))
 repeat' (with_reducible(first|exact Fr.refl _ _|apply Fr.drew|apply Fr.alloc|apply Fr.set))
theorem du(w:World)(t:TypeId)(u:Value) :
  Calls Tryz.prog 215 #[.iface t u] w fun e w'=>e = .returned (.agg #[.iface 168 (.agg #[.iface t u])])/\New w w':=by
 go_enter Tryz.func215,Tryz.ntmps215
 go_wp2_with fail
 refine(al _ _ _).mono ?_
 rintro e w1 ⟨rfl,hf⟩
 have T:=hqZ hf
 have hb:=New.box hf
 try simp only[World.size_alloc]at hb
 have B0:=hqZ hb
 have c0:=hb.cell
 have f0:=hb.free
 have l0:=hb.lt
 clear hf hb
 go_wp2
 refine bodyPost_ret (v:=.agg #[.iface 168 (.agg #[.iface t u])]) (by simp only[results,Tryz.results215];go_simp) rfl ⟨rfl,?_⟩
 refine Fr.set (Fr.trans ?_ T.out) (.inr (by omega))
 repeat' (with_reducible(first|exact Fr.refl _ _|apply Fr.drew|apply Fr.alloc|apply Fr.set))
theorem ie(w:World)(n:Int) :
  Calls Tryz.prog 209 #[.int .i64 n] w fun e w'=>e = .returned (.agg #[.iface 168 (.agg #[.iface 251 (.int .i64 n)])])/\New w w':=by
 go_enter Tryz.func209,Tryz.ntmps209
 go_wp2_with fail
 refine(du _ _ _).mono ?_
 rintro e w1 ⟨rfl,hf⟩
 have T:=hqZ hf
 have hb:=New.box hf
 try simp only[World.size_alloc]at hb
 have B0:=hqZ hb
 have c0:=hb.cell
 have f0:=hb.free
 have l0:=hb.lt
 clear hf hb
 go_wp2
 refine bodyPost_ret (v:=.agg #[.iface 168 (.agg #[.iface 251 (.int .i64 n)])]) (by simp only[results,Tryz.results209];go_simp) rfl ⟨rfl,?_⟩
 refine Fr.set (Fr.trans ?_ T.out) (.inr (by omega))
 repeat' (with_reducible(first|exact Fr.refl _ _|apply Fr.drew|apply Fr.alloc|apply Fr.set))
theorem ki(w:World)(s:ByteArray) :
  Calls Tryz.prog 224 #[.string s] w fun e w'=>e = .returned (.agg #[.iface 168 (.agg #[.iface 123 (.string s)])])/\New w w':=by
 go_enter Tryz.func224,Tryz.ntmps224
 go_wp2_with fail
 refine(du _ _ _).mono ?_
 rintro e w1 ⟨rfl,hf⟩
 have T:=hqZ hf
 have hb:=New.box hf
 try simp only[World.size_alloc]at hb
 have B0:=hqZ hb
 have c0:=hb.cell
 have f0:=hb.free
 have l0:=hb.lt
 clear hf hb
 go_wp2
 refine bodyPost_ret (v:=.agg #[.iface 168 (.agg #[.iface 123 (.string s)])]) (by simp only[results,Tryz.results224];go_simp) rfl ⟨rfl,?_⟩
 refine Fr.set (Fr.trans ?_ T.out) (.inr (by omega))
 repeat' (with_reducible(first|exact Fr.refl _ _|apply Fr.drew|apply Fr.alloc|apply Fr.set))
theorem fh(w:World)(b:Bool) :
  Calls Tryz.prog 249 #[.bool b] w fun e w'=>e = .returned (.agg #[.iface 168 (.agg #[.iface 250 (.bool b)])])/\New w w':=by
 go_enter Tryz.func249,Tryz.ntmps249
 go_wp2_with fail
 refine(du _ _ _).mono ?_
 rintro e w1 ⟨rfl,hf⟩
 have T:=hqZ hf
 have hb:=New.box hf
 try simp only[World.size_alloc]at hb
 have B0:=hqZ hb
 have c0:=hb.cell
 have f0:=hb.free
 have l0:=hb.lt
 clear hf hb
 go_wp2
 refine bodyPost_ret (v:=.agg #[.iface 168 (.agg #[.iface 250 (.bool b)])]) (by simp only[results,Tryz.results249];go_simp) rfl ⟨rfl,?_⟩
 refine Fr.set (Fr.trans ?_ T.out) (.inr (by omega))
 repeat' (with_reducible(first|exact Fr.refl _ _|apply Fr.drew|apply Fr.alloc|apply Fr.set))
theorem nD(w:World)  :
  Calls Tryz.prog 225 #[] w fun e w'=>e = .returned (.agg #[.iface 168 (.agg #[.iface 250 (.bool true)])])/\New w w':=by
 go_enter Tryz.func225,Tryz.ntmps225
 go_wp2_with fail
 refine(fh _ _).mono ?_
 rintro e w1 ⟨rfl,hf⟩
 have T:=hqZ hf
 have hb:=New.box hf
 try simp only[World.size_alloc]at hb
 have B0:=hqZ hb
 have c0:=hb.cell
 have f0:=hb.free
 have l0:=hb.lt
 clear hf hb
 go_wp2
 refine bodyPost_ret (v:=.agg #[.iface 168 (.agg #[.iface 250 (.bool true)])]) (by simp only[results,Tryz.results225];go_simp) rfl ⟨rfl,?_⟩
 refine Fr.set (Fr.trans ?_ T.out) (.inr (by omega))
 repeat' (with_reducible(first|exact Fr.refl _ _|apply Fr.drew|apply Fr.alloc|apply Fr.set))
theorem lN(w:World)  :
  Calls Tryz.prog 226 #[] w fun e w'=>e = .returned (.agg #[.iface 168 (.agg #[.iface 250 (.bool false)])])/\New w w':=by
 go_enter Tryz.func226,Tryz.ntmps226
 go_wp2_with fail
 refine(fh _ _).mono ?_
 rintro e w1 ⟨rfl,hf⟩
 have T:=hqZ hf
 have hb:=New.box hf
 try simp only[World.size_alloc]at hb
 have B0:=hqZ hb
 have c0:=hb.cell
 have f0:=hb.free
 have l0:=hb.lt
 clear hf hb
 go_wp2
 refine bodyPost_ret (v:=.agg #[.iface 168 (.agg #[.iface 250 (.bool false)])]) (by simp only[results,Tryz.results226];go_simp) rfl ⟨rfl,?_⟩
 refine Fr.set (Fr.trans ?_ T.out) (.inr (by omega))
 repeat' (with_reducible(first|exact Fr.refl _ _|apply Fr.drew|apply Fr.alloc|apply Fr.set))
theorem oc(w:World)(s i:ByteArray) :
  Calls Tryz.prog 260 #[.string s,.string i] w fun e w'=>e = .returned (.agg #[.string s,.string i])/\New w w':=by
 go_enter Tryz.func260,Tryz.ntmps260
 go_wp2
 refine bodyPost_ret (v:=.agg #[.string s,.string i]) (by simp only[results,Tryz.results260];go_simp) rfl ⟨rfl,?_⟩
 repeat' (with_reducible(first|exact Fr.refl _ _|apply Fr.drew|apply Fr.alloc|apply Fr.set))
theorem gU(w:World)(s i:ByteArray) :
  Calls Tryz.prog 250 #[.string s,.string i] w fun e w'=>e = .returned (.agg #[.iface 168 (.agg #[.iface 153 (.agg #[.string s,.string i])])])/\New w w':=by
 go_enter Tryz.func250,Tryz.ntmps250
 go_wp2_with fail
 refine(oc _ _ _).mono ?_
 rintro e w0 ⟨rfl,hf0⟩
 have T0:=hqZ hf0
 have B00:=hqZ (New.box hf0)
 clear hf0
 go_wp2_with fail
 refine(du _ _ _).mono ?_
 rintro e w1 ⟨rfl,hf⟩
 have T:=hqZ hf
 have B0:=hqZ (Box.next (pb:=w.heap.size+1) B00.out (Fr.trans (by repeat' (with_reducible(first|exact Fr.refl _ _|apply Fr.drew|apply Fr.alloc|apply Fr.set))) hf.ofNew) (by omega))
 have c0:=B0.out.cell
 have f0:=B0.out.free
 have l0:=B0.out.lt
 clear hf
 go_wp2
 refine bodyPost_ret (v:=.agg #[.iface 168 (.agg #[.iface 153 (.agg #[.string s,.string i])])]) (by simp only[results,Tryz.results250];go_simp) rfl ⟨rfl,?_⟩
 refine Fr.set (Fr.trans ?_ (T0.out.trans (Fr.trans ?_ T.out))) (.inr (by omega))
 all_goals repeat' (with_reducible(first|exact Fr.refl _ _|apply Fr.drew|apply Fr.alloc|apply Fr.set))
theorem gL(w:World)  :
  Calls Tryz.prog 252 #[] w fun e w'=>e = .returned (.agg #[.string ⟨#[112,114,105,110,99,105,112,97,108]⟩])/\New w w':=by
 go_enter Tryz.func252,Tryz.ntmps252
 go_wp2
 refine bodyPost_ret (v:=.agg #[.string ⟨#[112,114,105,110,99,105,112,97,108]⟩]) (by simp only[results,Tryz.results252];go_simp) rfl ⟨rfl,?_⟩
 repeat' (with_reducible(first|exact Fr.refl _ _|apply Fr.drew|apply Fr.alloc|apply Fr.set))
theorem gT(w:World)  :
  Calls Tryz.prog 228 #[] w fun e w'=>e = .returned (.agg #[.iface 172 (.agg #[.string ⟨#[112,114,105,110,99,105,112,97,108]⟩])])/\New w w':=by
 go_enter Tryz.func228,Tryz.ntmps228
 go_wp2_with fail
 refine(gL _).mono ?_
 rintro e w0 ⟨rfl,hf0⟩
 have T0:=hqZ hf0
 have B00:=hqZ (New.box hf0)
 clear hf0
 go_wp2_with fail
 refine(al _ _ _).mono ?_
 rintro e w1 ⟨rfl,hf⟩
 have T:=hqZ hf
 have B0:=hqZ (Box.next (pb:=w.heap.size+1) B00.out (Fr.trans (by repeat' (with_reducible(first|exact Fr.refl _ _|apply Fr.drew|apply Fr.alloc|apply Fr.set))) hf.ofNew) (by omega))
 have c0:=B0.out.cell
 have f0:=B0.out.free
 have l0:=B0.out.lt
 clear hf
 go_wp2
 refine bodyPost_ret (v:=.agg #[.iface 172 (.agg #[.string ⟨#[112,114,105,110,99,105,112,97,108]⟩])]) (by simp only[results,Tryz.results228];go_simp) rfl ⟨rfl,?_⟩
 refine Fr.set (Fr.trans ?_ (T0.out.trans (Fr.trans ?_ T.out))) (.inr (by omega))
 all_goals repeat' (with_reducible(first|exact Fr.refl _ _|apply Fr.drew|apply Fr.alloc|apply Fr.set))
theorem jZ(w:World)  :
  Calls Tryz.prog 253 #[] w fun e w'=>e = .returned (.agg #[.string ⟨#[97,99,116,105,111,110]⟩])/\New w w':=by
 go_enter Tryz.func253,Tryz.ntmps253
 go_wp2
 refine bodyPost_ret (v:=.agg #[.string ⟨#[97,99,116,105,111,110]⟩]) (by simp only[results,Tryz.results253];go_simp) rfl ⟨rfl,?_⟩
 repeat' (with_reducible(first|exact Fr.refl _ _|apply Fr.drew|apply Fr.alloc|apply Fr.set))
theorem km(w:World)  :
  Calls Tryz.prog 229 #[] w fun e w'=>e = .returned (.agg #[.iface 172 (.agg #[.string ⟨#[97,99,116,105,111,110]⟩])])/\New w w':=by
 go_enter Tryz.func229,Tryz.ntmps229
 go_wp2_with fail
 refine(jZ _).mono ?_
 rintro e w0 ⟨rfl,hf0⟩
 have T0:=hqZ hf0
 have B00:=hqZ (New.box hf0)
 clear hf0
 go_wp2_with fail
 refine(al _ _ _).mono ?_
 rintro e w1 ⟨rfl,hf⟩
 have T:=hqZ hf
 have B0:=hqZ (Box.next (pb:=w.heap.size+1) B00.out (Fr.trans (by repeat' (with_reducible(first|exact Fr.refl _ _|apply Fr.drew|apply Fr.alloc|apply Fr.set))) hf.ofNew) (by omega))
 have c0:=B0.out.cell
 have f0:=B0.out.free
 have l0:=B0.out.lt
 clear hf
 go_wp2
 refine bodyPost_ret (v:=.agg #[.iface 172 (.agg #[.string ⟨#[97,99,116,105,111,110]⟩])]) (by simp only[results,Tryz.results229];go_simp) rfl ⟨rfl,?_⟩
 refine Fr.set (Fr.trans ?_ (T0.out.trans (Fr.trans ?_ T.out))) (.inr (by omega))
 all_goals repeat' (with_reducible(first|exact Fr.refl _ _|apply Fr.drew|apply Fr.alloc|apply Fr.set))
theorem iu(w:World)  :
  Calls Tryz.prog 254 #[] w fun e w'=>e = .returned (.agg #[.string ⟨#[114,101,115,111,117,114,99,101]⟩])/\New w w':=by
 go_enter Tryz.func254,Tryz.ntmps254
 go_wp2
 refine bodyPost_ret (v:=.agg #[.string ⟨#[114,101,115,111,117,114,99,101]⟩]) (by simp only[results,Tryz.results254];go_simp) rfl ⟨rfl,?_⟩
 repeat' (with_reducible(first|exact Fr.refl _ _|apply Fr.drew|apply Fr.alloc|apply Fr.set))
theorem iz(w:World)  :
  Calls Tryz.prog 230 #[] w fun e w'=>e = .returned (.agg #[.iface 172 (.agg #[.string ⟨#[114,101,115,111,117,114,99,101]⟩])])/\New w w':=by
 go_enter Tryz.func230,Tryz.ntmps230
 go_wp2_with fail
 refine(iu _).mono ?_
 rintro e w0 ⟨rfl,hf0⟩
 have T0:=hqZ hf0
 have B00:=hqZ (New.box hf0)
 clear hf0
 go_wp2_with fail
 refine(al _ _ _).mono ?_
 rintro e w1 ⟨rfl,hf⟩
 have T:=hqZ hf
 have B0:=hqZ (Box.next (pb:=w.heap.size+1) B00.out (Fr.trans (by repeat' (with_reducible(first|exact Fr.refl _ _|apply Fr.drew|apply Fr.alloc|apply Fr.set))) hf.ofNew) (by omega))
 have c0:=B0.out.cell
 have f0:=B0.out.free
 have l0:=B0.out.lt
 clear hf
 go_wp2
 refine bodyPost_ret (v:=.agg #[.iface 172 (.agg #[.string ⟨#[114,101,115,111,117,114,99,101]⟩])]) (by simp only[results,Tryz.results230];go_simp) rfl ⟨rfl,?_⟩
 refine Fr.set (Fr.trans ?_ (T0.out.trans (Fr.trans ?_ T.out))) (.inr (by omega))
 all_goals repeat' (with_reducible(first|exact Fr.refl _ _|apply Fr.drew|apply Fr.alloc|apply Fr.set))
theorem jp(w:World)  :
  Calls Tryz.prog 255 #[] w fun e w'=>e = .returned (.agg #[.string ⟨#[99,111,110,116,101,120,116]⟩])/\New w w':=by
 go_enter Tryz.func255,Tryz.ntmps255
 go_wp2
 refine bodyPost_ret (v:=.agg #[.string ⟨#[99,111,110,116,101,120,116]⟩]) (by simp only[results,Tryz.results255];go_simp) rfl ⟨rfl,?_⟩
 repeat' (with_reducible(first|exact Fr.refl _ _|apply Fr.drew|apply Fr.alloc|apply Fr.set))
theorem jL(w:World)  :
  Calls Tryz.prog 231 #[] w fun e w'=>e = .returned (.agg #[.iface 172 (.agg #[.string ⟨#[99,111,110,116,101,120,116]⟩])])/\New w w':=by
 go_enter Tryz.func231,Tryz.ntmps231
 go_wp2_with fail
 refine(jp _).mono ?_
 rintro e w0 ⟨rfl,hf0⟩
 have T0:=hqZ hf0
 have B00:=hqZ (New.box hf0)
 clear hf0
 go_wp2_with fail
 refine(al _ _ _).mono ?_
 rintro e w1 ⟨rfl,hf⟩
 have T:=hqZ hf
 have B0:=hqZ (Box.next (pb:=w.heap.size+1) B00.out (Fr.trans (by repeat' (with_reducible(first|exact Fr.refl _ _|apply Fr.drew|apply Fr.alloc|apply Fr.set))) hf.ofNew) (by omega))
 have c0:=B0.out.cell
 have f0:=B0.out.free
 have l0:=B0.out.lt
 clear hf
 go_wp2
 refine bodyPost_ret (v:=.agg #[.iface 172 (.agg #[.string ⟨#[99,111,110,116,101,120,116]⟩])]) (by simp only[results,Tryz.results231];go_simp) rfl ⟨rfl,?_⟩
 refine Fr.set (Fr.trans ?_ (T0.out.trans (Fr.trans ?_ T.out))) (.inr (by omega))
 all_goals repeat' (with_reducible(first|exact Fr.refl _ _|apply Fr.drew|apply Fr.alloc|apply Fr.set))
theorem PSt.over{w0 w w':World}{pb tb:Nat}{ts:List Tok}(h:PSt w pb tb ts)(hf:Fr (fun k=>w0.heap.size<=k) w w')(h1:pb < w0.heap.size)(h2:tb < w0.heap.size):PSt w' pb tb ts :=
 h.frame hf (by show ¬ _<=_;omega) (by show ¬ _<=_;omega)
section
variable (w:World) (pb tb:Nat) (ts:List Tok) (l:List UInt8)
theorem aQ(h:PSt w pb tb ts)(hq:((hd ts).text.toList == l)=true) :
  Calls Tryz.prog 64 #[.pointer (some ⟨pb,0,none⟩),.string ⟨l.toArray⟩] w fun e w'=>e = .returned .nilIface/\PSt w' pb tb (adv ts)/\Fr (· = pb) w w' :=
 qM w pb tb ts _ h (by rw[ByteArray.toList_mk l];exact hq)
theorem bf(h:PSt w pb tb ts)(hq:((hd ts).text.toList == l)=false) :
  Calls Tryz.prog 64 #[.pointer (some ⟨pb,0,none⟩),.string ⟨l.toArray⟩] w fun e w'=>(∃ (t:TypeId) (u:Value),e = .returned (.iface t u))/\Fr (· = pb) w w' :=
 rJ w pb tb ts _ h (by rw[ByteArray.toList_mk l];exact hq)
end
end Go.Proofs.YtbdhlpeckennjaaGreatDoor
