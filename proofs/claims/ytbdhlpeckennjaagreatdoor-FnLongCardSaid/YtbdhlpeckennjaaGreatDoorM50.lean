/- FnLong (the proof that the law returns true for every input), part 50 of 52; the last part says what is proved, and its condition. -/
import Derived.Test.YtbdhlpeckennjaaGreatDoorRows
import Derived.JoinedOf
import Derived.SevenTiedAt
import Derived.Lay
import Derived.LaidMore
import Derived.ProofKit
import Derived.OpenShut
import Derived.Stop.Joined
set_option linter.unusedVariables false
set_option linter.unusedSimpArgs false
set_option maxHeartbeats 80000000
set_option maxRecDepth 1000000
namespace Go.Proofs.YtbdhlpeckennjaaGreatDoor
open Go Go.ChangeShapes Go.WideShapes Go.ChangeAt Go.RowKit
set_option maxRecDepth 100000
theorem kI:Tryz.checked.prog.funcNamed "pub-claviger/laws.FnLong" = some 3:=by kernel_rfl
theorem qj:Tryz.f3.isInstance Tryz.checked.prog Rows.fnLongRow.origin Rows.fnLongRow.targs:=of_decide_eq_true (by kernel_rfl)
theorem qi:Tryz.f3.isWrapper Tryz.checked.prog Rows.fnLongRow.wrapper Rows.fnLongRow.mainSum:=by unfold Func.isWrapper;first|(rw[if_pos (by decide +kernel)];kernel_rfl)|(rw[if_neg (by decide +kernel)];exact⟨rfl,rfl⟩)
theorem qH:Rows.fnLongRow.wfByText (OpenSpec.ofChange Rows.fnLongSpec)=true:=by kernel_rfl
theorem qG:Tryz.checked.prog.mainIs=some (true,("0b7f03b5476543fb43e41990118ac3850a2ae482ddf4ac7dcc2fa210c03310cb" : String).toList):=by kernel_rfl
theorem qF:true=Tryz.checked.prog.looks []:=by kernel_rfl
theorem qE:([22,4].all fun u=>!Tryz.prog.wantsStandIn u)=true:=by kernel_rfl
theorem qD:false=Rows.fnLongRow.goesBy Tryz.checked.prog:=by kernel_rfl
end Go.Proofs.YtbdhlpeckennjaaGreatDoor
