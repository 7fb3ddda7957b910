/- FnLong (the proof that the law returns true for every input), part 49 of 52; the last part says what is proved, and its condition. -/
import Derived.Test.YtbdhlpeckennjaaGreatDoorRows
import Derived.JoinedOf
import Derived.SevenTiedAt
import Derived.Lay
import Derived.LaidMore
import Derived.ProofKit
import Derived.OpenShut
import Derived.Stop.Joined
set_option linter.unusedVariables false
set_option linter.unusedSimpArgs false
set_option maxHeartbeats 80000000
set_option maxRecDepth 1000000
namespace Go.Proofs.YtbdhlpeckennjaaGreatDoor
open Go Go.ChangeShapes Go.WideShapes Go.ChangeAt Go.RowKit
set_option maxRecDepth 100000
theorem oR:((Rows.fnLongRow.maps ==(Tryz.f3.params.toList++Rows.fnLongSpec.plain.varTypes Tryz.prog).any (Tryz.prog.mapsRec ·)))=true:=by kernel_rfl
theorem oQ:((Rows.fnLongRow.ifaces ==(Tryz.f3.params.toList++Rows.fnLongSpec.plain.varTypes Tryz.prog).any (Tryz.prog.ifacesRec ·)))=true:=by kernel_rfl
theorem oP:((Rows.fnLongRow.mapsOut == Tryz.prog.mapsAmong Tryz.f3.resultTypes.toList))=true:=by kernel_rfl
theorem oO:((Rows.fnLongRow.loops ==(Tryz.f3.params.toList++Rows.fnLongSpec.plain.varTypes Tryz.prog).any (Tryz.prog.loopsFrom ·)))=true:=by kernel_rfl
theorem oN:((Rows.fnLongRow.wideKeys ==(Tryz.f3.params.toList++Rows.fnLongSpec.plain.varTypes Tryz.prog++Tryz.f3.resultTypes.toList).any (Tryz.prog.wideKeysFrom ·)))=true:=by kernel_rfl
theorem oM:(Rows.fnLongSpec.vars.all (Tryz.prog.varReadable ·))=true:=by kernel_rfl
theorem oL:(Tryz.f3.resultTypes.all (fun t=>Tryz.prog.readableRec t && decide (t < Tryz.prog.types.size)))=true:=by kernel_rfl
theorem oK:((Rows.fnLongRow.ifacesOut == Tryz.f3.resultTypes.toList.any (Tryz.prog.ifacesRec ·)))=true:=by kernel_rfl
theorem oJ:((Rows.fnLongRow.loopsOut == Tryz.f3.resultTypes.toList.any (Tryz.prog.loopsFrom ·)))=true:=by kernel_rfl
theorem oI:((Rows.fnLongRow.plainKeys == Tryz.prog.plainKeys))=true:=by kernel_rfl
theorem oH:(Rows.fnLongRow.shortTexts.isNone)=true:=by kernel_rfl
theorem oG:(Tryz.prog.stopsHeard)=true:=by kernel_rfl
theorem oF:(Tryz.prog.mayEnter)=true:=by kernel_rfl
theorem oE:((Rows.fnLongRow.lifted == Tryz.prog.liftsFinal))=true:=by kernel_rfl
theorem oD:((Tryz.prog.make == some Rows.fnLongRow.make))=true:=by kernel_rfl
theorem oC:((Rows.fnLongRow.kinds ==(if Rows.fnLongRow.domain.isEmpty then []else Tryz.f3.params.toList.map fun t=>match Tryz.prog.underlying t with|some (.int k)=>some k|_=>none)))=true:=by kernel_rfl
theorem oB:((Rows.fnLongRow.pinned == Rows.fnLongRow.pinnedBy))=true:=by kernel_rfl
theorem oA:((Rows.fnLongRow.veiled ==(Tryz.f3.params.toList++Rows.fnLongSpec.plain.varTypes Tryz.prog++Tryz.f3.resultTypes.toList).any (Tryz.prog.veiledRec ·)))=true:=by kernel_rfl
theorem oz:(Rows.fnLongRow.veiledFits Tryz.prog Tryz.f3.params.toList (Tryz.f3.params.toList++Rows.fnLongSpec.plain.varTypes Tryz.prog++Tryz.f3.resultTypes.toList))=true:=by kernel_rfl
end Go.Proofs.YtbdhlpeckennjaaGreatDoor
