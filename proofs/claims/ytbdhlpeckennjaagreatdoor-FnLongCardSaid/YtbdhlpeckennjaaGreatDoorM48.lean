/- FnLong (the proof that the law returns true for every input), part 48 of 52; the last part says what is proved, and its condition. -/
import Derived.Test.YtbdhlpeckennjaaGreatDoorRows
import Derived.JoinedOf
import Derived.SevenTiedAt
import Derived.Lay
import Derived.LaidMore
import Derived.ProofKit
import Derived.OpenShut
import Derived.Stop.Joined
set_option linter.unusedVariables false
set_option linter.unusedSimpArgs false
set_option maxHeartbeats 80000000
set_option maxRecDepth 1000000
namespace Go.Proofs.YtbdhlpeckennjaaGreatDoor
open Go Go.ChangeShapes Go.WideShapes Go.ChangeAt Go.RowKit
set_option maxRecDepth 100000
theorem qu:(Rows.fnLongRow.wf (OpenSpec.ofChange Rows.fnLongSpec))=true:=by kernel_rfl
theorem qt:(laidOutB Tryz.prog)=true:=by kernel_rfl
theorem qr:(mapsRowed Tryz.prog)=true:=by kernel_rfl
theorem qq:(Tryz.f3.params.all (Tryz.prog.readableRec ·))=true:=by kernel_rfl
theorem qp:(namedTie Tryz.prog Rows.fnLongRow.named Rows.fnLongSpec.vars)=true:=by kernel_rfl
theorem qo:((Rows.fnLongRow.stops == []))=true:=by kernel_rfl
theorem qn:((Tryz.prog.stops == []))=true:=by kernel_rfl
theorem qm:((Rows.fnLongRow.knobs == []))=true:=by kernel_rfl
theorem ql:((Tryz.prog.stopKnobs == []))=true:=by kernel_rfl
theorem qk:((Rows.fnLongRow.inPlace == Tryz.prog.inPlace 3))=true:=by kernel_rfl
theorem oU:((Rows.fnLongRow.unfollowed == Tryz.prog.unfollowed 3))=true:=by kernel_rfl
theorem oT:((Rows.fnLongRow.recurses == Tryz.prog.recurses 3))=true:=by kernel_rfl
theorem oS:((Rows.fnLongRow.named == Tryz.prog.varsNamed 3))=true:=by kernel_rfl
end Go.Proofs.YtbdhlpeckennjaaGreatDoor
