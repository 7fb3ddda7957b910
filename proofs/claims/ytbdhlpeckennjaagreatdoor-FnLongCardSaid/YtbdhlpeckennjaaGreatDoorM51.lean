/- FnLong (the proof that the law returns true for every input), part 51 of 52; the last part says what is proved, and its condition. -/
import Derived.Test.YtbdhlpeckennjaaGreatDoorRows
import Derived.JoinedOf
import Derived.SevenTiedAt
import Derived.Lay
import Derived.LaidMore
import Derived.ProofKit
import Derived.OpenShut
import Derived.Stop.Joined
set_option linter.unusedVariables false
set_option linter.unusedSimpArgs false
set_option maxHeartbeats 80000000
set_option maxRecDepth 1000000
namespace Go.Proofs.YtbdhlpeckennjaaGreatDoor
open Go Go.ChangeShapes Go.WideShapes Go.ChangeAt Go.RowKit
set_option maxRecDepth 100000
theorem qC:Tryz.checked.prog.inits.idxOf? 3=none:=by kernel_rfl
theorem qB(os:Os):((World.laidAll Tryz.prog os Rows.fnLongRow.laid).forCall (fun _ _=>0) ⟨#[],#[.int .u64 0,.bool false],[]⟩).variablesZipB Tryz.prog=true:=by kernel_rfl
theorem qA(os:Os):((((World.laidAll Tryz.prog os Rows.fnLongRow.laid).forCall (fun _ _=>0) ⟨#[],#[.int .u64 0,.bool false],[]⟩).heap.toList.drop Tryz.prog.globals.size).take ((begin Tryz.prog (fun _ _=>0) default).world.heap.size - Tryz.prog.globals.size)=(begin Tryz.prog (fun _ _=>0) default).world.heap.toList.drop Tryz.prog.globals.size):=by kernel_rfl
theorem qz(os:Os):Input.okWideB Tryz.prog ((World.laidAll Tryz.prog os Rows.fnLongRow.laid).forCall (fun _ _=>0) ⟨#[],#[.int .u64 0,.bool false],[]⟩) 3 ⟨#[],#[.int .u64 0,.bool false],[]⟩=true:=by kernel_rfl
theorem qy(os:Os)(H:Type)(enc:TypeId × Value->H):Rows.fnLongSpec.preB enc Tryz.prog Tryz.f3 [] false ((World.laidAll Tryz.prog os Rows.fnLongRow.laid).forCall (fun _ _=>0) ⟨#[],#[.int .u64 0,.bool false],[]⟩).memory #[.int .u64 0,.bool false] 8=true:=by kernel_rfl
theorem qx(os:Os)(H:Type)(enc:TypeId × Value->H):Rows.fnLongSpec.sizedB enc Tryz.prog Tryz.f3 false ((World.laidAll Tryz.prog os Rows.fnLongRow.laid).forCall (fun _ _=>0) ⟨#[],#[.int .u64 0,.bool false],[]⟩).memory #[.int .u64 0,.bool false] 8=true:=by kernel_rfl
theorem kJ:(Rows.fnLongRow.laid.all fun x=>x.2.handleName?.isNone)=true:=by kernel_rfl
theorem qw(os:Os):(World.holding Tryz.prog os ⟨#[],#[],[]⟩).layFits Tryz.prog Rows.fnLongRow.laid []=true:=by kernel_rfl
theorem qv(os:Os):(World.holding Tryz.prog os ⟨#[],#[],[]⟩).layIfaces Tryz.prog Rows.fnLongRow.laid (World.laidAll Tryz.prog os Rows.fnLongRow.laid)=true:=by kernel_rfl
end Go.Proofs.YtbdhlpeckennjaaGreatDoor
