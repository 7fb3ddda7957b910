/-
  FnLong: for every input the law returns true, and each argument reads behind the call as it read before; its card: what its row lists is tied to the program's text. Condition: the listed variables of the library hold, as the call begins, what the program's text lays.
-/
import Derived.Test.YtbdhlpeckennjaaGreatDoorTie
import Derived.Test.YtbdhlpeckennjaaGreatDoorCards
import Derived.ProofKit
import Derived.OpenShut
import Derived.LaidMore
import Derived.Lay
import Derived.SevenTiedAt
import Derived.JoinedOf
import Derived.Stop.Joined
import Derived.Stop.LaidErr
import Derived.Lib.LaidU8T
import Derived.PinnedBridge
import Derived.Test.YtbdhlpeckennjaaGreatDoorM46
import Derived.Test.YtbdhlpeckennjaaGreatDoorM47
import Derived.Test.YtbdhlpeckennjaaGreatDoorM48
import Derived.Test.YtbdhlpeckennjaaGreatDoorM49
import Derived.Test.YtbdhlpeckennjaaGreatDoorM50
import Derived.Test.YtbdhlpeckennjaaGreatDoorM51
set_option linter.unusedVariables false
set_option linter.unusedSimpArgs false
set_option maxHeartbeats 80000000
set_option maxRecDepth 1000000
namespace Go.Proofs.YtbdhlpeckennjaaGreatDoor
open Go Go.ChangeShapes Go.WideShapes Go.ChangeAt Go.RowKit
set_option maxRecDepth 100000
theorem andT{a b:Bool}(ha:a=true)(hb:b=true):(a && b)=true:=by rw[ha,hb];rfl
theorem ke:joinedFacts Tryz.checked.prog 3 Tryz.f3 Rows.fnLongSpec Rows.fnLongRow=true:=(andT (andT (andT (andT (andT (andT (andT (andT (andT (andT (andT (andT (andT (andT (andT (andT (andT (andT (andT (andT (andT (andT (andT (andT (andT (andT (andT (andT (andT (andT (andT qu qt) qr) qq) qp) qo) qn) qm) ql) qk) oU) oT) oS) oR) oQ) oP) oO) oN) oM) oL) oK) oJ) oI) oH) oG) oF) oE) oD) oC) oB) oA) oz)
theorem ka(os:Os)(started:os.Started)(H:Type)(enc:TypeId × Value->H) :
  ReturnsInHanded {} Tryz.checked os 3 .any (fun w args=>(Rows.fnLongSpec.pre enc Tryz.prog Tryz.f3 [] false w args/\laidMetH Tryz.prog Rows.fnLongRow.laid w)/\sizedMet enc Tryz.prog Tryz.f3 (OpenSpec.ofChange Rows.fnLongSpec) false w args)
   (Rows.fnLongSpec.post enc Tryz.prog Tryz.f3 false true false false):=by
 refine gI (X:=fun w _=>laidMetH Tryz.prog Rows.fnLongRow.laid w) (fun _ _ _ hh h=>h.of_heap hh) started qC Tryz.func3
  (ChangeSpec.witness_shaped (enc:=enc) (C:=Tryz.checked) (os:=os) (X:=fun w _=>laidMetH Tryz.prog Rows.fnLongRow.laid w) false (World.laidAll Tryz.prog os Rows.fnLongRow.laid) #[.int .u64 0,.bool false] 8 (World.laidAll_os _ _ _)
   (World.shaped_of_ZipB (qB os) (qA os)) (qz os) (qy os H enc) (qx os H enc)
   (by rw[MakeChecks.laidMetH_plain _ _ _ kJ];exact laidMet_laidAll _ (qw os) (qv os))) ?_
 intro W base args ds gs before h15 hval0 hW hL
 have hval:∀ (j:Nat) t v,Tryz.f3.params[j]? = some t->args[j]? = some v->Value.okWide Tryz.prog W .any base t v:=hval0
 have hW':=hW
 obtain⟨p,q,hA0,hV,rfl,_,_⟩:=hW
 have hA:DataW.TrodAll enc Tryz.prog W 0 (fun _=>true) true Tryz.f3.params.toList args.toList ds p:=hA0
 rw[Tryz.params3]at hA hval
 obtain⟨v0,v1,d0,d1,p0,p1,rfl,rfl,rfl,h0,h1⟩:=trodAll_two hA
 obtain⟨rfl,rfl⟩:=trodVars_none hV
 obtain⟨x,rfl,rfl,rfl,wx⟩:=open_int Tryz.underlying22 (hval 0 22 v0 rfl rfl) h0
 obtain⟨b,rfl,rfl,rfl⟩:=open_bool Tryz.underlying4 (hval 1 4 v1 rfl rfl) h1
 have hx:∃ n:Nat,n < 2 ^ 64/\x=n:=by
  refine⟨x.toNat,?_⟩
  have e1:IntKind.u64.min=0:=rfl
  have e2:IntKind.u64.max=18446744073709551615:=rfl
  simp[Lit.wf,e1,e2]at wx
  omega
 obtain⟨n,hn,rfl⟩:=hx
 have hg:=glob_of (by rw[<- MakeChecks.laidMetH_plain Tryz.prog Rows.fnLongRow.laid W kJ];exact hL)
 refine(oV W n hn b hg.1 hg.2 h15).mono fun e W' ⟨he,hw⟩=>?_
 subst he
 refine⟨_,rfl,_,_,_,[],[],[],hW',?_,?_,?_,(show Below W.heap.size W W' from ⟨hw.os,hw.tape,hw.output,hw.size,fun k hk=>hw.block k hk id⟩).frame _,fun h=>by cases h⟩
 .exact trodAll_mk1 (shut_bool Tryz.underlying4 _)
 .exact trodAll_mk2 (shut_int Tryz.underlying22 wx) (shut_bool Tryz.underlying4 _)
 .rfl
theorem ow:Rows.FnLongSaid :=
 OpenClaim.holds_of_wide 3 Tryz.f3 rfl rfl rfl rfl rfl rfl rfl ⟨rfl,rfl,rfl,rfl,rfl⟩ rfl rfl rfl rfl rfl kI Tryz.func3 ke qj qi
  (fun os started H enc _=>ka os started H enc)
theorem fnLong_holds:Rows.FnLongCardSaid :=
 Claim7.holds_tied_plain_at .later [] [.data,.data,.data,.data,.data,.sentinel,.sentinel,.sentinel,.sentinel,.pinned] true (true, "0b7f03b5476543fb43e41990118ac3850a2ae482ddf4ac7dcc2fa210c03310cb") true ow (fun _ h=>by cases h) qH (fun _ h=>by cases h) fnLong_row_tie rfl ⟨rfl,rfl⟩ qG rfl
  (fun f fn hf hfn=>by
   obtain rfl:f=3:=Option.some.inj (kI.symm.trans hf) |>.symm
   obtain rfl:fn=Tryz.f3:=(Option.some.inj (Tryz.func3.symm.trans hfn)).symm
   exact⟨qF,fun j t ht=>by
    rw[Tryz.params3]at ht
    have hm:t ∈ [22,4]:=by simpa using Array.mem_of_getElem? ht
    exact(show Tryz.prog.wantsStandIn t=false by simpa using List.all_eq_true.1 qE t hm)⟩)
  qD
#print axioms fnLong_holds
end Go.Proofs.YtbdhlpeckennjaaGreatDoor
