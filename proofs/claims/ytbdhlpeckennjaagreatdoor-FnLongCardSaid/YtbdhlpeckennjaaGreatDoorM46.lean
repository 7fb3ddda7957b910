/- FnLong (the proof that the law returns true for every input), part 46 of 52; the last part says what is proved, and its condition. -/
import Derived.Deep.RegionHeld3
import Derived.Test.YtbdhlpeckennjaaGreatDoorM04
import Derived.Test.YtbdhlpeckennjaaGreatDoorM45
set_option linter.unusedVariables false
set_option linter.unusedSimpArgs false
set_option maxHeartbeats 80000000
set_option maxRecDepth 1000000
namespace Go.Proofs.YtbdhlpeckennjaaGreatDoor
open Go Go.RowKit
theorem named_1(w:World):Calls Tryz.prog 30 #[.int .i64 1] w fun e w'=>e = .returned (.bool false)/\New w w':=by
 go_enter Tryz.func30,Tryz.ntmps30
 go_wp2
 go_ret
 exact⟨rfl,Fr.refl _ _⟩
theorem ld(w:World)(n:Int):Calls Tryz.prog 31 #[.agg #[.int .i64 2,.int .i64 n,.string ⟨#[]⟩,.string ⟨#[]⟩,.slice none 0 0,.slice none 0 0],.agg #[.int .i64 2,.int .i64 n,.string ⟨#[]⟩,.string ⟨#[]⟩,.slice none 0 0,.slice none 0 0]] w fun e w'=>e = .returned (.bool true)/\New w w':=by
 go_enter Tryz.func31,Tryz.ntmps31
 go_wp2_with fail
 go_ret
 exact⟨by simp,by((repeat' (with_reducible(first|exact Fr.refl _ _|apply Fr.drew|apply Fr.drewN|apply Fr.alloc|apply Fr.set))) <;> first|exact .inl rfl|exact .inr (Nat.le_refl _)|exact .inr (by omega)|(refine .inl ?_;show ¬ _;omega))⟩
theorem mr(w:World)(n:Int)(A B C A' B' C':Option Addr)(a a2 b b2 c a' a2' b' b2' c':Nat):Calls Tryz.prog 15 #[.agg #[.int .i64 1,.string ⟨#[]⟩,.int .i64 2,.int .i64 n,.string ⟨#[]⟩,.string ⟨#[]⟩,.slice none 0 0,.slice none 0 0,.slice A a a2,.slice B b b2,.slice C 0 c],.agg #[.int .i64 1,.string ⟨#[]⟩,.int .i64 2,.int .i64 n,.string ⟨#[]⟩,.string ⟨#[]⟩,.slice none 0 0,.slice none 0 0,.slice A' a' a2',.slice B' b' b2',.slice C' 0 c']] w fun e w'=>e = .returned (.bool true)/\New w w':=by
 have T0:=hqZ (Fr.refl (fun _=>False) w)
 go_enter Tryz.func15,Tryz.ntmps15
 (go_wp2_with fail;refine(named_1 _).mono ?_;rintro e w1 ⟨rfl,hf⟩;(have xs0:=Fr.size hf;simp only[aa,ae,ad,af]at xs0;have T1:=hqZ (Fr.transN ((T0.out.alloc _).alloc _) hf);clear T0;have B0:=hqZ (Blk.next ((Blk.at_ _ _ _ (n:=w.heap.size) rfl).alloc _) hf id);obtain⟨xk0,xl0⟩:=Blk.k11 B0.out;have B1:=hqZ (Blk.next (Blk.at_ _ _ _ (n:=w.heap.size+1) (by simp only[aa,ae,ad,af])) hf id);obtain⟨xk11,xl1⟩:=Blk.k11 B1.out;clear hf))
 have hb1:Blk w1 w.heap.size #[.int .i64 1,.string ⟨#[]⟩,.int .i64 2,.int .i64 n,.string ⟨#[]⟩,.string ⟨#[]⟩,.slice none 0 0,.slice none 0 0,.slice A a a2,.slice B b b2,.slice C 0 c] 30:=by exact B0.out
 have hb2:Blk w1 (w.heap.size+1) #[.int .i64 1,.string ⟨#[]⟩,.int .i64 2,.int .i64 n,.string ⟨#[]⟩,.string ⟨#[]⟩,.slice none 0 0,.slice none 0 0,.slice A' a' a2',.slice B' b' b2',.slice C' 0 c'] 30:=by exact B1.out
 have SK:=hqZ (show ∀ W,Fr (fun _=>False) w1 W->(W.cell? ⟨w.heap.size,0,none⟩=some (.int .i64 1)/\W.cell? ⟨w.heap.size,2,none⟩=some (.int .i64 2)/\W.cell? ⟨w.heap.size,3,none⟩=some (.int .i64 n)/\W.cell? ⟨w.heap.size,4,none⟩=some (.string ⟨#[]⟩)/\W.cell? ⟨w.heap.size,5,none⟩=some (.string ⟨#[]⟩)/\W.cell? ⟨w.heap.size,6,none⟩=some (.slice none 0 0)/\W.cell? ⟨w.heap.size,7,none⟩=some (.slice none 0 0)/\W.cell? ⟨w.heap.size,8,none⟩=some (.slice A a a2)/\W.cell? ⟨w.heap.size,9,none⟩=some (.slice B b b2)/\W.cell? ⟨w.heap.size+1,0,none⟩=some (.int .i64 1)/\W.cell? ⟨w.heap.size+1,2,none⟩=some (.int .i64 2)/\W.cell? ⟨w.heap.size+1,3,none⟩=some (.int .i64 n)/\W.cell? ⟨w.heap.size+1,4,none⟩=some (.string ⟨#[]⟩)/\W.cell? ⟨w.heap.size+1,5,none⟩=some (.string ⟨#[]⟩)/\W.cell? ⟨w.heap.size+1,6,none⟩=some (.slice none 0 0)/\W.cell? ⟨w.heap.size+1,7,none⟩=some (.slice none 0 0)/\W.cell? ⟨w.heap.size+1,8,none⟩=some (.slice A' a' a2')/\W.cell? ⟨w.heap.size+1,9,none⟩=some (.slice B' b' b2'))from fun W hf=>⟨(hb1.next hf id).cell 0 _ rfl,(hb1.next hf id).cell 2 _ rfl,(hb1.next hf id).cell 3 _ rfl,(hb1.next hf id).cell 4 _ rfl,(hb1.next hf id).cell 5 _ rfl,(hb1.next hf id).cell 6 _ rfl,(hb1.next hf id).cell 7 _ rfl,(hb1.next hf id).cell 8 _ rfl,(hb1.next hf id).cell 9 _ rfl,(hb2.next hf id).cell 0 _ rfl,(hb2.next hf id).cell 2 _ rfl,(hb2.next hf id).cell 3 _ rfl,(hb2.next hf id).cell 4 _ rfl,(hb2.next hf id).cell 5 _ rfl,(hb2.next hf id).cell 6 _ rfl,(hb2.next hf id).cell 7 _ rfl,(hb2.next hf id).cell 8 _ rfl,(hb2.next hf id).cell 9 _ rfl⟩)
 have HV:=hqZ (fun W=>ld W n)
 have HB1:=hqZ (fun(_:Unit)=>hb1)
 have HB2:=hqZ (fun(_:Unit)=>hb2)
 have HT1:=hqZ (fun(_:Unit)=>(by exact T1.out:Fr (fun _=>False) w w1))
 clear hb1 hb2
 go_wp2_with fail
 refine wp_region_held_drew (S:=fun w'=>w'.cell? ⟨w.heap.size,0,none⟩=some (.int .i64 1)/\w'.cell? ⟨w.heap.size,2,none⟩=some (.int .i64 2)/\w'.cell? ⟨w.heap.size,3,none⟩=some (.int .i64 n)/\w'.cell? ⟨w.heap.size,4,none⟩=some (.string ⟨#[]⟩)/\w'.cell? ⟨w.heap.size,5,none⟩=some (.string ⟨#[]⟩)/\w'.cell? ⟨w.heap.size,6,none⟩=some (.slice none 0 0)/\w'.cell? ⟨w.heap.size,7,none⟩=some (.slice none 0 0)/\w'.cell? ⟨w.heap.size,8,none⟩=some (.slice A a a2)/\w'.cell? ⟨w.heap.size,9,none⟩=some (.slice B b b2)/\w'.cell? ⟨w.heap.size+1,0,none⟩=some (.int .i64 1)/\w'.cell? ⟨w.heap.size+1,2,none⟩=some (.int .i64 2)/\w'.cell? ⟨w.heap.size+1,3,none⟩=some (.int .i64 n)/\w'.cell? ⟨w.heap.size+1,4,none⟩=some (.string ⟨#[]⟩)/\w'.cell? ⟨w.heap.size+1,5,none⟩=some (.string ⟨#[]⟩)/\w'.cell? ⟨w.heap.size+1,6,none⟩=some (.slice none 0 0)/\w'.cell? ⟨w.heap.size+1,7,none⟩=some (.slice none 0 0)/\w'.cell? ⟨w.heap.size+1,8,none⟩=some (.slice A' a' a2')/\w'.cell? ⟨w.heap.size+1,9,none⟩=some (.slice B' b' b2')) (by kernel_rfl) ?_ (fun hHeld=>?_)
 .exact SK.out _ Fr.r.drew
 refine wpAnyH_take (i:=0) (v:=?v0) rfl (by kernel_rfl) (by kernel_rfl) (by kernel_rfl) (fun _ _ _ h=>h) (Or.inl ⟨rfl,?h0⟩) (by assumption) ?_
 case h0=>(intro W hSw;(try dsimp only at hSw);simp only[List.getElem_toArray,List.getElem_cons_zero,List.getElem_cons_succ];go_simp;try with_reducible rfl)
 simp only[Act.put,List.getElem_toArray,List.getElem_cons_zero,List.getElem_cons_succ,List.setIfInBounds_toArray,List.set_cons_zero,List.set_cons_succ]
 refine wpAnyH_take (i:=1) (v:=?v1) rfl (by kernel_rfl) (by kernel_rfl) (by kernel_rfl) (fun _ _ _ h=>h) (Or.inl ⟨rfl,?h1⟩) (by assumption) ?_
 case h1=>(intro W hSw;(try dsimp only at hSw);simp only[List.getElem_toArray,List.getElem_cons_zero,List.getElem_cons_succ];go_simp;try with_reducible rfl)
 simp only[Act.put,List.getElem_toArray,List.getElem_cons_zero,List.getElem_cons_succ,List.setIfInBounds_toArray,List.set_cons_zero,List.set_cons_succ]
 refine wpAnyH_take (i:=2) (v:=?v2) rfl (by kernel_rfl) (by kernel_rfl) (by kernel_rfl) (fun _ _ _ h=>h) (Or.inl ⟨rfl,?h2⟩) (by assumption) ?_
 case h2=>(intro W hSw;(try dsimp only at hSw);simp only[List.getElem_toArray,List.getElem_cons_zero,List.getElem_cons_succ];go_simp;try with_reducible rfl)
 simp only[Act.put,List.getElem_toArray,List.getElem_cons_zero,List.getElem_cons_succ,List.setIfInBounds_toArray,List.set_cons_zero,List.set_cons_succ]
 refine wpAnyH_take (i:=3) (v:=?v3) rfl (by kernel_rfl) (by kernel_rfl) (by kernel_rfl) (fun _ _ _ h=>h) (Or.inl ⟨rfl,?h3⟩) (by assumption) ?_
 case h3=>(intro W hSw;(try dsimp only at hSw);simp only[List.getElem_toArray,List.getElem_cons_zero,List.getElem_cons_succ];go_simp;try with_reducible rfl)
 simp only[Act.put,List.getElem_toArray,List.getElem_cons_zero,List.getElem_cons_succ,List.setIfInBounds_toArray,List.set_cons_zero,List.set_cons_succ]
 refine wpAnyH_take (i:=4) (v:=?v4) rfl (by kernel_rfl) (by kernel_rfl) (by kernel_rfl) (fun _ _ _ h=>h) (Or.inl ⟨rfl,?h4⟩) (by assumption) ?_
 case h4=>(intro W hSw;(try dsimp only at hSw);simp only[List.getElem_toArray,List.getElem_cons_zero,List.getElem_cons_succ];go_simp;try with_reducible rfl)
 simp only[Act.put,List.getElem_toArray,List.getElem_cons_zero,List.getElem_cons_succ,List.setIfInBounds_toArray,List.set_cons_zero,List.set_cons_succ]
 refine wpAnyH_take (i:=5) (v:=?v5) rfl (by kernel_rfl) (by kernel_rfl) (by kernel_rfl) (fun _ _ _ h=>h) (Or.inl ⟨rfl,?h5⟩) (by assumption) ?_
 case h5=>(intro W hSw;(try dsimp only at hSw);simp only[List.getElem_toArray,List.getElem_cons_zero,List.getElem_cons_succ];go_simp;try with_reducible rfl)
 simp only[Act.put,List.getElem_toArray,List.getElem_cons_zero,List.getElem_cons_succ,List.setIfInBounds_toArray,List.set_cons_zero,List.set_cons_succ]
 refine wpAnyH_take (i:=6) (v:=?v6) rfl (by kernel_rfl) (by kernel_rfl) (by kernel_rfl) (fun _ _ _ h=>h) (Or.inl ⟨rfl,?h6⟩) (by assumption) ?_
 case h6=>(intro W hSw;(try dsimp only at hSw);simp only[List.getElem_toArray,List.getElem_cons_zero,List.getElem_cons_succ];go_simp;try with_reducible rfl)
 simp only[Act.put,List.getElem_toArray,List.getElem_cons_zero,List.getElem_cons_succ,List.setIfInBounds_toArray,List.set_cons_zero,List.set_cons_succ]
 refine wpAnyH_take (i:=7) (v:=?v7) rfl (by kernel_rfl) (by kernel_rfl) (by kernel_rfl) (fun _ _ _ h=>h) (Or.inl ⟨rfl,?h7⟩) (by assumption) ?_
 case h7=>(intro W hSw;(try dsimp only at hSw);simp only[List.getElem_toArray,List.getElem_cons_zero,List.getElem_cons_succ];go_simp;try with_reducible rfl)
 simp only[Act.put,List.getElem_toArray,List.getElem_cons_zero,List.getElem_cons_succ,List.setIfInBounds_toArray,List.set_cons_zero,List.set_cons_succ]
 refine wpAnyH_ready (rs:=[8]) (by kernel_rfl) (by simp) ?_
 refine AllReadyH.cons rfl (fun K hK=>?_) AllReadyH.nil
 go_simp
 refine(HV.out _).mono ?_
 rintro e w2 ⟨rfl,hf2⟩
 have hf3:Fr (fun _=>False) w1 w2:=Fr.trans Fr.r.drew hf2
 clear hf2
 go_wp2_with fail
 refine hK.out _ _ (SK.out _ hf3) (fun hHeld=>?_)
 clear hK K
 have hHeld2:=SK.out _ hf3
 refine wpAnyH_take (i:=9) (v:=?v9) rfl (by kernel_rfl) (by kernel_rfl) (by kernel_rfl) (fun _ _ _ h=>h) (Or.inl ⟨rfl,?h9⟩) (by assumption) ?_
 case h9=>(intro W hSw;(try dsimp only at hSw);simp only[List.getElem_toArray,List.getElem_cons_zero,List.getElem_cons_succ];go_simp;try with_reducible rfl)
 simp only[Act.put,List.getElem_toArray,List.getElem_cons_zero,List.getElem_cons_succ,List.setIfInBounds_toArray,List.set_cons_zero,List.set_cons_succ]
 refine wpAnyH_take (i:=10) (v:=?v10) rfl (by kernel_rfl) (by kernel_rfl) (by kernel_rfl) (fun _ _ _ h=>h) (Or.inl ⟨rfl,?h10⟩) (by assumption) ?_
 case h10=>(intro W hSw;(try dsimp only at hSw);simp only[List.getElem_toArray,List.getElem_cons_zero,List.getElem_cons_succ];go_simp;try with_reducible rfl)
 simp only[Act.put,List.getElem_toArray,List.getElem_cons_zero,List.getElem_cons_succ,List.setIfInBounds_toArray,List.set_cons_zero,List.set_cons_succ]
 refine wpAnyH_take (i:=11) (v:=?v11) rfl (by kernel_rfl) (by kernel_rfl) (by kernel_rfl) (fun _ _ _ h=>h) (Or.inl ⟨rfl,?h11⟩) (by assumption) ?_
 case h11=>(intro W hSw;(try dsimp only at hSw);simp only[List.getElem_toArray,List.getElem_cons_zero,List.getElem_cons_succ];go_simp;try with_reducible rfl)
 simp only[Act.put,List.getElem_toArray,List.getElem_cons_zero,List.getElem_cons_succ,List.setIfInBounds_toArray,List.set_cons_zero,List.set_cons_succ]
 refine wpAnyH_take (i:=12) (v:=?v12) rfl (by kernel_rfl) (by kernel_rfl) (by kernel_rfl) (fun _ _ _ h=>h) (Or.inl ⟨rfl,?h12⟩) (by assumption) ?_
 case h12=>(intro W hSw;(try dsimp only at hSw);simp only[List.getElem_toArray,List.getElem_cons_zero,List.getElem_cons_succ];go_simp;try with_reducible rfl)
 simp only[Act.put,List.getElem_toArray,List.getElem_cons_zero,List.getElem_cons_succ,List.setIfInBounds_toArray,List.set_cons_zero,List.set_cons_succ]
 refine wpAnyH_take (i:=13) (v:=?v13) rfl (by kernel_rfl) (by kernel_rfl) (by kernel_rfl) (fun _ _ _ h=>h) (Or.inl ⟨rfl,?h13⟩) (by assumption) ?_
 case h13=>(intro W hSw;(try dsimp only at hSw);simp only[List.getElem_toArray,List.getElem_cons_zero,List.getElem_cons_succ];go_simp;try with_reducible rfl)
 simp only[Act.put,List.getElem_toArray,List.getElem_cons_zero,List.getElem_cons_succ,List.setIfInBounds_toArray,List.set_cons_zero,List.set_cons_succ]
 refine wpAnyH_take (i:=14) (v:=?v14) rfl (by kernel_rfl) (by kernel_rfl) (by kernel_rfl) (fun _ _ _ h=>h) (Or.inl ⟨rfl,?h14⟩) (by assumption) ?_
 case h14=>(intro W hSw;(try dsimp only at hSw);simp only[List.getElem_toArray,List.getElem_cons_zero,List.getElem_cons_succ];go_simp;try with_reducible rfl)
 simp only[Act.put,List.getElem_toArray,List.getElem_cons_zero,List.getElem_cons_succ,List.setIfInBounds_toArray,List.set_cons_zero,List.set_cons_succ]
 refine wpAnyH_take (i:=15) (v:=?v15) rfl (by kernel_rfl) (by kernel_rfl) (by kernel_rfl) (fun _ _ _ h=>h) (Or.inl ⟨rfl,?h15⟩) (by assumption) ?_
 case h15=>(intro W hSw;(try dsimp only at hSw);simp only[List.getElem_toArray,List.getElem_cons_zero,List.getElem_cons_succ];go_simp;try with_reducible rfl)
 simp only[Act.put,List.getElem_toArray,List.getElem_cons_zero,List.getElem_cons_succ,List.setIfInBounds_toArray,List.set_cons_zero,List.set_cons_succ]
 refine wpAnyH_take (i:=16) rfl (by kernel_rfl) (by kernel_rfl) (by kernel_rfl) (fun _ _ _ h=>h) (Or.inr ⟨rfl,rfl⟩) (by assumption) ?_
 simp only[Act.put,List.getElem_toArray,List.getElem_cons_zero,List.getElem_cons_succ,List.setIfInBounds_toArray,List.set_cons_zero,List.set_cons_succ]
 refine wpAnyH_take (i:=17) rfl (by kernel_rfl) (by kernel_rfl) (by kernel_rfl) (fun _ _ _ h=>h) (Or.inr ⟨rfl,rfl⟩) (by assumption) ?_
 simp only[Act.put,List.getElem_toArray,List.getElem_cons_zero,List.getElem_cons_succ,List.setIfInBounds_toArray,List.set_cons_zero,List.set_cons_succ]
 refine wpAnyH_take (i:=18) rfl (by kernel_rfl) (by kernel_rfl) (by kernel_rfl) (fun _ _ _ h=>h) (Or.inr ⟨rfl,rfl⟩) (by assumption) ?_
 simp only[Act.put,List.getElem_toArray,List.getElem_cons_zero,List.getElem_cons_succ,List.setIfInBounds_toArray,List.set_cons_zero,List.set_cons_succ]
 refine wpAnyH_take (i:=19) rfl (by kernel_rfl) (by kernel_rfl) (by kernel_rfl) (fun _ _ _ h=>h) (Or.inr ⟨rfl,rfl⟩) (by assumption) ?_
 simp only[Act.put,List.getElem_toArray,List.getElem_cons_zero,List.getElem_cons_succ,List.setIfInBounds_toArray,List.set_cons_zero,List.set_cons_succ]
 refine wpAnyH_take (i:=20) rfl (by kernel_rfl) (by kernel_rfl) (by kernel_rfl) (fun _ _ _ h=>h) (Or.inr ⟨rfl,rfl⟩) (by assumption) ?_
 simp only[Act.put,List.getElem_toArray,List.getElem_cons_zero,List.getElem_cons_succ,List.setIfInBounds_toArray,List.set_cons_zero,List.set_cons_succ]
 refine wpAnyH_take (i:=21) rfl (by kernel_rfl) (by kernel_rfl) (by kernel_rfl) (fun _ _ _ h=>h) (Or.inr ⟨rfl,rfl⟩) (by assumption) ?_
 simp only[Act.put,List.getElem_toArray,List.getElem_cons_zero,List.getElem_cons_succ,List.setIfInBounds_toArray,List.set_cons_zero,List.set_cons_succ]
 refine wpAnyH_take (i:=22) (v:=?v22) rfl (by kernel_rfl) (by kernel_rfl) (by kernel_rfl) (fun _ _ _ h=>h) (Or.inl ⟨rfl,?h22⟩) (by assumption) ?_
 case h22=>(intro W hSw;(try dsimp only at hSw);simp only[List.getElem_toArray,List.getElem_cons_zero,List.getElem_cons_succ];go_simp;try with_reducible rfl)
 simp only[Act.put,List.getElem_toArray,List.getElem_cons_zero,List.getElem_cons_succ,List.setIfInBounds_toArray,List.set_cons_zero,List.set_cons_succ]
 refine wpAnyH_take (i:=23) (v:=?v23) rfl (by kernel_rfl) (by kernel_rfl) (by kernel_rfl) (fun _ _ _ h=>h) (Or.inl ⟨rfl,?h23⟩) (by assumption) ?_
 case h23=>(intro W hSw;(try dsimp only at hSw);simp only[List.getElem_toArray,List.getElem_cons_zero,List.getElem_cons_succ];go_simp;try with_reducible rfl)
 simp only[Act.put,List.getElem_toArray,List.getElem_cons_zero,List.getElem_cons_succ,List.setIfInBounds_toArray,List.set_cons_zero,List.set_cons_succ]
 refine wpAnyH_take (i:=24) (v:=?v24) rfl (by kernel_rfl) (by kernel_rfl) (by kernel_rfl) (fun _ _ _ h=>h) (Or.inl ⟨rfl,?h24⟩) (by assumption) ?_
 case h24=>(intro W hSw;(try dsimp only at hSw);simp only[List.getElem_toArray,List.getElem_cons_zero,List.getElem_cons_succ];go_simp;try with_reducible rfl)
 simp only[Act.put,List.getElem_toArray,List.getElem_cons_zero,List.getElem_cons_succ,List.setIfInBounds_toArray,List.set_cons_zero,List.set_cons_succ]
 refine wpAnyH_take (i:=25) (v:=?v25) rfl (by kernel_rfl) (by kernel_rfl) (by kernel_rfl) (fun _ _ _ h=>h) (Or.inl ⟨rfl,?h25⟩) (by assumption) ?_
 case h25=>(intro W hSw;(try dsimp only at hSw);simp only[List.getElem_toArray,List.getElem_cons_zero,List.getElem_cons_succ];go_simp;try with_reducible rfl)
 simp only[Act.put,List.getElem_toArray,List.getElem_cons_zero,List.getElem_cons_succ,List.setIfInBounds_toArray,List.set_cons_zero,List.set_cons_succ]
 refine wpAnyH_take (i:=26) (v:=?v26) rfl (by kernel_rfl) (by kernel_rfl) (by kernel_rfl) (fun _ _ _ h=>h) (Or.inl ⟨rfl,?h26⟩) (by assumption) ?_
 case h26=>(intro W hSw;(try dsimp only at hSw);simp only[List.getElem_toArray,List.getElem_cons_zero,List.getElem_cons_succ];go_simp;try with_reducible rfl)
 simp only[Act.put,List.getElem_toArray,List.getElem_cons_zero,List.getElem_cons_succ,List.setIfInBounds_toArray,List.set_cons_zero,List.set_cons_succ]
 refine wpAnyH_take (i:=27) (v:=?v27) rfl (by kernel_rfl) (by kernel_rfl) (by kernel_rfl) (fun _ _ _ h=>h) (Or.inl ⟨rfl,?h27⟩) (by assumption) ?_
 case h27=>(intro W hSw;(try dsimp only at hSw);simp only[List.getElem_toArray,List.getElem_cons_zero,List.getElem_cons_succ];go_simp;try with_reducible rfl)
 simp only[Act.put,List.getElem_toArray,List.getElem_cons_zero,List.getElem_cons_succ,List.setIfInBounds_toArray,List.set_cons_zero,List.set_cons_succ]
 refine wpAnyH_take (i:=28) (v:=?v28) rfl (by kernel_rfl) (by kernel_rfl) (by kernel_rfl) (fun _ _ _ h=>h) (Or.inl ⟨rfl,?h28⟩) (by assumption) ?_
 case h28=>(intro W hSw;(try dsimp only at hSw);simp only[List.getElem_toArray,List.getElem_cons_zero,List.getElem_cons_succ];go_simp;try with_reducible rfl)
 simp only[Act.put,List.getElem_toArray,List.getElem_cons_zero,List.getElem_cons_succ,List.setIfInBounds_toArray,List.set_cons_zero,List.set_cons_succ]
 refine wpAnyH_take (i:=29) rfl (by kernel_rfl) (by kernel_rfl) (by kernel_rfl) (fun _ _ _ h=>h) (Or.inr ⟨rfl,rfl⟩) (by assumption) ?_
 simp only[Act.put,List.getElem_toArray,List.getElem_cons_zero,List.getElem_cons_succ,List.setIfInBounds_toArray,List.set_cons_zero,List.set_cons_succ]
 refine wpAnyH_take (i:=30) rfl (by kernel_rfl) (by kernel_rfl) (by kernel_rfl) (fun _ _ _ h=>h) (Or.inr ⟨rfl,rfl⟩) (by assumption) ?_
 simp only[Act.put,List.getElem_toArray,List.getElem_cons_zero,List.getElem_cons_succ,List.setIfInBounds_toArray,List.set_cons_zero,List.set_cons_succ]
 refine wpAnyH_take (i:=31) rfl (by kernel_rfl) (by kernel_rfl) (by kernel_rfl) (fun _ _ _ h=>h) (Or.inr ⟨rfl,rfl⟩) (by assumption) ?_
 simp only[Act.put,List.getElem_toArray,List.getElem_cons_zero,List.getElem_cons_succ,List.setIfInBounds_toArray,List.set_cons_zero,List.set_cons_succ]
 refine wpAnyH_take (i:=32) rfl (by kernel_rfl) (by kernel_rfl) (by kernel_rfl) (fun _ _ _ h=>h) (Or.inr ⟨rfl,rfl⟩) (by assumption) ?_
 simp only[Act.put,List.getElem_toArray,List.getElem_cons_zero,List.getElem_cons_succ,List.setIfInBounds_toArray,List.set_cons_zero,List.set_cons_succ]
 refine wpAnyH_take (i:=33) rfl (by kernel_rfl) (by kernel_rfl) (by kernel_rfl) (fun _ _ _ h=>h) (Or.inr ⟨rfl,rfl⟩) (by assumption) ?_
 simp only[Act.put,List.getElem_toArray,List.getElem_cons_zero,List.getElem_cons_succ,List.setIfInBounds_toArray,List.set_cons_zero,List.set_cons_succ]
 refine wpAnyH_take (i:=34) rfl (by kernel_rfl) (by kernel_rfl) (by kernel_rfl) (fun _ _ _ h=>h) (Or.inr ⟨rfl,rfl⟩) (by assumption) ?_
 simp only[Act.put,List.getElem_toArray,List.getElem_cons_zero,List.getElem_cons_succ,List.setIfInBounds_toArray,List.set_cons_zero,List.set_cons_succ]
 refine wpAnyH_take (i:=35) rfl (by kernel_rfl) (by kernel_rfl) (by kernel_rfl) (fun _ _ _ h=>h) (Or.inr ⟨rfl,rfl⟩) (by assumption) ?_
 simp only[Act.put,List.getElem_toArray,List.getElem_cons_zero,List.getElem_cons_succ,List.setIfInBounds_toArray,List.set_cons_zero,List.set_cons_succ]
 refine wpAnyH_take (i:=36) rfl (by kernel_rfl) (by kernel_rfl) (by kernel_rfl) (fun _ _ _ h=>h) (Or.inr ⟨rfl,rfl⟩) (by assumption) ?_
 simp only[Act.put,List.getElem_toArray,List.getElem_cons_zero,List.getElem_cons_succ,List.setIfInBounds_toArray,List.set_cons_zero,List.set_cons_succ]
 refine wpAnyH_take (i:=37) (v:=?v37) rfl (by kernel_rfl) (by kernel_rfl) (by kernel_rfl) (fun _ _ _ h=>h) (Or.inl ⟨rfl,?h37⟩) (by assumption) ?_
 case h37=>(intro W hSw;(try dsimp only at hSw);simp only[List.getElem_toArray,List.getElem_cons_zero,List.getElem_cons_succ];go_simp;try with_reducible rfl)
 simp only[Act.put,List.getElem_toArray,List.getElem_cons_zero,List.getElem_cons_succ,List.setIfInBounds_toArray,List.set_cons_zero,List.set_cons_succ]
 refine wpAnyH_take (i:=38) (v:=?v38) rfl (by kernel_rfl) (by kernel_rfl) (by kernel_rfl) (fun _ _ _ h=>h) (Or.inl ⟨rfl,?h38⟩) (by assumption) ?_
 case h38=>(intro W hSw;(try dsimp only at hSw);simp only[List.getElem_toArray,List.getElem_cons_zero,List.getElem_cons_succ];go_simp;try with_reducible rfl)
 simp only[Act.put,List.getElem_toArray,List.getElem_cons_zero,List.getElem_cons_succ,List.setIfInBounds_toArray,List.set_cons_zero,List.set_cons_succ]
 refine wpAnyH_done (by kernel_rfl) ?_ _
 have hb1:=(HB1.out ()).next hf3 id
 have hb2:=(HB2.out ()).next hf3 id
 have H1:=hqZ (fun(_:Unit)=>(HT1.out ()).trans hf3)
 have d5:=hb1.cell 10 _ rfl
 clear hf3 hb1 hb2 hHeld hHeld2 SK HV HB1 HB2 HT1
 go_wp2_with fail
 go_loopg [5] 0 (fun k v wr=>v = .int .i64 0/\wr=w2)
 case atStart=>exact⟨rfl,rfl⟩
 case round =>
  obtain⟨rfl,rfl⟩:=hrel
  go_wp2_with fail
  go_ret
  exact⟨rfl,H1.out ()⟩
theorem mU(w:World)(n:Int)(A B C:Option Addr)(a a2 b b2 c:Nat):Calls Tryz.prog 24 #[.agg #[.int .i64 1,.string ⟨#[]⟩,.int .i64 2,.int .i64 n,.string ⟨#[]⟩,.string ⟨#[]⟩,.slice none 0 0,.slice none 0 0,.slice A a a2,.slice B b b2,.slice C 0 c]] w fun e w'=>e = .returned (.agg #[.int .i64 1,.string ⟨#[]⟩,.int .i64 2,.int .i64 n,.string ⟨#[]⟩,.string ⟨#[]⟩,.slice none 0 0,.slice none 0 0,.slice A a a2,.slice B b b2,.slice none 0 0])/\New w w':=by
 have T0:=hqZ (Fr.refl (fun _=>False) w)
 go_enter Tryz.func24,Tryz.ntmps24
 go_wp2_with fail
 go_loopg [4] 0 (fun k v wr=>v = .int .i64 0/\Fr (fun _=>False) w wr/\Blk wr w.heap.size #[.int .i64 1,.string ⟨#[]⟩,.int .i64 2,.int .i64 n,.string ⟨#[]⟩,.string ⟨#[]⟩,.slice none 0 0,.slice none 0 0,.slice A a a2,.slice B b b2,.slice C 0 c] 30/\Blk wr (w.heap.size+1) #[.int .i64 0,.string ⟨#[]⟩,.int .i64 0,.int .i64 0,.string ⟨#[]⟩,.string ⟨#[]⟩,.slice none 0 0,.slice none 0 0,.slice none 0 0,.slice none 0 0,.slice none 0 0] 30/\Blk wr (w.heap.size+1+1) #[.int .i64 1,.string ⟨#[]⟩,.int .i64 2,.int .i64 n,.string ⟨#[]⟩,.string ⟨#[]⟩,.slice none 0 0,.slice none 0 0,.slice A a a2,.slice B b b2,.slice none 0 0] 30)
 case atStart=>exact⟨rfl,by exact(((T0.out.alloc _).alloc _).alloc _),by exact(((Blk.at_ _ _ _ (n:=w.heap.size) rfl).alloc _).alloc _),by exact((Blk.at_ _ _ _ (n:=w.heap.size+1) (by simp only[aa,ae,ad,af])).alloc _),by exact(Blk.at_ _ _ _ (n:=w.heap.size+1+1) (by simp only[aa,ae,ad,af]))⟩
 case round =>
  obtain⟨rfl,hf,hb1,hb2,hb3⟩:=hrel
  (clear T0;have H0:=hqZ hf;have xs0:=Fr.size H0.out;clear hf;have H1:=hqZ hb1;obtain⟨xk0,xl0⟩:=Blk.k11 H1.out;clear hb1;have H2:=hqZ hb2;obtain⟨xk11,xl1⟩:=Blk.k11 H2.out;clear hb2;have H3:=hqZ hb3;obtain⟨xk22,xl2⟩:=Blk.k11 H3.out;clear hb3)
  go_wp2_with fail
  refine bodyPost_ret (v:=(.agg #[.int .i64 1,.string ⟨#[]⟩,.int .i64 2,.int .i64 n,.string ⟨#[]⟩,.string ⟨#[]⟩,.slice none 0 0,.slice none 0 0,.slice A a a2,.slice B b b2,.slice none 0 0])) (by simp only[results,Tryz.results24];go_simp) rfl ?_
  exact⟨rfl,by exact(((((((((((H0.out.set (.inr (by omega))).set (.inr (by omega))).set (.inr (by omega))).set (.inr (by omega))).set (.inr (by omega))).set (.inr (by omega))).set (.inr (by omega))).set (.inr (by omega))).set (.inr (by omega))).set (.inr (by omega))).set (.inr (by omega)))⟩
theorem gd(w:World)(n:Int)(A B C A' B' C':Option Addr)(a a2 b b2 c a' a2' b' b2' c':Nat):Calls Tryz.prog 10 #[.agg #[.int .i64 1,.string ⟨#[]⟩,.int .i64 2,.int .i64 n,.string ⟨#[]⟩,.string ⟨#[]⟩,.slice none 0 0,.slice none 0 0,.slice A a a2,.slice B b b2,.slice C 0 c],.agg #[.int .i64 1,.string ⟨#[]⟩,.int .i64 2,.int .i64 n,.string ⟨#[]⟩,.string ⟨#[]⟩,.slice none 0 0,.slice none 0 0,.slice A' a' a2',.slice B' b' b2',.slice C' 0 c']] w fun e w'=>e = .returned (.bool true)/\New w w':=by
 have T0:=hqZ (Fr.refl (fun _=>False) w)
 have HL:=hqZ (fun W=>mU W n A B C a a2 b b2 c)
 have HL2:=hqZ (fun W=>mU W n A' B' C' a' a2' b' b2' c')
 have HS:=hqZ (fun W=>mr W n A B none A' B' none a a2 b b2 0 a' a2' b' b2' 0)
 go_enter Tryz.func10,Tryz.ntmps10
 have hb1:Blk ((w.alloc (.cells #[.int .i64 1,.string ⟨#[]⟩,.int .i64 2,.int .i64 n,.string ⟨#[]⟩,.string ⟨#[]⟩,.slice none 0 0,.slice none 0 0,.slice A a a2,.slice B b b2,.slice C 0 c] 30)).alloc (.cells #[.int .i64 1,.string ⟨#[]⟩,.int .i64 2,.int .i64 n,.string ⟨#[]⟩,.string ⟨#[]⟩,.slice none 0 0,.slice none 0 0,.slice A' a' a2',.slice B' b' b2',.slice C' 0 c'] 30)) w.heap.size #[.int .i64 1,.string ⟨#[]⟩,.int .i64 2,.int .i64 n,.string ⟨#[]⟩,.string ⟨#[]⟩,.slice none 0 0,.slice none 0 0,.slice A a a2,.slice B b b2,.slice C 0 c] 30:=by exact((Blk.at_ _ _ _ (n:=w.heap.size) rfl).alloc _)
 have hb2:Blk ((w.alloc (.cells #[.int .i64 1,.string ⟨#[]⟩,.int .i64 2,.int .i64 n,.string ⟨#[]⟩,.string ⟨#[]⟩,.slice none 0 0,.slice none 0 0,.slice A a a2,.slice B b b2,.slice C 0 c] 30)).alloc (.cells #[.int .i64 1,.string ⟨#[]⟩,.int .i64 2,.int .i64 n,.string ⟨#[]⟩,.string ⟨#[]⟩,.slice none 0 0,.slice none 0 0,.slice A' a' a2',.slice B' b' b2',.slice C' 0 c'] 30)) (w.heap.size+1) #[.int .i64 1,.string ⟨#[]⟩,.int .i64 2,.int .i64 n,.string ⟨#[]⟩,.string ⟨#[]⟩,.slice none 0 0,.slice none 0 0,.slice A' a' a2',.slice B' b' b2',.slice C' 0 c'] 30:=by exact(Blk.at_ _ _ _ (n:=w.heap.size+1) (by simp only[aa,ae,ad,af]))
 have SK:=hqZ (show ∀ W,Fr (fun _=>False) ((w.alloc (.cells #[.int .i64 1,.string ⟨#[]⟩,.int .i64 2,.int .i64 n,.string ⟨#[]⟩,.string ⟨#[]⟩,.slice none 0 0,.slice none 0 0,.slice A a a2,.slice B b b2,.slice C 0 c] 30)).alloc (.cells #[.int .i64 1,.string ⟨#[]⟩,.int .i64 2,.int .i64 n,.string ⟨#[]⟩,.string ⟨#[]⟩,.slice none 0 0,.slice none 0 0,.slice A' a' a2',.slice B' b' b2',.slice C' 0 c'] 30)) W->(W.cell? ⟨w.heap.size,0,none⟩=some (.int .i64 1)/\W.cell? ⟨w.heap.size,1,none⟩=some (.string ⟨#[]⟩)/\W.cell? ⟨w.heap.size,2,none⟩=some (.int .i64 2)/\W.cell? ⟨w.heap.size,3,none⟩=some (.int .i64 n)/\W.cell? ⟨w.heap.size,4,none⟩=some (.string ⟨#[]⟩)/\W.cell? ⟨w.heap.size,5,none⟩=some (.string ⟨#[]⟩)/\W.cell? ⟨w.heap.size,6,none⟩=some (.slice none 0 0)/\W.cell? ⟨w.heap.size,7,none⟩=some (.slice none 0 0)/\W.cell? ⟨w.heap.size,8,none⟩=some (.slice A a a2)/\W.cell? ⟨w.heap.size,9,none⟩=some (.slice B b b2)/\W.cell? ⟨w.heap.size,10,none⟩=some (.slice C 0 c)/\W.cell? ⟨w.heap.size+1,0,none⟩=some (.int .i64 1)/\W.cell? ⟨w.heap.size+1,1,none⟩=some (.string ⟨#[]⟩)/\W.cell? ⟨w.heap.size+1,2,none⟩=some (.int .i64 2)/\W.cell? ⟨w.heap.size+1,3,none⟩=some (.int .i64 n)/\W.cell? ⟨w.heap.size+1,4,none⟩=some (.string ⟨#[]⟩)/\W.cell? ⟨w.heap.size+1,5,none⟩=some (.string ⟨#[]⟩)/\W.cell? ⟨w.heap.size+1,6,none⟩=some (.slice none 0 0)/\W.cell? ⟨w.heap.size+1,7,none⟩=some (.slice none 0 0)/\W.cell? ⟨w.heap.size+1,8,none⟩=some (.slice A' a' a2')/\W.cell? ⟨w.heap.size+1,9,none⟩=some (.slice B' b' b2')/\W.cell? ⟨w.heap.size+1,10,none⟩=some (.slice C' 0 c'))from fun W hf=>⟨(hb1.next hf id).cell 0 _ rfl,(hb1.next hf id).cell 1 _ rfl,(hb1.next hf id).cell 2 _ rfl,(hb1.next hf id).cell 3 _ rfl,(hb1.next hf id).cell 4 _ rfl,(hb1.next hf id).cell 5 _ rfl,(hb1.next hf id).cell 6 _ rfl,(hb1.next hf id).cell 7 _ rfl,(hb1.next hf id).cell 8 _ rfl,(hb1.next hf id).cell 9 _ rfl,(hb1.next hf id).cell 10 _ rfl,(hb2.next hf id).cell 0 _ rfl,(hb2.next hf id).cell 1 _ rfl,(hb2.next hf id).cell 2 _ rfl,(hb2.next hf id).cell 3 _ rfl,(hb2.next hf id).cell 4 _ rfl,(hb2.next hf id).cell 5 _ rfl,(hb2.next hf id).cell 6 _ rfl,(hb2.next hf id).cell 7 _ rfl,(hb2.next hf id).cell 8 _ rfl,(hb2.next hf id).cell 9 _ rfl,(hb2.next hf id).cell 10 _ rfl⟩)
 clear hb1 hb2
 go_wp2_with fail
 go_region_held3 (fun w'=>w'.cell? ⟨w.heap.size,0,none⟩=some (.int .i64 1)/\w'.cell? ⟨w.heap.size,1,none⟩=some (.string ⟨#[]⟩)/\w'.cell? ⟨w.heap.size,2,none⟩=some (.int .i64 2)/\w'.cell? ⟨w.heap.size,3,none⟩=some (.int .i64 n)/\w'.cell? ⟨w.heap.size,4,none⟩=some (.string ⟨#[]⟩)/\w'.cell? ⟨w.heap.size,5,none⟩=some (.string ⟨#[]⟩)/\w'.cell? ⟨w.heap.size,6,none⟩=some (.slice none 0 0)/\w'.cell? ⟨w.heap.size,7,none⟩=some (.slice none 0 0)/\w'.cell? ⟨w.heap.size,8,none⟩=some (.slice A a a2)/\w'.cell? ⟨w.heap.size,9,none⟩=some (.slice B b b2)/\w'.cell? ⟨w.heap.size,10,none⟩=some (.slice C 0 c)/\w'.cell? ⟨w.heap.size+1,0,none⟩=some (.int .i64 1)/\w'.cell? ⟨w.heap.size+1,1,none⟩=some (.string ⟨#[]⟩)/\w'.cell? ⟨w.heap.size+1,2,none⟩=some (.int .i64 2)/\w'.cell? ⟨w.heap.size+1,3,none⟩=some (.int .i64 n)/\w'.cell? ⟨w.heap.size+1,4,none⟩=some (.string ⟨#[]⟩)/\w'.cell? ⟨w.heap.size+1,5,none⟩=some (.string ⟨#[]⟩)/\w'.cell? ⟨w.heap.size+1,6,none⟩=some (.slice none 0 0)/\w'.cell? ⟨w.heap.size+1,7,none⟩=some (.slice none 0 0)/\w'.cell? ⟨w.heap.size+1,8,none⟩=some (.slice A' a' a2')/\w'.cell? ⟨w.heap.size+1,9,none⟩=some (.slice B' b' b2')/\w'.cell? ⟨w.heap.size+1,10,none⟩=some (.slice C' 0 c')) (exact SK.out _ (by(repeat' (with_reducible(first|assumption|exact Fr.refl _ _|apply Fr.drew|apply Fr.alloc))))) (first|(go_at_call 24;first|(with_reducible refine(HL.out _).mono ?_;rintro e wp ⟨rfl,hf2⟩;have hfp:Fr (fun _=>False) ((w.alloc (.cells #[.int .i64 1,.string ⟨#[]⟩,.int .i64 2,.int .i64 n,.string ⟨#[]⟩,.string ⟨#[]⟩,.slice none 0 0,.slice none 0 0,.slice A a a2,.slice B b b2,.slice C 0 c] 30)).alloc (.cells #[.int .i64 1,.string ⟨#[]⟩,.int .i64 2,.int .i64 n,.string ⟨#[]⟩,.string ⟨#[]⟩,.slice none 0 0,.slice none 0 0,.slice A' a' a2',.slice B' b' b2',.slice C' 0 c'] 30)) wp:=Fr.trans (by(repeat' (with_reducible(first|assumption|exact Fr.refl _ _|apply Fr.drew|apply Fr.alloc)))) hf2;clear hf2)|(with_reducible refine(HL2.out _).mono ?_;rintro e wq ⟨rfl,hf2⟩;have hfq:Fr (fun _=>False) ((w.alloc (.cells #[.int .i64 1,.string ⟨#[]⟩,.int .i64 2,.int .i64 n,.string ⟨#[]⟩,.string ⟨#[]⟩,.slice none 0 0,.slice none 0 0,.slice A a a2,.slice B b b2,.slice C 0 c] 30)).alloc (.cells #[.int .i64 1,.string ⟨#[]⟩,.int .i64 2,.int .i64 n,.string ⟨#[]⟩,.string ⟨#[]⟩,.slice none 0 0,.slice none 0 0,.slice A' a' a2',.slice B' b' b2',.slice C' 0 c'] 30)) wq:=Fr.trans (by(repeat' (with_reducible(first|assumption|exact Fr.refl _ _|apply Fr.drew|apply Fr.alloc)))) hf2;clear hf2))|(go_at_call 15;with_reducible refine(HS.out _).mono ?_;rintro e ws ⟨rfl,hf2⟩;have hfs:Fr (fun _=>False) ((w.alloc (.cells #[.int .i64 1,.string ⟨#[]⟩,.int .i64 2,.int .i64 n,.string ⟨#[]⟩,.string ⟨#[]⟩,.slice none 0 0,.slice none 0 0,.slice A a a2,.slice B b b2,.slice C 0 c] 30)).alloc (.cells #[.int .i64 1,.string ⟨#[]⟩,.int .i64 2,.int .i64 n,.string ⟨#[]⟩,.string ⟨#[]⟩,.slice none 0 0,.slice none 0 0,.slice A' a' a2',.slice B' b' b2',.slice C' 0 c'] 30)) ws:=Fr.trans (by(repeat' (with_reducible(first|assumption|exact Fr.refl _ _|apply Fr.drew|apply Fr.alloc)))) hf2;clear hf2))
 all_goals
  go_wp2_with fail
  go_ret
  exact⟨rfl,Fr.trans ((Fr.r.alloc _).alloc _) hfs⟩
theorem ox(w:World)(n:Nat)(hn:n < 2 ^ 64)(hg:Glob w)(heo:EofV w)(h15:15<=w.heap.size) :
  Calls Tryz.prog 3 #[.int .u64 n,.bool false] w fun e w'=>e = .returned (.bool true)/\New w w':=by
 have hl:(decN n).length<=20:=gz 20 n
 have q1:¬ (9223372036854775807:Nat) < 1+(decN n).length:=by omega
 obtain⟨m,hm⟩:∃ m,wrap64 (n:Int)=m:=⟨_,rfl⟩
 obtain⟨m2,hm2⟩:∃ m2,wrap64 (-m)=m2:=⟨_,rfl⟩
 have HM:=hqZ hm
 have HM2:=hqZ hm2
 have T0:=hqZ (Fr.refl (fun _=>False) w)
 have HG:=hqZ hg
 have HE:=hqZ heo
 have HI:=hqZ (show ∀ W,Glob W->EofV W->15<=W.heap.size->Calls Tryz.prog 9 #[.string ⟨(decN n).toArray⟩] W fun e w'=>INL (bK n false) e/\New W w' from fun W h1 h2 h3=>hQ W n hn false h1 h2 h3)
 clear hg heo
 have hcs:n < 9223372036854775808\/n=9223372036854775808\/9223372036854775808 < n:=by omega
 rcases hcs with hc|hc|hc
 .have hr:bK n false=some (n:Int):=by unfold bK;rw[if_neg (by simp;omega)];rfl
  have c2:¬ (9223372036854775808:Int) < (n:Int):=by omega
  have c3:((n:Int) == 9223372036854775808)=false:=by simp;omega
  rw[hr]at HI
  obtain⟨v,hv⟩:∃ v:Int,v=(n:Int):=⟨_,rfl⟩
  rw[<- hv]at HI
  have hvm:m=v:=by rw[hv,<- HM.out];unfold wrap64;omega
  rw[hvm]at hm
  clear hr hv hc HM HM2
  go_enter Tryz.func3,Tryz.ntmps3
  (go_wp2_with fail;refine(dc _ n hn).mono ?_;rintro e w1 ⟨rfl,hf⟩;(have xs0:=Fr.size hf;have T1:=hqZ (Fr.transN T0.out hf);clear T0;clear hf))
  (go_wp2_with fail;refine(HI.out _ (HG.out.frN (by exact T1.out)) (HE.out.next (by exact T1.out:Fr (fun _=>False) w _) (fun _ _ h=>h)) (by first|omega|(simp only[ae];omega))).mono ?_;rintro e w2 ⟨⟨A,B,C,a,a2,b,b2,c,rfl⟩,hf⟩;(have xs2:=Fr.size hf;have T0:=hqZ (Fr.transN T1.out hf);clear T1;clear hf))
  (go_wp2_with fail;refine(gd _ v A B C none none none a a2 b b2 c 0 0 0 0 0).mono ?_;rintro e w3 ⟨rfl,hf⟩;(have xs4:=Fr.size hf;simp only[aa,ae,ad,af]at xs4;have T1:=hqZ (Fr.transN (T0.out.alloc _) hf);clear T0;have B0:=hqZ (Blk.next (Blk.at_ _ _ _ (n:=w2.heap.size) rfl) hf id);obtain⟨xk0,xl0⟩:=Blk.k11 B0.out;clear hf))
  go_wp2_with fail
  go_ret
  exact⟨rfl,by exact T1.out⟩
 .have hr:bK n false=none:=by unfold bK;rw[if_pos (by simp;omega)]
  have c2:¬ (9223372036854775808:Int) < (n:Int):=by omega
  have c3:((n:Int) == 9223372036854775808)=true:=by simp;omega
  rw[hr]at HI
  clear hr hc HM HM2
  go_enter Tryz.func3,Tryz.ntmps3
  (go_wp2_with fail;refine(dc _ n hn).mono ?_;rintro e w1 ⟨rfl,hf⟩;(have xs0:=Fr.size hf;have T1:=hqZ (Fr.transN T0.out hf);clear T0;clear hf))
  (go_wp2_with fail;refine(HI.out _ (HG.out.frN (by exact T1.out)) (HE.out.next (by exact T1.out:Fr (fun _=>False) w _) (fun _ _ h=>h)) (by first|omega|(simp only[ae];omega))).mono ?_;rintro e w2 ⟨he,hf⟩;(have xs2:=Fr.size hf;have T0:=hqZ (Fr.transN T1.out hf);clear T1;clear hf))
  obtain rfl:=he
  go_wp2_with fail
  go_ret
  exact⟨rfl,by exact(T0.out.alloc _)⟩
 .have hr:bK n false=none:=by unfold bK;rw[if_pos (by simp;omega)]
  have c2:(9223372036854775808:Int) < (n:Int):=by omega
  rw[hr]at HI
  clear hr hc HM HM2
  go_enter Tryz.func3,Tryz.ntmps3
  (go_wp2_with fail;refine(dc _ n hn).mono ?_;rintro e w1 ⟨rfl,hf⟩;(have xs0:=Fr.size hf;have T1:=hqZ (Fr.transN T0.out hf);clear T0;clear hf))
  (go_wp2_with fail;refine(HI.out _ (HG.out.frN (by exact T1.out)) (HE.out.next (by exact T1.out:Fr (fun _=>False) w _) (fun _ _ h=>h)) (by first|omega|(simp only[ae];omega))).mono ?_;rintro e w2 ⟨he,hf⟩;(have xs2:=Fr.size hf;have T0:=hqZ (Fr.transN T1.out hf);clear T1;clear hf))
  obtain rfl:=he
  go_wp2_with fail
  go_ret
  exact⟨rfl,by exact(T0.out.alloc _)⟩
theorem oy(w:World)(n:Nat)(hn:n < 2 ^ 64)(hg:Glob w)(heo:EofV w)(h15:15<=w.heap.size) :
  Calls Tryz.prog 3 #[.int .u64 n,.bool true] w fun e w'=>e = .returned (.bool true)/\New w w':=by
 have hl:(decN n).length<=20:=gz 20 n
 have q1:¬ (9223372036854775807:Nat) < 1+(decN n).length:=by omega
 obtain⟨m,hm⟩:∃ m,wrap64 (n:Int)=m:=⟨_,rfl⟩
 obtain⟨m2,hm2⟩:∃ m2,wrap64 (-m)=m2:=⟨_,rfl⟩
 have HM:=hqZ hm
 have HM2:=hqZ hm2
 have T0:=hqZ (Fr.refl (fun _=>False) w)
 have HG:=hqZ hg
 have HE:=hqZ heo
 have HI:=hqZ (show ∀ W,Glob W->EofV W->15<=W.heap.size->Calls Tryz.prog 9 #[.string (⟨#[45]⟩++⟨(decN n).toArray⟩:ByteArray)] W fun e w'=>INL (bK n true) e/\New W w' from fun W h1 h2 h3=>by rw[show((⟨#[45]⟩++⟨(decN n).toArray⟩:ByteArray))=⟨(numB n true).toArray⟩from by apply ByteArray.ext;simp[numB]];exact hQ W n hn true h1 h2 h3)
 clear hg heo
 have hcs:n < 9223372036854775808\/n=9223372036854775808\/9223372036854775808 < n:=by omega
 rcases hcs with hc|hc|hc
 .have hr:bK n true=some (-(n:Int)):=by unfold bK;rw[if_neg (by simp;omega)];rfl
  have c2:¬ (9223372036854775808:Int) < (n:Int):=by omega
  have c3:((n:Int) == 9223372036854775808)=false:=by simp;omega
  rw[hr]at HI
  obtain⟨v,hv⟩:∃ v:Int,v=(-(n:Int)):=⟨_,rfl⟩
  rw[<- hv]at HI
  have hvm:m2=v:=by rw[hv,<- HM2.out,<- HM.out];unfold wrap64;omega
  rw[hvm]at hm2
  clear hr hv hc HM HM2
  go_enter Tryz.func3,Tryz.ntmps3
  (go_wp2_with fail;refine(dc _ n hn).mono ?_;rintro e w1 ⟨rfl,hf⟩;(have xs0:=Fr.size hf;have T1:=hqZ (Fr.transN T0.out hf);clear T0;clear hf))
  (go_wp2_with fail;refine(HI.out _ (HG.out.frN (by exact T1.out)) (HE.out.next (by exact T1.out:Fr (fun _=>False) w _) (fun _ _ h=>h)) (by first|omega|(simp only[ae];omega))).mono ?_;rintro e w2 ⟨⟨A,B,C,a,a2,b,b2,c,rfl⟩,hf⟩;(have xs2:=Fr.size hf;have T0:=hqZ (Fr.transN T1.out hf);clear T1;clear hf))
  (go_wp2_with fail;refine(gd _ v A B C none none none a a2 b b2 c 0 0 0 0 0).mono ?_;rintro e w3 ⟨rfl,hf⟩;(have xs4:=Fr.size hf;simp only[aa,ae,ad,af]at xs4;have T1:=hqZ (Fr.transN (T0.out.alloc _) hf);clear T0;have B0:=hqZ (Blk.next (Blk.at_ _ _ _ (n:=w2.heap.size) rfl) hf id);obtain⟨xk0,xl0⟩:=Blk.k11 B0.out;clear hf))
  go_wp2_with fail
  go_ret
  exact⟨rfl,by exact T1.out⟩
 .have hr:bK n true=some (-(n:Int)):=by unfold bK;rw[if_neg (by simp;omega)];rfl
  have c2:¬ (9223372036854775808:Int) < (n:Int):=by omega
  have c3:((n:Int) == 9223372036854775808)=true:=by simp;omega
  rw[hr]at HI
  obtain⟨v,hv⟩:∃ v:Int,v=(-(n:Int)):=⟨_,rfl⟩
  rw[<- hv]at HI
  have hvm:m2=v:=by rw[hv,<- HM2.out,<- HM.out];unfold wrap64;omega
  rw[hvm]at hm2
  clear hr hv hc HM HM2
  go_enter Tryz.func3,Tryz.ntmps3
  (go_wp2_with fail;refine(dc _ n hn).mono ?_;rintro e w1 ⟨rfl,hf⟩;(have xs0:=Fr.size hf;have T1:=hqZ (Fr.transN T0.out hf);clear T0;clear hf))
  (go_wp2_with fail;refine(HI.out _ (HG.out.frN (by exact T1.out)) (HE.out.next (by exact T1.out:Fr (fun _=>False) w _) (fun _ _ h=>h)) (by first|omega|(simp only[ae];omega))).mono ?_;rintro e w2 ⟨⟨A,B,C,a,a2,b,b2,c,rfl⟩,hf⟩;(have xs2:=Fr.size hf;have T0:=hqZ (Fr.transN T1.out hf);clear T1;clear hf))
  (go_wp2_with fail;refine(gd _ v A B C none none none a a2 b b2 c 0 0 0 0 0).mono ?_;rintro e w3 ⟨rfl,hf⟩;(have xs4:=Fr.size hf;simp only[aa,ae,ad,af]at xs4;have T1:=hqZ (Fr.transN (T0.out.alloc _) hf);clear T0;have B0:=hqZ (Blk.next (Blk.at_ _ _ _ (n:=w2.heap.size) rfl) hf id);obtain⟨xk0,xl0⟩:=Blk.k11 B0.out;clear hf))
  go_wp2_with fail
  go_ret
  exact⟨rfl,by exact T1.out⟩
 .have hr:bK n true=none:=by unfold bK;rw[if_pos (by simp;omega)]
  have c2:(9223372036854775808:Int) < (n:Int):=by omega
  rw[hr]at HI
  clear hr hc HM HM2
  go_enter Tryz.func3,Tryz.ntmps3
  (go_wp2_with fail;refine(dc _ n hn).mono ?_;rintro e w1 ⟨rfl,hf⟩;(have xs0:=Fr.size hf;have T1:=hqZ (Fr.transN T0.out hf);clear T0;clear hf))
  (go_wp2_with fail;refine(HI.out _ (HG.out.frN (by exact T1.out)) (HE.out.next (by exact T1.out:Fr (fun _=>False) w _) (fun _ _ h=>h)) (by first|omega|(simp only[ae];omega))).mono ?_;rintro e w2 ⟨he,hf⟩;(have xs2:=Fr.size hf;have T0:=hqZ (Fr.transN T1.out hf);clear T1;clear hf))
  obtain rfl:=he
  go_wp2_with fail
  go_ret
  exact⟨rfl,by exact(T0.out.alloc _)⟩
theorem oV(w:World)(n:Nat)(hn:n < 2 ^ 64)(minus:Bool)(hg:Glob w)(heo:EofV w)(h15:15<=w.heap.size) :
  Calls Tryz.prog 3 #[.int .u64 n,.bool minus] w fun e w'=>e = .returned (.bool true)/\New w w':=by
 cases minus
 .exact ox w n hn hg heo h15
 .exact oy w n hn hg heo h15
end Go.Proofs.YtbdhlpeckennjaaGreatDoor
