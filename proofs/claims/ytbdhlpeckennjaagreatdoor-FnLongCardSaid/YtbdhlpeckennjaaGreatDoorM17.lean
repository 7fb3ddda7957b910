/- FnLong (the proof that the law returns true for every input), part 17 of 52; the last part says what is proved, and its condition. -/
import Derived.Test.YtbdhlpeckennjaaGreatDoorM06
set_option linter.unusedVariables false
set_option linter.unusedSimpArgs false
set_option maxHeartbeats 80000000
set_option maxRecDepth 1000000
namespace Go.Proofs.YtbdhlpeckennjaaGreatDoor
open Go Go.RowKit
theorem jl(w:World)(pb tb:Nat)(ts:List Tok)(s:ByteArray)(f:Value)(A:Option Addr)(n cap:Nat)(h:PSt w pb tb ts)(hn:n ≠ 1) :
  Calls Tryz.prog 235 #[.pointer (some ⟨pb,0,none⟩),.string s,f,.slice A n cap] w fun e w'=>(∃ (t:TypeId) (u:Value),e = .returned (.tuple #[.agg #[.nilIface],.iface t u]))/\New w w':=by
 have hft:=aq
 have ltp:=h.lt
 have ltt:=h.lt2
 have P0:=hqZ h
 have T0:=hqZ (Fr.refl (fun _=>False) w)
 have q1:((n:Int) == 1)=false:=by simp;omega
 clear h
 go_enter Tryz.func235,Tryz.ntmps235
 (go_wp2_with fail;refine(ax _ pb tb ts _ _ ?_).mono ?_;(all_goals try exact PSt.over (w0:=w) P0.out ((Fr.r.alloc _).alloc _) ltp ltt);rintro e w1 ⟨⟨t,u,rfl⟩,hf⟩;(have xs0:=Fr.size hf;simp only[aa,ae,ad,af]at xs0;have T1:=hqZ (Fr.transN ((T0.out.alloc _).alloc _) hf);clear T0;have P1:=hqZ (PSt.new (PSt.over (w0:=w) P0.out ((Fr.r.alloc _).alloc _) ltp ltt) hf);clear P0;have B0:=hqZ (Blk.next ((Blk.at_ _ _ _ (n:=w.heap.size) rfl).alloc _) hf id);obtain⟨xk0,xl0⟩:=Blk.k1 B0.out;have B1:=hqZ (Blk.next (Blk.at_ _ _ _ (n:=w.heap.size+1) (by simp only[aa,ae,ad,af])) hf id);obtain⟨xk1,xl1⟩:=Blk.k1 B1.out;clear hf))
 go_wp2
 refine bodyPost_ret (v:=(.tuple #[.agg #[.nilIface],.iface t u])) (by simp only[results,Tryz.results235];go_simp) rfl ?_
 exact⟨⟨t,u,rfl⟩,by exact(T1.out.set (.inr (Nat.le_refl _)))⟩
theorem lz(w:World)(pb:Nat)(s:ByteArray)(tx:TypeId)(ux:Value)(g cap:Nat)(t2:TypeId)(u2:Value)(hg:w.cell? ⟨g,0,none⟩=some (.iface t2 u2))(hlt:g < w.heap.size) :
  Calls Tryz.prog 235 #[.pointer (some ⟨pb,0,none⟩),.string s,.func (.func 236) #[.agg #[.iface tx ux]] #[],.slice (some ⟨g,0,none⟩) (1:Nat) cap] w fun e w'=>e = .returned (.tuple #[.agg #[.iface 276 (.agg #[.iface tx ux,.iface t2 u2])],.nilIface])/\New w w':=by
 have T0:=hqZ (Fr.refl (fun _=>False) w)
 go_enter Tryz.func235,Tryz.ntmps235
 (go_wp2_with fail;refine(iE _ _ _ _ _).mono ?_;rintro e w1 ⟨rfl,hf⟩;(have xs0:=Fr.size hf;simp only[aa,ae,ad,af]at xs0;have T1:=hqZ (Fr.transN (T0.out.alloc _) hf);clear T0;have B0:=hqZ (Blk.next (Blk.at_ _ _ _ (n:=w.heap.size) rfl) hf id);obtain⟨xk0,xl0⟩:=Blk.k1 B0.out;clear hf))
 go_wp2
 refine bodyPost_ret (v:=(.tuple #[.agg #[.iface 276 (.agg #[.iface tx ux,.iface t2 u2])],.nilIface])) (by simp only[results,Tryz.results235];go_simp) rfl ?_
 exact⟨rfl,by exact(T1.out.set (.inr (Nat.le_refl _)))⟩
theorem ir(w:World)(pb:Nat)(s:ByteArray)(tx:TypeId)(ux:Value)(g cap:Nat)(t2:TypeId)(u2:Value)(hg:w.cell? ⟨g,0,none⟩=some (.iface t2 u2))(hlt:g < w.heap.size) :
  Calls Tryz.prog 235 #[.pointer (some ⟨pb,0,none⟩),.string s,.func (.func 237) #[.agg #[.iface tx ux]] #[],.slice (some ⟨g,0,none⟩) (1:Nat) cap] w fun e w'=>e = .returned (.tuple #[.agg #[.iface 277 (.agg #[.iface tx ux,.iface t2 u2])],.nilIface])/\New w w':=by
 have T0:=hqZ (Fr.refl (fun _=>False) w)
 go_enter Tryz.func235,Tryz.ntmps235
 (go_wp2_with fail;refine(gc _ _ _ _ _).mono ?_;rintro e w1 ⟨rfl,hf⟩;(have xs0:=Fr.size hf;simp only[aa,ae,ad,af]at xs0;have T1:=hqZ (Fr.transN (T0.out.alloc _) hf);clear T0;have B0:=hqZ (Blk.next (Blk.at_ _ _ _ (n:=w.heap.size) rfl) hf id);obtain⟨xk0,xl0⟩:=Blk.k1 B0.out;clear hf))
 go_wp2
 refine bodyPost_ret (v:=(.tuple #[.agg #[.iface 277 (.agg #[.iface tx ux,.iface t2 u2])],.nilIface])) (by simp only[results,Tryz.results235];go_simp) rfl ?_
 exact⟨rfl,by exact(T1.out.set (.inr (Nat.le_refl _)))⟩
theorem ip(w:World)(pb:Nat)(s:ByteArray)(tx:TypeId)(ux:Value)(g cap:Nat)(t2:TypeId)(u2:Value)(hg:w.cell? ⟨g,0,none⟩=some (.iface t2 u2))(hlt:g < w.heap.size) :
  Calls Tryz.prog 235 #[.pointer (some ⟨pb,0,none⟩),.string s,.func (.func 238) #[.agg #[.iface tx ux]] #[],.slice (some ⟨g,0,none⟩) (1:Nat) cap] w fun e w'=>e = .returned (.tuple #[.agg #[.iface 278 (.agg #[.iface tx ux,.iface t2 u2])],.nilIface])/\New w w':=by
 have T0:=hqZ (Fr.refl (fun _=>False) w)
 go_enter Tryz.func235,Tryz.ntmps235
 (go_wp2_with fail;refine(gb _ _ _ _ _).mono ?_;rintro e w1 ⟨rfl,hf⟩;(have xs0:=Fr.size hf;simp only[aa,ae,ad,af]at xs0;have T1:=hqZ (Fr.transN (T0.out.alloc _) hf);clear T0;have B0:=hqZ (Blk.next (Blk.at_ _ _ _ (n:=w.heap.size) rfl) hf id);obtain⟨xk0,xl0⟩:=Blk.k1 B0.out;clear hf))
 go_wp2
 refine bodyPost_ret (v:=(.tuple #[.agg #[.iface 278 (.agg #[.iface tx ux,.iface t2 u2])],.nilIface])) (by simp only[results,Tryz.results235];go_simp) rfl ?_
 exact⟨rfl,by exact(T1.out.set (.inr (Nat.le_refl _)))⟩
theorem nY(w:World)(pb:Nat)(s:ByteArray)(tx:TypeId)(ux:Value)(g cap:Nat)(t2:TypeId)(u2:Value)(hg:w.cell? ⟨g,0,none⟩=some (.iface t2 u2))(hlt:g < w.heap.size) :
  Calls Tryz.prog 235 #[.pointer (some ⟨pb,0,none⟩),.string s,.func (.func 239) #[.agg #[.iface tx ux]] #[],.slice (some ⟨g,0,none⟩) (1:Nat) cap] w fun e w'=>e = .returned (.tuple #[.agg #[.iface 268 (.agg #[.iface tx ux,.iface t2 u2])],.nilIface])/\New w w':=by
 have T0:=hqZ (Fr.refl (fun _=>False) w)
 go_enter Tryz.func235,Tryz.ntmps235
 (go_wp2_with fail;refine(kj _ _ _ _ _).mono ?_;rintro e w1 ⟨rfl,hf⟩;(have xs0:=Fr.size hf;simp only[aa,ae,ad,af]at xs0;have T1:=hqZ (Fr.transN (T0.out.alloc _) hf);clear T0;have B0:=hqZ (Blk.next (Blk.at_ _ _ _ (n:=w.heap.size) rfl) hf id);obtain⟨xk0,xl0⟩:=Blk.k1 B0.out;clear hf))
 go_wp2
 refine bodyPost_ret (v:=(.tuple #[.agg #[.iface 268 (.agg #[.iface tx ux,.iface t2 u2])],.nilIface])) (by simp only[results,Tryz.results235];go_simp) rfl ?_
 exact⟨rfl,by exact(T1.out.set (.inr (Nat.le_refl _)))⟩
theorem nZ(w:World)(pb:Nat)(s:ByteArray)(tx:TypeId)(ux:Value)(g cap:Nat)(t2:TypeId)(u2:Value)(hg:w.cell? ⟨g,0,none⟩=some (.iface t2 u2))(hlt:g < w.heap.size) :
  Calls Tryz.prog 235 #[.pointer (some ⟨pb,0,none⟩),.string s,.func (.func 240) #[.agg #[.iface tx ux]] #[],.slice (some ⟨g,0,none⟩) (1:Nat) cap] w fun e w'=>e = .returned (.tuple #[.agg #[.iface 269 (.agg #[.iface tx ux,.iface t2 u2])],.nilIface])/\New w w':=by
 have T0:=hqZ (Fr.refl (fun _=>False) w)
 go_enter Tryz.func235,Tryz.ntmps235
 (go_wp2_with fail;refine(kl _ _ _ _ _).mono ?_;rintro e w1 ⟨rfl,hf⟩;(have xs0:=Fr.size hf;simp only[aa,ae,ad,af]at xs0;have T1:=hqZ (Fr.transN (T0.out.alloc _) hf);clear T0;have B0:=hqZ (Blk.next (Blk.at_ _ _ _ (n:=w.heap.size) rfl) hf id);obtain⟨xk0,xl0⟩:=Blk.k1 B0.out;clear hf))
 go_wp2
 refine bodyPost_ret (v:=(.tuple #[.agg #[.iface 269 (.agg #[.iface tx ux,.iface t2 u2])],.nilIface])) (by simp only[results,Tryz.results235];go_simp) rfl ?_
 exact⟨rfl,by exact(T1.out.set (.inr (Nat.le_refl _)))⟩
theorem zero_no(w:World)(pb tb:Nat)(ts:List Tok)(s:ByteArray)(f:Value)(A:Option Addr)(n cap:Nat)(h:PSt w pb tb ts)(hn:n ≠ 0) :
  Calls Tryz.prog 241 #[.pointer (some ⟨pb,0,none⟩),.string s,f,.slice A n cap] w fun e w'=>(∃ (t:TypeId) (u:Value),e = .returned (.tuple #[.agg #[.nilIface],.iface t u]))/\New w w':=by
 have hft:=aq
 have ltp:=h.lt
 have ltt:=h.lt2
 have P0:=hqZ h
 have T0:=hqZ (Fr.refl (fun _=>False) w)
 have q1:((n:Int) == 0)=false:=by simp;omega
 clear h
 go_enter Tryz.func241,Tryz.ntmps241
 (go_wp2_with fail;refine(ax _ pb tb ts _ _ ?_).mono ?_;(all_goals try exact PSt.over (w0:=w) P0.out ((Fr.r.alloc _).alloc _) ltp ltt);rintro e w1 ⟨⟨t,u,rfl⟩,hf⟩;(have xs0:=Fr.size hf;simp only[aa,ae,ad,af]at xs0;have T1:=hqZ (Fr.transN ((T0.out.alloc _).alloc _) hf);clear T0;have P1:=hqZ (PSt.new (PSt.over (w0:=w) P0.out ((Fr.r.alloc _).alloc _) ltp ltt) hf);clear P0;have B0:=hqZ (Blk.next ((Blk.at_ _ _ _ (n:=w.heap.size) rfl).alloc _) hf id);obtain⟨xk0,xl0⟩:=Blk.k1 B0.out;have B1:=hqZ (Blk.next (Blk.at_ _ _ _ (n:=w.heap.size+1) (by simp only[aa,ae,ad,af])) hf id);obtain⟨xk1,xl1⟩:=Blk.k1 B1.out;clear hf))
 go_wp2
 refine bodyPost_ret (v:=(.tuple #[.agg #[.nilIface],.iface t u])) (by simp only[results,Tryz.results241];go_simp) rfl ?_
 exact⟨⟨t,u,rfl⟩,by exact(T1.out.set (.inr (Nat.le_refl _)))⟩
theorem kS(w:World)(pb:Nat)(s:ByteArray)(tx:TypeId)(ux:Value)(A:Option Addr)(cap:Nat) :
  Calls Tryz.prog 241 #[.pointer (some ⟨pb,0,none⟩),.string s,.func (.func 242) #[.agg #[.iface tx ux]] #[],.slice A (0:Nat) cap] w fun e w'=>e = .returned (.tuple #[.agg #[.iface 196 (.agg #[.iface tx ux])],.nilIface])/\New w w':=by
 have T0:=hqZ (Fr.refl (fun _=>False) w)
 go_enter Tryz.func241,Tryz.ntmps241
 (go_wp2_with fail;refine(jK _ _ _).mono ?_;rintro e w1 ⟨rfl,hf⟩;(have xs0:=Fr.size hf;simp only[aa,ae,ad,af]at xs0;have T1:=hqZ (Fr.transN (T0.out.alloc _) hf);clear T0;have B0:=hqZ (Blk.next (Blk.at_ _ _ _ (n:=w.heap.size) rfl) hf id);obtain⟨xk0,xl0⟩:=Blk.k1 B0.out;clear hf))
 go_wp2
 refine bodyPost_ret (v:=(.tuple #[.agg #[.iface 196 (.agg #[.iface tx ux])],.nilIface])) (by simp only[results,Tryz.results241];go_simp) rfl ?_
 exact⟨rfl,by exact(T1.out.set (.inr (Nat.le_refl _)))⟩
end Go.Proofs.YtbdhlpeckennjaaGreatDoor
