/- FnLong (the proof that the law returns true for every input), part 45 of 52; the last part says what is proved, and its condition. -/
import Derived.Test.YtbdhlpeckennjaaGreatDoorM44
set_option linter.unusedVariables false
set_option linter.unusedSimpArgs false
set_option maxHeartbeats 80000000
set_option maxRecDepth 1000000
namespace Go.Proofs.YtbdhlpeckennjaaGreatDoor
open Go Go.RowKit
attribute [local go_sem ↓] jy jz
theorem sch_all(Z:Nat->Prop)(v:Value)(W:World)(h:ScpR W Z Scp.all v):SCH Scp.all v W:=by
 rcases h with ⟨_,rfl⟩|⟨y,h,_⟩|⟨y,h,_⟩|⟨l,sv,h,_⟩|⟨p,h,_⟩|⟨y,p,h,_⟩
 .intro W' _;exact psc_all W'
 all_goals exact absurd (congrArg Scp.kind h) (by simp[Scp.all])
theorem nS(l:Val):jO (.lit l):=by
 intro w Z v h
 generalize hx:Ex.lit l=x at h
 cases h with
 | lit l' v' e =>
  have:l=l':=by simpa[Ex.lit] using hx
  subst this
  exact ple_lit l v' e w Z
 | _=>simp[Ex.lit,Ex.var,Ex.opn,Ex.named,Ex.like,Ex.rec_]at hx
def INL (r:Option Int)(e:Ending):Prop :=
 match r with
 | some n=>∃ (A B C:Option Addr) (a a2 b b2 c:Nat),e = .returned (.tuple #[.agg #[.int .i64 1,.string ⟨#[]⟩,.int .i64 2,.int .i64 n,.string ⟨#[]⟩,.string ⟨#[]⟩,.slice none 0 0,.slice none 0 0,.slice A a a2,.slice B b b2,.slice C 0 c],.bool true])
 | none=>e = .returned (.tuple #[.agg #[.int .i64 0,.string ⟨#[]⟩,.int .i64 0,.int .i64 0,.string ⟨#[]⟩,.string ⟨#[]⟩,.slice none 0 0,.slice none 0 0,.slice none 0 0,.slice none 0 0,.slice none 0 0],.bool false])
def numB (n:Nat)(minus:Bool):List UInt8:=(if minus then [45]else [])++decN n
theorem gz:∀ (k n:Nat),(decD k n).length<=k
 | 0,n=>by simp[decD]
 | k+1,n=>by
  unfold decD
  split
  .simp
  .have:=gz k (n / 10);simp;omega
theorem rq(n:Nat)(minus:Bool):(numB n minus).length<=21/\(bz n minus).length<=90000:=by
 have h:=gz 20 n
 have h1:(numB n minus).length<=21:=by unfold numB decN;cases minus <;> simp <;> omega
 refine⟨h1,?_⟩
 have e:bz n minus=iR++([32,123]++(numB n minus ++ [125,59])):=by unfold bz numB;simp
 have e2:iR.length=41:=by decide
 rw[e];simp only[List.length_append,e2];simp;omega
theorem long_nb(n:Nat)(minus:Bool):NB (bz n minus):=by
 rintro⟨a,b,h⟩
 have hm:(47:UInt8) ∈ bz n minus:=by rw[h];simp
 have hd:(47:UInt8) ∉ decN n:=fun hm=>by have:=fa 20 n 47 hm;unfold cO at this;revert this;decide
 unfold bz iR at hm
 cases minus <;> simp[hd]at hm
theorem rr(n:Nat)(minus:Bool):(⟨#[112,101,114,109,105,116,32,40,112,114,105,110,99,105,112,97,108,44,32,97,99,116,105,111,110,44,32,114,101,115,111,117,114,99,101,41,32,119,104,101,110,32,123]⟩++(⟨(numB n minus).toArray⟩:ByteArray)++(⟨#[125,59]⟩:ByteArray))=⟨(bz n minus).toArray⟩:=by
 apply ByteArray.ext
 simp[bz,iR,numB]
theorem rg{w w':World}{v:Int}{e:Ending}(h:PPX w ⟨false,[],Scp.all,Scp.all,Scp.all,[(false,.lit (.long v))]⟩ e w'):∃ (f:Bool) (k1 k2 k3:Int) (e1 i1 y1 e2 i2 y2 e3 i3 y3:ByteArray) (A1 A2 A3 A4:Option Addr) (n1 m1 n2 m2 n3 m3 n4 m4 g m5:Nat) (A B C:Option Addr) (a a2 b b2 c:Nat),
  e = .returned (.tuple #[.agg #[.bool f,.slice A1 n1 m1,.int .i64 k1,.string e1,.string i1,.slice A2 n2 m2,.string y1,.int .i64 k2,.string e2,.string i2,.slice A3 n3 m3,.string y2,.int .i64 k3,.string e3,.string i3,.slice A4 n4 m4,.string y3,.slice (some ⟨g,0,none⟩) 1 m5],.bool true])/\New w w'/\(w.heap.size<=g/\g < w'.heap.size)/\w'.cell? ⟨g,1,none⟩=some (.int .i64 1)/\w'.cell? ⟨g,2,none⟩=some (.string ⟨#[]⟩)/\w'.cell? ⟨g,3,none⟩=some (.int .i64 2)/\w'.cell? ⟨g,4,none⟩=some (.int .i64 v)/\w'.cell? ⟨g,5,none⟩=some (.string ⟨#[]⟩)/\w'.cell? ⟨g,6,none⟩=some (.string ⟨#[]⟩)/\w'.cell? ⟨g,7,none⟩=some (.slice none 0 0)/\w'.cell? ⟨g,8,none⟩=some (.slice none 0 0)/\w'.cell? ⟨g,9,none⟩=some (.slice A a a2)/\w'.cell? ⟨g,10,none⟩=some (.slice B b b2)/\w'.cell? ⟨g,11,none⟩=some (.slice C 0 c):=by
 obtain⟨A1,A2,A3,A4,A5,n1,m1,n2,m2,n3,m3,n4,m4,n5,m5,rfl,hpp,hf⟩:=h
 obtain⟨nv,cv,c1,c2,c3,xs,ys,he,_,_,⟨_,_,_,rfl,_⟩,⟨_,_,_,rfl,_⟩,⟨_,_,_,rfl,_⟩,h7,h8⟩:=hpp.out
 have hcv:cv = .slice A5 n5 m5:=by
  simp only[List.cons_append,List.nil_append,List.cons.injEq]at he
  exact he.2.2.2.2.2.2.2.2.2.2.2.2.2.2.2.2.2.1.symm
 subst hcv
 obtain⟨_,_,A',cap',h3,h4⟩:=h7
 cases h3
 obtain⟨g,rfl,hg,hgl,hc⟩:=h4 (by simp)
 obtain⟨x,r,rfl,⟨cs,rfl,hx⟩,rfl⟩:=h8
 obtain⟨kv,pv,lv,zs,rfl,⟨_,_,A,a2,rfl,_⟩,⟨_,_,B,b2,rfl,_⟩,⟨_,_,C,c,rfl,_⟩,_⟩:=PX.inv hx
 exact⟨_,_,_,_,_,_,_,_,_,_,_,_,_,A1,A2,A3,A4,n1,m1,n2,m2,n3,m3,n4,m4,g,m5,A,B,C,_,a2,_,b2,c,rfl,hf,⟨hg,hgl⟩,hc 1 _ rfl,hc 2 _ rfl,hc 3 _ rfl,hc 4 _ rfl,hc 5 _ rfl,hc 6 _ rfl,hc 7 _ rfl,hc 8 _ rfl,hc 9 _ rfl,hc 10 _ rfl,hc 11 _ rfl⟩
theorem hQ(w:World)(n:Nat)(hn:n < 2 ^ 64)(minus:Bool)(hg:Glob w)(heo:EofV w)(h15:15<=w.heap.size) :
  Calls Tryz.prog 9 #[.string ⟨(numB n minus).toArray⟩] w fun e w'=>INL (bK n minus) e/\New w w':=by
 obtain⟨s,hs⟩:∃ s:ByteArray,s=⟨(numB n minus).toArray⟩:=⟨_,rfl⟩
 have hlen:=rq n minus
 have hz:s.size<=21:=by rw[hs];exact hlen.1
 have hcat:=rr n minus
 rw[<- hs]at hcat ⊢
 have q1:¬ (9223372036854775807:Nat) < 43+s.size:=by omega
 have q2:¬ (9223372036854775807:Nat) < 43+s.size+2:=by omega
 have hf1:Fr (fun _=>False) w (w.alloc (.cells #[.int .i64 0,.string ⟨#[]⟩,.int .i64 0,.int .i64 0,.string ⟨#[]⟩,.string ⟨#[]⟩,.slice none 0 0,.slice none 0 0,.slice none 0 0,.slice none 0 0,.slice none 0 0] 30)):=Fr.r.alloc _
 have hz1:(w.alloc (.cells #[.int .i64 0,.string ⟨#[]⟩,.int .i64 0,.int .i64 0,.string ⟨#[]⟩,.string ⟨#[]⟩,.slice none 0 0,.slice none 0 0,.slice none 0 0,.slice none 0 0,.slice none 0 0] 30)).heap.size=w.heap.size+1:=by simp only[aa]
 have hP:=lw (w.alloc (.cells #[.int .i64 0,.string ⟨#[]⟩,.int .i64 0,.int .i64 0,.string ⟨#[]⟩,.string ⟨#[]⟩,.slice none 0 0,.slice none 0 0,.slice none 0 0,.slice none 0 0,.slice none 0 0] 30)) (bz n minus) hlen.2 (hg.frN hf1) (heo.next hf1 (fun _ _ h=>h)) (by omega) (long_nb n minus) (by
  intro p hp
  rw[mS n hn minus]at hp
  cases hr:bK n minus with
  | none=>rw[hr]at hp;cases hp
  | some v =>
   rw[hr]at hp
   cases hp
   refine⟨fun c hc=>?_,fun Z s hs v W h=>?_,by simp,by simp⟩
   .simp at hc;subst hc;exact nS _
   .have:s=Scp.all:=by rcases hs with h|h|h <;> exact h
    subst this
    exact sch_all Z v W h)
 rw[mS n hn minus]at hP
 have HC:=hqZ hcat
 clear hs hlen hcat hg heo hf1 hz1
 cases hr:bK n minus with
 | none =>
  rw[hr]at hP
  have HP:=hqZ (show Calls Tryz.prog 23 #[.string ⟨(bz n minus).toArray⟩] (w.alloc (.cells #[.int .i64 0,.string ⟨#[]⟩,.int .i64 0,.int .i64 0,.string ⟨#[]⟩,.string ⟨#[]⟩,.slice none 0 0,.slice none 0 0,.slice none 0 0,.slice none 0 0,.slice none 0 0] 30)) fun e w'=>e = .returned (.tuple #[.agg #[.bool false,.slice none 0 0,.int .i64 0,.string ⟨#[]⟩,.string ⟨#[]⟩,.slice none 0 0,.string ⟨#[]⟩,.int .i64 0,.string ⟨#[]⟩,.string ⟨#[]⟩,.slice none 0 0,.string ⟨#[]⟩,.int .i64 0,.string ⟨#[]⟩,.string ⟨#[]⟩,.slice none 0 0,.string ⟨#[]⟩,.slice none 0 0],.bool false])/\New (w.alloc (.cells #[.int .i64 0,.string ⟨#[]⟩,.int .i64 0,.int .i64 0,.string ⟨#[]⟩,.string ⟨#[]⟩,.slice none 0 0,.slice none 0 0,.slice none 0 0,.slice none 0 0,.slice none 0 0] 30)) w' from hP)
  clear hP
  go_enter Tryz.func9,Tryz.ntmps9
  go_wp2_with fail
  rw[HC.out]
  refine HP.out.mono ?_
  rintro e w2 ⟨rfl,hf⟩
  have hb2:=(Blk.at_ w 30 #[.int .i64 0,.string ⟨#[]⟩,.int .i64 0,.int .i64 0,.string ⟨#[]⟩,.string ⟨#[]⟩,.slice none 0 0,.slice none 0 0,.slice none 0 0,.slice none 0 0,.slice none 0 0] rfl).next hf id
  have hlt:=hb2.lt
  have hST:=stC (Blk.at_ w2 43 #[.bool false,.slice none 0 0,.int .i64 0,.string ⟨#[]⟩,.string ⟨#[]⟩,.slice none 0 0,.string ⟨#[]⟩,.int .i64 0,.string ⟨#[]⟩,.string ⟨#[]⟩,.slice none 0 0,.string ⟨#[]⟩,.int .i64 0,.string ⟨#[]⟩,.string ⟨#[]⟩,.slice none 0 0,.string ⟨#[]⟩,.slice none 0 0] rfl) rfl
  obtain⟨ho1,ho2,ho3,ho4⟩:=ones
  have HB2:=hqZ (fun(_:Unit)=>hb2)
  have HF2:=hqZ (fun(_:Unit)=>((Fr.refl (fun _=>False) w).alloc (.cells #[.int .i64 0,.string ⟨#[]⟩,.int .i64 0,.int .i64 0,.string ⟨#[]⟩,.string ⟨#[]⟩,.slice none 0 0,.slice none 0 0,.slice none 0 0,.slice none 0 0,.slice none 0 0] 30)).trans hf)
  clear hb2 hf
  go_upto_region 2 with fail
  generalize hw3:bc (w2.alloc _) _ _=w3
  have hb3:Blk w3 w.heap.size #[.int .i64 0,.string ⟨#[]⟩,.int .i64 0,.int .i64 0,.string ⟨#[]⟩,.string ⟨#[]⟩,.slice none 0 0,.slice none 0 0,.slice none 0 0,.slice none 0 0,.slice none 0 0] 30:=by rw[<- hw3];exact((HB2.out ()).alloc _).next (Fr.rowPut (S:=fun k=>k=w2.heap.size) Fr.r (.inl rfl)) (by show ¬ _;omega)
  have HF3:=hqZ (fun(_:Unit)=>(by rw[<- hw3];exact Fr.rowPut ((HF2.out ()).alloc _) (.inr (by omega)):Fr (fun _=>False) w w3))
  have HB3:=hqZ hb3
  clear hw3
  have r0:=hb3.cell 0 _ rfl
  have s0:=hb3.free 0
  have r1:=hb3.cell 1 _ rfl
  have s1:=hb3.free 1
  have r2:=hb3.cell 2 _ rfl
  have s2:=hb3.free 2
  have r3:=hb3.cell 3 _ rfl
  have s3:=hb3.free 3
  have r4:=hb3.cell 4 _ rfl
  have s4:=hb3.free 4
  have r5:=hb3.cell 5 _ rfl
  have s5:=hb3.free 5
  have r6:=hb3.cell 6 _ rfl
  have s6:=hb3.free 6
  have r7:=hb3.cell 7 _ rfl
  have s7:=hb3.free 7
  have r8:=hb3.cell 8 _ rfl
  have s8:=hb3.free 8
  have r9:=hb3.cell 9 _ rfl
  have s9:=hb3.free 9
  have r10:=hb3.cell 10 _ rfl
  have s10:=hb3.free 10
  clear hb3
  go_wp2_with fail
  refine bodyPost_ret (v:=(.tuple #[.agg #[.int .i64 0,.string ⟨#[]⟩,.int .i64 0,.int .i64 0,.string ⟨#[]⟩,.string ⟨#[]⟩,.slice none 0 0,.slice none 0 0,.slice none 0 0,.slice none 0 0,.slice none 0 0],.bool false])) (by simp only[results,Tryz.results9];go_simp) rfl ?_
  exact⟨rfl,((((((((((((HF3.out ()).set (.inr (Nat.le_refl _))).set (.inr (Nat.le_refl _))).set (.inr (Nat.le_refl _))).set (.inr (Nat.le_refl _))).set (.inr (Nat.le_refl _))).set (.inr (Nat.le_refl _))).set (.inr (Nat.le_refl _))).set (.inr (Nat.le_refl _))).set (.inr (Nat.le_refl _))).set (.inr (Nat.le_refl _))).set (.inr (Nat.le_refl _)))⟩
 | some v =>
  rw[hr]at hP
  have HP:=hqZ (Calls.mono hP fun _ _ h=>rg h)
  clear hP
  go_enter Tryz.func9,Tryz.ntmps9
  go_wp2_with fail
  rw[HC.out]
  refine HP.out.mono ?_
  rintro e w2 ⟨f,k1,k2,k3,e1,i1,y1,e2,i2,y2,e3,i3,y3,A1,A2,A3,A4,n1,m1,n2,m2,n3,m3,n4,m4,g,m5,A,B,C,a,a2,b,b2,c,rfl,hf,⟨hg1,hg2⟩,x0,x1,x2,x3,x4,x5,x6,x7,x8,x9,x10⟩
  have hb2:=(Blk.at_ w 30 #[.int .i64 0,.string ⟨#[]⟩,.int .i64 0,.int .i64 0,.string ⟨#[]⟩,.string ⟨#[]⟩,.slice none 0 0,.slice none 0 0,.slice none 0 0,.slice none 0 0,.slice none 0 0] rfl).next hf id
  have hlt:=hb2.lt
  have hST:=stC (Blk.at_ w2 43 #[.bool false,.slice none 0 0,.int .i64 0,.string ⟨#[]⟩,.string ⟨#[]⟩,.slice none 0 0,.string ⟨#[]⟩,.int .i64 0,.string ⟨#[]⟩,.string ⟨#[]⟩,.slice none 0 0,.string ⟨#[]⟩,.int .i64 0,.string ⟨#[]⟩,.string ⟨#[]⟩,.slice none 0 0,.string ⟨#[]⟩,.slice none 0 0] rfl) rfl
  obtain⟨ho1,ho2,ho3,ho4⟩:=ones
  have HB2:=hqZ (fun(_:Unit)=>hb2)
  have HF2:=hqZ (fun(_:Unit)=>((Fr.refl (fun _=>False) w).alloc (.cells #[.int .i64 0,.string ⟨#[]⟩,.int .i64 0,.int .i64 0,.string ⟨#[]⟩,.string ⟨#[]⟩,.slice none 0 0,.slice none 0 0,.slice none 0 0,.slice none 0 0,.slice none 0 0] 30)).trans hf)
  clear hb2 hf
  go_upto_region 2 with fail
  generalize hw3:bc (w2.alloc _) _ _=w3
  have hb3:Blk w3 w.heap.size #[.int .i64 0,.string ⟨#[]⟩,.int .i64 0,.int .i64 0,.string ⟨#[]⟩,.string ⟨#[]⟩,.slice none 0 0,.slice none 0 0,.slice none 0 0,.slice none 0 0,.slice none 0 0] 30:=by rw[<- hw3];exact((HB2.out ()).alloc _).next (Fr.rowPut (S:=fun k=>k=w2.heap.size) Fr.r (.inl rfl)) (by show ¬ _;omega)
  have hp3:Blk w3 w2.heap.size #[.bool f,.slice A1 n1 m1,.int .i64 k1,.string e1,.string i1,.slice A2 n2 m2,.string y1,.int .i64 k2,.string e2,.string i2,.slice A3 n3 m3,.string y2,.int .i64 k3,.string e3,.string i3,.slice A4 n4 m4,.string y3,.slice (some ⟨g,0,none⟩) 1 m5] 43:=by rw[<- hw3];exact Blk.rowPut (Blk.at_ w2 43 #[.bool false,.slice none 0 0,.int .i64 0,.string ⟨#[]⟩,.string ⟨#[]⟩,.slice none 0 0,.string ⟨#[]⟩,.int .i64 0,.string ⟨#[]⟩,.string ⟨#[]⟩,.slice none 0 0,.string ⟨#[]⟩,.int .i64 0,.string ⟨#[]⟩,.string ⟨#[]⟩,.slice none 0 0,.string ⟨#[]⟩,.slice none 0 0] rfl) _ rfl rfl
  have hfx:Fr (fun k=>k=w2.heap.size) w2 w3:=by rw[<- hw3];exact Fr.rowPut (Fr.r.alloc _) (.inl rfl)
  have HF3:=hqZ (fun(_:Unit)=>(by rw[<- hw3];exact Fr.rowPut ((HF2.out ()).alloc _) (.inr (by omega)):Fr (fun _=>False) w w3))
  have hgn:¬ g=w2.heap.size:=by omega
  have p17:=hp3.cell 17 _ rfl
  have hlp:=hp3.lt
  have hl3:=hfx.size
  have x0:=(hfx.cell (p:=⟨g,1,none⟩) hg2 hgn).trans x0
  have x1:=(hfx.cell (p:=⟨g,2,none⟩) hg2 hgn).trans x1
  have x2:=(hfx.cell (p:=⟨g,3,none⟩) hg2 hgn).trans x2
  have x3:=(hfx.cell (p:=⟨g,4,none⟩) hg2 hgn).trans x3
  have x4:=(hfx.cell (p:=⟨g,5,none⟩) hg2 hgn).trans x4
  have x5:=(hfx.cell (p:=⟨g,6,none⟩) hg2 hgn).trans x5
  have x6:=(hfx.cell (p:=⟨g,7,none⟩) hg2 hgn).trans x6
  have x7:=(hfx.cell (p:=⟨g,8,none⟩) hg2 hgn).trans x7
  have x8:=(hfx.cell (p:=⟨g,9,none⟩) hg2 hgn).trans x8
  have x9:=(hfx.cell (p:=⟨g,10,none⟩) hg2 hgn).trans x9
  have x10:=(hfx.cell (p:=⟨g,11,none⟩) hg2 hgn).trans x10
  clear hw3 hfx hp3
  have r0:=hb3.cell 0 _ rfl
  have s0:=hb3.free 0
  have r1:=hb3.cell 1 _ rfl
  have s1:=hb3.free 1
  have r2:=hb3.cell 2 _ rfl
  have s2:=hb3.free 2
  have r3:=hb3.cell 3 _ rfl
  have s3:=hb3.free 3
  have r4:=hb3.cell 4 _ rfl
  have s4:=hb3.free 4
  have r5:=hb3.cell 5 _ rfl
  have s5:=hb3.free 5
  have r6:=hb3.cell 6 _ rfl
  have s6:=hb3.free 6
  have r7:=hb3.cell 7 _ rfl
  have s7:=hb3.free 7
  have r8:=hb3.cell 8 _ rfl
  have s8:=hb3.free 8
  have r9:=hb3.cell 9 _ rfl
  have s9:=hb3.free 9
  have r10:=hb3.cell 10 _ rfl
  have s10:=hb3.free 10
  clear hb3
  go_wp2_with fail
  refine bodyPost_ret (v:=(.tuple #[.agg #[.int .i64 1,.string ⟨#[]⟩,.int .i64 2,.int .i64 v,.string ⟨#[]⟩,.string ⟨#[]⟩,.slice none 0 0,.slice none 0 0,.slice A a a2,.slice B b b2,.slice C 0 c],.bool true])) (by simp only[results,Tryz.results9];go_simp) rfl ?_
  exact⟨⟨A,B,C,a,a2,b,b2,c,rfl⟩,((((((((((((HF3.out ()).set (.inr (Nat.le_refl _))).set (.inr (Nat.le_refl _))).set (.inr (Nat.le_refl _))).set (.inr (Nat.le_refl _))).set (.inr (Nat.le_refl _))).set (.inr (Nat.le_refl _))).set (.inr (Nat.le_refl _))).set (.inr (Nat.le_refl _))).set (.inr (Nat.le_refl _))).set (.inr (Nat.le_refl _))).set (.inr (Nat.le_refl _)))⟩
end Go.Proofs.YtbdhlpeckennjaaGreatDoor
