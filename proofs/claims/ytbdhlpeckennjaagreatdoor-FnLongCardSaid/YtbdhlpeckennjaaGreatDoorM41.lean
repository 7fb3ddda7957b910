/- FnLong (the proof that the law returns true for every input), part 41 of 52; the last part says what is proved, and its condition. -/
import Derived.Lib.ConvBytes
import Derived.Deep.OwnRows
import Derived.Lib.SliceRun
import Derived.Laws.OwnMore
import Derived.Test.YtbdhlpeckennjaaGreatDoorM09
import Derived.Test.YtbdhlpeckennjaaGreatDoorM18
import Derived.Test.YtbdhlpeckennjaaGreatDoorM19
import Derived.Test.YtbdhlpeckennjaaGreatDoorM39
import Derived.Test.YtbdhlpeckennjaaGreatDoorM40
set_option linter.unusedVariables false
set_option linter.unusedSimpArgs false
set_option maxHeartbeats 80000000
set_option maxRecDepth 1000000
namespace Go.Proofs.YtbdhlpeckennjaaGreatDoor
open Go Go.RowKit
theorem int_val:pi:=by
 intro w k o l c f s hs hg
 have T0:=hqZ (Fr.refl (fun _=>False) w)
 have HG:=hqZ hg
 clear hg
 go_enter Tryz.func223,Tryz.ntmps223
 cases hv:dQ false s with
 | none =>
  (go_wp2_with fail;refine(iv (lu _ false s hs (HG.out.frN (by exact(T0.out.alloc _)))) hv).mono ?_;rintro e w3 ⟨x,t,u,rfl,hf⟩;(have xs0:=Fr.size hf;simp only[aa,ae,ad,af]at xs0;have T1:=hqZ (Fr.transN (T0.out.alloc _) hf);clear T0;have B0:=hqZ (Blk.next (Blk.at_ _ _ _ (n:=w.heap.size) rfl) hf id);obtain⟨xk0,xl0⟩:=Blk.k6 B0.out;clear hf))
  go_wp2
  refine bodyPost_ret (v:=(.tuple #[.int .i64 x,.iface t u])) (by simp only[results,Tryz.results223];go_simp) rfl ?_
  exact⟨x,t,u,rfl,by exact T1.out⟩
 | some n =>
  (go_wp2_with fail;refine(iv (lu _ false s hs (HG.out.frN (by exact(T0.out.alloc _)))) hv).mono ?_;rintro e w3 ⟨rfl,hf⟩;(have xs0:=Fr.size hf;simp only[aa,ae,ad,af]at xs0;have T1:=hqZ (Fr.transN (T0.out.alloc _) hf);clear T0;have B0:=hqZ (Blk.next (Blk.at_ _ _ _ (n:=w.heap.size) rfl) hf id);obtain⟨xk0,xl0⟩:=Blk.k6 B0.out;clear hf))
  go_wp2
  refine bodyPost_ret (v:=(.tuple #[.int .i64 n,.nilIface])) (by simp only[results,Tryz.results223];go_simp) rfl ?_
  exact⟨rfl,by exact T1.out⟩
theorem fA(W:World)(s:ByteArray):Fr (fun _=>False) W (Lib.bytesWorld W 5 s):=Fr.of_below (Lib.bytesWorld_below _ _ _) (by intro k h1 h2;omega)
theorem jI(W:World)(s:ByteArray):BA (Lib.bytesWorld W 5 s) W.heap.size 0 s:=by
 refine⟨by rw[Lib.bytesWorld_size];omega,fun j hj=>?_⟩
 rw[Nat.zero_add,Lib.bytesWorld_cell _ _ _ _ hj]
 congr 3
 obtain⟨⟨l⟩⟩:=s
 have hj':j < l.length:=hj
 show(l.getD j 0).toNat=(l.toArray[j]!).toNat
 rw[List.getD_eq_getElem?_getD,getElem!_def,List.getElem?_toArray,List.getElem?_eq_getElem hj']
 rfl
theorem strU:∃ u,Tryz.prog.underlying 9=some u:=⟨_,Tryz.underlying9⟩
theorem u8U:Tryz.prog.underlying 5=some (.int .u8):=by kernel_rfl
theorem fX(W:World)(s:ByteArray):∃ cap,s.size<=cap/\(convert 9 67 (.string s)).run Tryz.prog W = .ok (.slice (some ⟨W.heap.size,0,none⟩) s.size cap) (Lib.bytesWorld W 5 s):=by
 obtain⟨u,hu⟩:=strU
 exact⟨_,grownCap_ge W s.size 0 5,Lib.run_convert_string_bytes W 9 67 5 s hu (by kernel_rfl) u8U⟩
theorem UQ.bad{w w':World}{g:Nat}{s:ByteArray}{r:Option (List UInt8 × Nat)}{e:Ending}(h:UQ w g s r e w')(hr:r=none):(∃ (t:TypeId) (u:Value),e = .returned (.tuple #[.string ⟨#[]⟩,.slice none 0 0,.iface t u]))/\New w w':=by subst hr;exact h
theorem UQ.good{w w':World}{g:Nat}{s:ByteArray}{r:Option (List UInt8 × Nat)}{e:Ending}{l:List UInt8}{j:Nat}(h:UQ w g s r e w')(hr:r=some (l,j)) :
  (∃ o c,e = .returned (.tuple #[.string ⟨l.toArray⟩,.slice (some ⟨g,o,none⟩) (s.size - j) c,.nilIface])/\s.size - j<=c/\BA w' g o (s.extract j s.size))/\New w w':=by subst hr;exact h
theorem str_val:cC:=by
 intro w k o l c f s hs hg
 have T0:=hqZ (Fr.refl (fun _=>False) w)
 have HG:=hqZ hg
 clear hg
 go_enter Tryz.func124,Tryz.ntmps124
 (go_wp2_with fail;refine(ma _ s).mono ?_;rintro e w1 ⟨rfl,hf⟩;(have xs0:=Fr.size hf;simp only[aa,ae,ad,af]at xs0;have T1:=hqZ (Fr.transN (T0.out.alloc _) hf);clear T0;have B0:=hqZ (Blk.next (Blk.at_ _ _ _ (n:=w.heap.size) rfl) hf id);obtain⟨xk0,xl0⟩:=Blk.k6 B0.out;clear hf))
 have hz1:=fJ s
 (go_wp2_with fail;refine(lZ _ (eO s) (by omega)).mono ?_;rintro e w2 ⟨rfl,hf⟩;(have xs2:=Fr.size hf;have T0:=hqZ (Fr.transN T1.out hf);clear T1;have B1:=hqZ (Blk.next B0.out hf id);clear B0;obtain⟨xk6,xl1⟩:=Blk.k6 B1.out;clear hf;clear xk0))
 have hz2:=iV (eO s)
 have E0:=hqZ (md s)
 obtain⟨t,ht⟩:∃ t,t=gf (eO s):=⟨_,rfl⟩
 rw[<- ht]at E0 hz2 ⊢
 clear ht
 obtain⟨cap,hcap,hcv⟩:=fX w2 t
 have HN:=hqZ (fA w2 t)
 have HB:=hqZ (jI w2 t)
 have HGl:=hqZ ((HG.out.frN (by exact T0.out:Fr (fun _=>False) w w2)).frN HN.out)
 go_wp2_with fail
 cases hv:unq t false with
 | none =>
  refine(Calls.mono (ko _ w2.heap.size 0 cap t hcap (by omega) HB.out HGl.out) fun _ _ h=>UQ.bad h hv).mono ?_
  rintro e w3 ⟨⟨t1,u1,rfl⟩,hf⟩
  have hfr:New w w3:=((by exact T0.out:Fr (fun _=>False) w w2).trans HN.out).trans hf
  clear hf hcv
  go_wp2
  go_ret2
  rw[show aX s=none from by unfold aX;rw[E0.out,hv];rfl]
  exact⟨_,_,_,rfl,hfr⟩
 | some x =>
  obtain⟨r,j⟩:=x
  refine(Calls.mono (ko _ w2.heap.size 0 cap t hcap (by omega) HB.out HGl.out) fun _ _ h=>UQ.good h hv).mono ?_
  rintro e w3 ⟨⟨o1,c1,rfl,_,_⟩,hf⟩
  have hfr:New w w3:=((by exact T0.out:Fr (fun _=>False) w w2).trans HN.out).trans hf
  clear hf hcv
  go_wp2
  go_ret2
  rw[show aX s=some ⟨r.toArray⟩from by unfold aX;rw[E0.out,hv];rfl]
  exact⟨rfl,hfr⟩
def db (l:List Value)(n:Nat):Array Value:=(l++List.replicate (n - l.length) Value.nilIface).toArray
theorem ju(n:Nat):madeCells #[Value.nilIface] n=db [] n:=by
 apply Array.ext
 .simp[madeCells,db]
 .intro i h1 h2;simp[madeCells,db,Nat.mod_one]
theorem fU{l:List Value}{n:Nat}(h:l.length < n)(v:Value):db (l ++ [v]) n=(db l n).setIfInBounds l.length v:=by
 unfold db
 obtain⟨k,hk⟩:∃ k,n - l.length=k+1:=⟨n - l.length - 1,by omega⟩
 have hk2:n - (l ++ [v]).length=k:=by simp;omega
 rw[hk,hk2,List.setIfInBounds_toArray,List.set_append_right _ _ (Nat.le_refl _),Nat.sub_self]
 simp[List.replicate_succ]
theorem fV{l:List Value}{n:Nat}(h:l.length<=n)(j:Nat):(db l n)[j]? = if j < l.length then l[j]? else if j < n then some .nilIface else none:=by
 unfold db
 rw[List.getElem?_toArray,List.getElem?_append]
 split
 .rfl
 .rw[List.getElem?_replicate];split <;> split <;> first|rfl|omega
theorem hY{l:List Value}:db l l.length=l.toArray:=by simp[db]
theorem nodeI:(Tryz.prog.info? 128).map (fun i=>(i.zero,i.size,i.bytes))=some (some .nilIface,1,16):=by kernel_rfl
theorem nodeS:Tryz.prog.underlying 198=some (.slice 128):=by kernel_rfl
theorem nodesS:Tryz.prog.underlying 365=some (.slice 246):=by kernel_rfl
theorem kq(w:World)(Z:Nat->Prop)(v:Value)(n:Nat)(vs:List Value)(h:Row w Z v n 1 vs)(hv:∀ u ∈ vs,∃ t x,u = .iface t x) :
  Calls Tryz.prog 256 #[v] w fun e w'=>∃ (B:Option Addr) (k:Nat),e = .returned (.slice B n k)/\Row w' (w.heap.size <= ·) (.slice B n k) n 1 vs/\New w w':=by
 obtain⟨hl,hn,A,cap,rfl,hc⟩:=h
 have T0:=hqZ (Fr.refl (fun _=>False) w)
 have HV:=hqZ hv
 have HC:=hqZ hc
 have HL:=hqZ hl
 clear hv hc hl
 have hq:=fun W A n c=>Lib.run_eql_slice_nil (P:=Tryz.prog) W 365 246 A n c 0 0 nodesS
 cases A with
 | none =>
  have h0:n=0:=by
   cases n with
   | zero=>rfl
   | succ n=>obtain⟨g,hg,_⟩:=HC.out (by omega);cases hg
  subst h0
  go_enter Tryz.func256,Tryz.ntmps256
  go_wp2
  go_ret
  have e:vs = []:=by have:=HL.out;simpa using this
  subst e
  exact⟨_,_,rfl,⟨rfl,by omega,none,0,rfl,fun h=>by omega⟩,by exact T0.out⟩
 | some A =>
  have hmk:=fun W=>run_make_row' (P:=Tryz.prog) 198 128 .nilIface 16 nodeS nodeI rfl .i64 .i64 n (by omega) (by omega) W
  go_enter Tryz.func256,Tryz.ntmps256
  go_wp2
  go_loopg [13] n (fun k v wr=>∃ j:Nat,v = .int .i64 (j:Int)/\j+k=n/\Fr (fun _=>False) w wr/\Blk wr w.heap.size (db (vs.take j) n) 128)
  case atStart=>exact⟨0,rfl,by omega,by exact(T0.out.alloc _),by rw[List.take_zero,<- ju];exact Blk.at_ w _ _ rfl⟩
  case round =>
   obtain⟨j,rfl,hj,hf,hb⟩:=hrel
   have HB:=hqZ hb
   have HF:=hqZ hf
   clear hb
   (clear T0;have H0:=hqZ hf;have xs0:=Fr.size H0.out;clear hf)
   have hb:=HB.out
   have LL:=HL.out
   cases hq2:decide ((j:Int) < (n:Int))
   case false =>
    have e:j=n:=by simp at hq2;omega
    subst e
    have e2:vs.take j=vs:=List.take_of_length_le (by omega)
    rw[e2]at hb
    go_wp2
    go_ret
    exact⟨_,_,rfl,⟨LL,hn,some ⟨w.heap.size,0,none⟩,j,rfl,fun h=>⟨_,rfl,Nat.le_refl _,by have:=hb.lt;exact this,fun k u hu=>by
     have hlt:k < vs.length:=(List.getElem?_eq_some_iff.1 hu).1
     exact hb.cell k u (by rw[show j=vs.length from by omega,hY,List.getElem?_toArray];exact hu)⟩⟩,by exact HF.out⟩
   have hlt:j < n:=by simp at hq2;omega
   obtain⟨g,eg,hZ,hg,hcell⟩:=HC.out (by omega)
   cases eg
   obtain⟨u,hu⟩:∃ u,vs[j]? = some u:=by cases hh:vs[j]? with|none=>have:=List.getElem?_eq_none_iff.1 hh;omega|some u=>exact⟨u,rfl⟩
   obtain⟨t,x,rfl⟩:=HV.out u (List.mem_of_getElem? hu)
   have hc1:=(HF.out.cell (p:=⟨g,j,none⟩) hg id).trans (hcell j _ hu)
   have hgl:g < wr.heap.size:=Nat.lt_of_lt_of_le hg HF.out.size
   have hlen:(vs.take j).length=j:=by rw[List.length_take];omega
   have hc2:wr.cell? ⟨w.heap.size,j,none⟩=some .nilIface:=hb.cell j _ (by rw[fV (by omega)];rw[hlen];simp[hlt])
   have hf2:=hb.free j
   have hbl:=hb.lt
   go_wp2
   go_roundg (gk - 1)
   case measure=>omega
   case rel =>
    refine⟨j+1,by push_cast;rfl,by omega,by exact((HF.out.set (.inr (Nat.le_refl _))).alloc _),?_⟩
    refine Blk.alloc (hb.set j _ ?_) _
    rw[List.take_add_one,hu,Option.toList_some]
    have:=fU (l:=vs.take j) (n:=n) (by omega) (.iface t x)
    rw[hlen]at this
    exact this
theorem jq{w:World}{Z:Nat->Prop}{l:List Ex}{vs:List Value}(h:RepL w Z l vs):∀ u ∈ vs,∃ t x,u = .iface t x:=by
 induction l generalizing vs with
 | nil=>cases h;intro u hu;cases hu
 | cons x l ih =>
  cases h with
  | cons _ _ v vs h1 h2 =>
   obtain⟨t,cs,e⟩:=h1.cell
   intro u hu
   rcases List.mem_cons.1 hu with rfl|hu
   .exact⟨_,_,e⟩
   .exact ih h2 u hu
theorem set_c:SetC:=by
 intro w Z v l vs hrow hl
 have hu:=jq hl
 have HR:=hqZ hrow
 have HU:=hqZ hu
 have T0:=hqZ (Fr.refl (fun _=>False) w)
 clear hrow hl hu
 go_enter Tryz.func233,Tryz.ntmps233
 (go_wp2_with fail;refine(kq _ Z v _ _ (HR.out.frame (S:=fun _=>False) (by exact(T0.out.alloc _)) (fun _ _ _ h=>h)) HU.out).mono ?_;rintro e w1 ⟨B,k,rfl,hrow,hf⟩;(have xs0:=Fr.size hf;simp only[aa,ae,ad,af]at xs0;have T1:=hqZ (Fr.transN (T0.out.alloc _) hf);clear T0;have B0:=hqZ (Blk.next (Blk.at_ _ _ _ (n:=w.heap.size) rfl) hf id);obtain⟨xk0,xl0⟩:=Blk.k1 B0.out;have X0:=hqZ (Row.carry HR.out (Fr.transN (Fr.r.alloc _) hf));clear HR;have X1:=hqZ (Row.mono (Z':=fun g=>w.heap.size+1<=g/\g < w1.heap.size) (hZ:=fun g h1 h2=>by simp only[aa,ae,ad,af]at h2;omega) (h:=hrow));clear hrow;clear hf))
 (go_wp2_with fail;refine(al _ _ _).mono ?_;rintro e w2 ⟨rfl,hf⟩;(have xs2:=Fr.size hf;have T0:=hqZ (Fr.transN T1.out hf);clear T1;have B1:=hqZ (Blk.next B0.out hf id);clear B0;obtain⟨xk1,xl1⟩:=Blk.k1 B1.out;have X2:=hqZ (Row.carry X0.out (Fr.transN Fr.r hf));clear X0;have X0:=hqZ (Row.carry X1.out (Fr.transN Fr.r hf));clear X1;clear hf;clear xk0))
 go_wp2
 refine bodyPost_ret (v:=(.agg #[.iface 202 (.agg #[.slice B l.length k])])) (by simp only[results,Tryz.results233];go_simp) rfl ?_
 exact⟨_,rfl,by exact Row.mono (h:=(Row.carry X0.out (Fr.r.set (.inl (by omega))))) (hZ:=fun g _ hg=>by omega),by exact(T0.out.set (.inr (Nat.le_refl _)))⟩
theorem oe(w:World)(Z:Nat->Prop)(s:ByteArray)(v:Value)(l:List Ex)(vs:List Value)(hrow:Row w Z v l.length 1 vs)(hl:RepL w Z l vs) :
  Calls Tryz.prog 261 #[.string s,v] w fun e w'=>∃ (B:Option Addr) (k:Nat),e = .returned (.agg #[.iface 200 (.agg #[.string s,.slice B l.length k])])/\Row w' (w.heap.size <= ·) (.slice B l.length k) l.length 1 vs/\New w w':=by
 have hu:=jq hl
 have HR:=hqZ hrow
 have HU:=hqZ hu
 have T0:=hqZ (Fr.refl (fun _=>False) w)
 clear hrow hl hu
 go_enter Tryz.func261,Tryz.ntmps261
 (go_wp2_with fail;refine(kq _ Z v _ _ (HR.out.frame (S:=fun _=>False) (by exact(T0.out.alloc _)) (fun _ _ _ h=>h)) HU.out).mono ?_;rintro e w1 ⟨B,k,rfl,hrow,hf⟩;(have xs0:=Fr.size hf;simp only[aa,ae,ad,af]at xs0;have T1:=hqZ (Fr.transN (T0.out.alloc _) hf);clear T0;have B0:=hqZ (Blk.next (Blk.at_ _ _ _ (n:=w.heap.size) rfl) hf id);obtain⟨xk0,xl0⟩:=Blk.k1 B0.out;have X0:=hqZ (Row.carry HR.out (Fr.transN (Fr.r.alloc _) hf));clear HR;have X1:=hqZ (Row.mono (Z':=fun g=>w.heap.size+1<=g/\g < w1.heap.size) (hZ:=fun g h1 h2=>by simp only[aa,ae,ad,af]at h2;omega) (h:=hrow));clear hrow;clear hf))
 (go_wp2_with fail;refine(al _ _ _).mono ?_;rintro e w2 ⟨rfl,hf⟩;(have xs2:=Fr.size hf;have T0:=hqZ (Fr.transN T1.out hf);clear T1;have B1:=hqZ (Blk.next B0.out hf id);clear B0;obtain⟨xk1,xl1⟩:=Blk.k1 B1.out;have X2:=hqZ (Row.carry X0.out (Fr.transN Fr.r hf));clear X0;have X0:=hqZ (Row.carry X1.out (Fr.transN Fr.r hf));clear X1;clear hf;clear xk0))
 go_wp2
 refine bodyPost_ret (v:=(.agg #[.iface 200 (.agg #[.string s,.slice B l.length k])])) (by simp only[results,Tryz.results261];go_simp) rfl ?_
 exact⟨_,_,rfl,by exact Row.mono (h:=(Row.carry X0.out (Fr.r.set (.inl (by omega))))) (hZ:=fun g _ hg=>by omega),by exact(T0.out.set (.inr (Nat.le_refl _)))⟩
theorem call_c:sk:=by
 intro w Z s v l vs hrow hl
 have HR:=hqZ hrow
 have HU:=hqZ hl
 have T0:=hqZ (Fr.refl (fun _=>False) w)
 clear hrow hl
 go_enter Tryz.func251,Tryz.ntmps251
 (go_wp2_with fail;refine(oe _ Z s v _ _ (HR.out.frame (S:=fun _=>False) (by exact(T0.out.alloc _)) (fun _ _ _ h=>h)) (HU.out.frame (S:=fun _=>False) (by exact(T0.out.alloc _)) (fun _ _ _ h=>h))).mono ?_;rintro e w1 ⟨B,k,rfl,hrow,hf⟩;(have xs0:=Fr.size hf;simp only[aa,ae,ad,af]at xs0;have T1:=hqZ (Fr.transN (T0.out.alloc _) hf);clear T0;have B0:=hqZ (Blk.next (Blk.at_ _ _ _ (n:=w.heap.size) rfl) hf id);obtain⟨xk0,xl0⟩:=Blk.k1 B0.out;have X0:=hqZ (RepL.carry HU.out (Fr.transN (Fr.r.alloc _) hf));clear HU;have X1:=hqZ (Row.carry HR.out (Fr.transN (Fr.r.alloc _) hf));clear HR;have X2:=hqZ (Row.mono (Z':=fun g=>w.heap.size+1<=g/\g < w1.heap.size) (hZ:=fun g h1 h2=>by simp only[aa,ae,ad,af]at h2;omega) (h:=hrow));clear hrow;clear hf))
 go_wp2
 refine bodyPost_ret (v:=(.agg #[.iface 200 (.agg #[.string s,.slice B l.length k])])) (by simp only[results,Tryz.results251];go_simp) rfl ?_
 exact⟨_,rfl,by exact Row.mono (h:=(Row.carry X2.out (Fr.r.set (.inl (by omega))))) (hZ:=fun g _ hg=>by omega),by exact(T1.out.set (.inr (Nat.le_refl _)))⟩
def rawE (_w:World)(_Z:Nat->Prop)(x:ByteArray × Value)(cs:List Value):Prop:=cs = [.string x.1,x.2]/\∃ t u,x.2 = .iface t u
instance rawOK:bq rawE 2 where
 frame:=fun h _ _=>h
 mono:=fun h _=>h
 len:=fun h=>by rw[h.1];rfl
 one:=fun⟨e,t,u,h⟩ v hv=>by rw[e]at hv;simp at hv;rcases hv with rfl|rfl;rfl;rw[h];rfl
theorem rawT:ElT 203 207 2 32:=⟨by kernel_rfl,by
 have h:(Tryz.prog.info? 207).map (fun i=>(i.zero.map (·.cells.size),i.size,i.bytes))=some (some 2,2,32):=by kernel_rfl
 obtain⟨i,hi⟩:∃ i,Tryz.prog.info? 207=some i:=by cases hh:Tryz.prog.info? 207 with|none=>rw[hh]at h;cases h|some i=>exact⟨i,rfl⟩
 rw[hi]at h
 simp at h
 obtain⟨⟨z,hz,hc⟩,h1,h2⟩:=h
 exact⟨i,z,hi,hz,h1,h2,hc⟩,by decide,by decide⟩
theorem ku{w:World}{Z:Nat->Prop}:∀ {l:List (ByteArray × Value)} {xs:List Value},EL rawE w Z l xs->xs=dU (l.map (·.1)) (l.map (·.2))
 | [],_,h=>by cases h;rfl
 | x::l,_,h=>by obtain⟨a,b,rfl,⟨rfl,_⟩,h2⟩:=h;rw[ku h2];rfl
theorem ky:∀ (ks:List ByteArray) (vs:List Value) (j:Nat) (k:ByteArray) (v:Value),ks[j]? = some k->vs[j]? = some v->(dU ks vs)[j * 2]? = some (.string k)/\(dU ks vs)[j * 2+1]? = some v
 | k0::ks,v0::vs,0,k,v,h1,h2=>by simp at h1 h2;subst h1 h2;exact⟨rfl,rfl⟩
 | k0::ks,v0::vs,j+1,k,v,h1,h2=>by
  have:=ky ks vs j k v (by simpa using h1) (by simpa using h2)
  rw[show(j+1) * 2=j * 2+1+1 from by omega]
  exact this
 | [],_,j,k,v,h1,_=>by simp at h1
 | _::_,[],j,k,v,_,h2=>by simp at h2
theorem lh:Tryz.prog.underlying 394=some (.map 123 3):=by kernel_rfl
theorem tStrT:Tryz.prog.underlying 123=some .string:=by kernel_rfl
theorem intZ(w:World):(zeroValue 3).run Tryz.prog w = .ok (.int .i64 0) w:=by kernel_rfl
theorem pX{l:List (ByteArray × Value)}{s:ByteArray}(h:∀ p ∈ l,p.1.toList ≠ s.toList):look l s=none:=by
 unfold look
 rw[Option.map_eq_none_iff,List.find?_eq_none]
 intro p hp
 have:=h p hp
 simp only[beq_iff_eq]
 rw[dl,dl]at this
 exact this
theorem il{P:Program}(w:World){ops:Array Oper}{rest:List Oper}{o:Oper}{a:Act}{Q:Exit->Act->World->Prop}(hg:o.guard=none)(m x:Operand)(t:TypeId)(hop:o.op=Op.lookup t m x true){k e:TypeId}(ht:P.underlying t=some (.map k e))(hk:P.underlying k=some .string){z:Value}(hz:(zeroValue e).run P w = .ok z w)
  {b:Nat} {l:List (ByteArray × Value)} (hm:a.eval m = .map (some b)) (h:MapL w b l) {s:ByteArray} (hx:a.eval x = .string s) (hn:look l s=none)
  (hK:wpList P ops Q rest (a.put o.dst (.tuple #[z,.bool false])) w):wpList P ops Q (o::rest) a w:=by
 refine cM w hg m x t hop ht hk hz hm h hx ?_
 rw[hn];exact hK
theorem Acc.form2{α:Type}{E:World->(Nat->Prop)->α->List Value->Prop}{w:World}{Z:Nat->Prop}{v:Value}{l:List α}{e:TypeId}{size:Nat}(h:Acc E w Z v l e size):∃ A cap,v = .slice A l.length cap:=by
 obtain⟨xs,h1,_⟩:=h
 rcases h1.2 with ⟨e,h⟩|⟨g,cap',cur,e,_⟩
 .exact⟨none,0,by rw[e,h]⟩
 .exact⟨_,_,e⟩
theorem Acc.row2{α:Type}{E:World->(Nat->Prop)->α->List Value->Prop}{size:Nat}[h:bq E size]{Z:Nat->Prop}{w:World}{v:Value}{l:List α}{e:TypeId}(k:Acc E w Z v l e size)(hl:l.length<=200000):∃ xs,Row w Z v l.length size xs/\EL E w Z l xs:=by
 obtain⟨xs,h1,h2,h3⟩:=k
 refine⟨xs,⟨h1.1,by omega,?_⟩,?_⟩
 .rcases h1.2 with ⟨hn,h0⟩|⟨g,cap,cur,e1,e2,e3,r⟩
  .exact⟨none,0,by rw[hn,h0],fun h=>by omega⟩
  .refine⟨some ⟨g,0,none⟩,cap,e1,fun _=>⟨g,rfl,h2 g (by rw[e1];rfl),(h1.lt g (by rw[e1];rfl)).2,fun j u hu=>?_⟩⟩
   have:=h1.cells (g:=g) (by rw[e1];rfl) j u hu
   rw[show(⟨g,j,none⟩:Addr)=(⟨g,0,none⟩:Addr).add j from by unfold Addr.add;split <;> simp_all]
   exact this
 .exact h3.mono h (fun g _ hg=>hg.1)
theorem recMake(n:Int)(w:World):(Instr.makeMap 394 (some (.int .i64 n))).run Tryz.prog w = .ok (.map (some w.heap.size)) (w.alloc (.map #[] 0)):=by
 simp[Instr.makeMap,run_underlying lh,asInt,newObj,Result.andThen]
 rfl
theorem rec_c:lR:=by
 intro w Z v ks l vs hrow hl hlen hpw
 have hv:=jq hl
 have hvl:=hl.length
 obtain⟨hL,hn,A,cap,rfl,hc⟩:=hrow
 have T0:=hqZ (Fr.refl (fun _=>False) w)
 have HV:=hqZ hv
 have HC:=hqZ hc
 have HPW:=hqZ hpw
 obtain⟨n,hnn⟩:∃ n,n=l.length:=⟨_,rfl⟩
 rw[<- hnn]at HC hn hL hvl hlen ⊢
 clear hnn
 have HL:=hqZ hL
 clear hv hc hpw hl hL
 have hmm:=recMake
 go_enter Tryz.func257,Tryz.ntmps257
 go_wp2
 go_loopg [14] n (fun k v wr=>∃ (j:Nat) (av:Value) (ml:List (ByteArray × Value)),v = .int .i64 (j:Int)/\j+k=n/\Fr (fun _=>False) w wr/\MapL wr (w.heap.size+1+1) ml/\ml.map (·.1)=ks.take j /\
  Blk wr w.heap.size #[.nilIface] 246/\Blk wr (w.heap.size+1) #[av] 205/\Acc rawE wr (fun g=>w.heap.size+1+1 < g) av ((ks.zip vs).take j) 207 2)
 case atStart =>
  refine⟨0,.slice none 0 0,[],rfl,by omega,by exact(((T0.out.alloc _).alloc _).alloc _),?_,rfl,by exact(((Blk.at_ _ _ _ (n:=w.heap.size) rfl).alloc _).alloc _),by exact((Blk.at_ _ _ _ (n:=w.heap.size+1) (by simp only[aa,ae,ad,af])).alloc _),Acc.nil _ _ _ _⟩
  have:=MapL.made ((w.alloc (.cells #[.nilIface] 246)).alloc (.cells #[.slice none 0 0] 205))
  simp only[aa]at this
  exact this
 case round =>
  obtain⟨j,av,ml,rfl,hj,hf,hm,hmk,hb1,hb2,hacc⟩:=hrel
  have HF0:=hqZ hf
  have HM:=hqZ hm
  have HMK:=hqZ hmk
  obtain⟨A',cap',rfl⟩:=Acc.form2 hacc
  have hn':((ks.zip vs).take j).length=j:=by rw[List.length_take,List.length_zip];omega
  rw[hn']at hacc hb2
  clear hn'
  have HVa:=hqZ hacc.lt
  have sz0:=hm.lt
  clear hm hmk
  (clear T0;have H0:=hqZ hf;have xs0:=Fr.size H0.out;clear hf;have H1:=hqZ hb1;obtain⟨xk0,xl0⟩:=Blk.k1 H1.out;clear hb1;have H2:=hqZ hb2;obtain⟨xk1,xl1⟩:=Blk.k1 H2.out;clear hb2;have H3:=hqZ (Acc.mono (Z':=fun g=>w.heap.size+1+1 < g/\g < wr.heap.size) (hZ:=fun g h1 h2=>⟨h2,h1⟩) (h:=hacc));clear hacc)
  cases hq2:decide ((j:Int) < (n:Int))
  case false =>
   have e:j=n:=by simp at hq2;omega
   subst e
   have hz:((ks.zip vs).take j)=ks.zip vs:=List.take_of_length_le (by rw[List.length_zip];omega)
   have hacc:Acc rawE wr (fun g=>w.heap.size+1+1 < g) (.slice A' j cap') (ks.zip vs) 207 2:=by rw[<- hz];exact Acc.mono (h:=H3.out) (hZ:=fun g _ hg=>by omega)
   obtain⟨xs,hrow,hel⟩:=Acc.row2 hacc (by rw[List.length_zip];omega)
   have hx:xs=dU ks vs:=by
    rw[ku hel,List.map_fst_zip (by omega),List.map_snd_zip (by omega)]
   subst hx
   have hll:(ks.zip vs).length=j:=by rw[List.length_zip];omega
   rw[hll]at hrow
   have HR:=hqZ hrow
   clear hacc hel hrow hz hll
   (go_wp2_with fail;refine(al _ _ _).mono ?_;rintro e w9 ⟨rfl,hf⟩;(have xs1:=Fr.size hf;have T0:=hqZ (Fr.transN HF0.out hf);clear HF0;have B0:=hqZ (Blk.next H1.out hf id);clear H1;obtain⟨xk2,xl2⟩:=Blk.k1 B0.out;have B1:=hqZ (Blk.next H2.out hf id);clear H2;obtain⟨xk3,xl3⟩:=Blk.k1 B1.out;have X0:=hqZ (Row.carry HR.out (Fr.transN Fr.r hf));clear HR;have X1:=hqZ (Acc.carry H3.out (Fr.transN Fr.r hf));clear H3;clear hf;clear xk0 xk1))
   go_wp2
   refine bodyPost_ret (v:=(.agg #[.iface 205 (.agg #[.slice A' j cap'])])) (by simp only[results,Tryz.results257];go_simp) rfl ?_
   exact⟨_,rfl,Row.mono (h:=by exact(Row.carry X0.out (Fr.r.set (.inl (by omega))))) (Z:=fun g=>w.heap.size+1+1 < g) (hZ:=fun g _ hg=>by omega),by exact(T0.out.set (.inr (Nat.le_refl _)))⟩
  have hlt:j < n:=by simp at hq2;omega
  obtain⟨g,eg,hZ,hg,hcell⟩:=HC.out (by omega)
  subst eg
  obtain⟨k,hk⟩:∃ k,ks[j]? = some k:=⟨_,List.getElem?_eq_getElem (by omega)⟩
  obtain⟨u,hu⟩:∃ u,vs[j]? = some u:=⟨_,List.getElem?_eq_getElem (by omega)⟩
  obtain⟨t,x,rfl⟩:=HV.out u (List.mem_of_getElem? hu)
  obtain⟨p1,p2⟩:=ky ks vs j k _ hk hu
  have e1:=(HF0.out.cell (p:=⟨g,j * 2,none⟩) hg id).trans (hcell _ _ p1)
  have e2:=(HF0.out.cell (p:=⟨g,j * 2+1,none⟩) hg id).trans (hcell _ _ p2)
  have hgw:g < wr.heap.size:=Nat.lt_of_lt_of_le hg HF0.out.size
  have hkn:=hqZ (show look ml k=none from pX fun p hp=>by
   have hm:p.1 ∈ ks.take j:=by rw[<- HMK.out];exact List.mem_map_of_mem hp
   obtain⟨i,hi,hi2⟩:=List.getElem_of_mem hm
   have hij:i < j:=by rw[List.length_take]at hi;omega
   have:=(List.pairwise_iff_getElem.1 HPW.out) i j (by omega) (by omega) hij
   rw[List.getElem_take]at hi2
   rw[<- hi2]
   rw[List.getElem?_eq_getElem (by omega)]at hk
   cases hk
   exact this)
  clear hcell p1 p2
  go_wp2_with (first|(at_lookup;refine bu ?_)|go_in)
  unfold Stop
  refine il _ rfl _ _ _ rfl lh tStrT (intZ _) rfl (HM.out.next (S:=fun _=>False) ?_ id) rfl hkn.out ?_
  .repeat' (with_reducible(first|exact Fr.refl _ _|apply Fr.drew|apply Fr.alloc))
  go_wp2_with (first|(at_mapUpdate;refine bu ?_)|go_in)
  unfold Stop
  refine dT _ rfl _ _ _ _ rfl lh tStrT rfl (HM.out.next (S:=fun _=>False) ?_ id) rfl rfl hkn.out ?_
  .repeat' (with_reducible(first|exact Fr.refl _ _|apply Fr.drew|apply Fr.alloc))
  intro w1 hm1 hf
  have HM:=hqZ hm1
  clear hm1
  (have xs1:=Fr.size hf;simp only[aa,ae,ad,af]at xs1;have T0:=hqZ (Fr.trans' (HF0.out.alloc _) hf (fun k hk hs=>by omega));clear HF0;have B0:=hqZ (Blk.next (H1.out.alloc _) hf (by show ¬ _;omega));clear H1;obtain⟨xk2,xl2⟩:=Blk.k1 B0.out;have B1:=hqZ (Blk.next (H2.out.alloc _) hf (by show ¬ _;omega));clear H2;obtain⟨xk3,xl3⟩:=Blk.k1 B1.out;have B2:=hqZ (Blk.next (Blk.at_ _ _ _ (n:=wr.heap.size) rfl) hf (by show ¬ _;omega));obtain⟨xk4,xl4⟩:=Blk.k2 B2.out;have X0:=hqZ (Acc.carry H3.out (Fr.trans' (Fr.r.alloc _) hf (fun k _ hs=>by omega)));clear H3;clear hf;clear xk0 xk1)
  go_wp2_with (at_builtin;refine bu ?_)
  unfold Stop
  refine Acc.push (E:=rawE) (Z:=fun g=>w.heap.size+1+1 < g) rawT rfl _ _ rfl rfl (by exact Acc.mono (h:=(Acc.carry X0.out (Fr.r.alloc _))) (hZ:=fun g _ hg=>by omega)) rfl (news:=[.string k,.iface t x]) (by exact(Blk.at_ _ _ _ (n:=w1.heap.size) rfl)) (y:=(k,.iface t x)) (Zy:=fun g=>False) ⟨rfl,_,_,rfl⟩ (fun k _ hk=>hk.elim) (by simp only[aa];omega) (by rw[List.length_take];omega) (S:=fun k=>w.heap.size+1+1 < k) (fun k e=>(HVa.out k e).2) ?_
  rintro v' v5 hacc hf
  obtain⟨A2,m2,c2,rfl⟩:∃ A n c,v' = .slice A n c:=by obtain⟨A2,c2,h⟩:=Acc.form2 hacc;exact⟨_,_,_,h⟩
  have HM:=hqZ (HM.out.next (S:=fun k=>w.heap.size+1+1 < k) (Fr.trans ((Fr.refl (fun k=>w.heap.size+1+1 < k) w1).alloc _) hf) (by show ¬ _ < _;omega))
  (have xs3:=Fr.size hf;simp only[aa,ae,ad,af]at xs3;have T1:=hqZ (Fr.trans' (T0.out.alloc _) hf (fun k hk hs=>by omega));clear T0;have B3:=hqZ (Blk.next (B0.out.alloc _) hf (by show ¬ _;omega));clear B0;obtain⟨xk0,xl5⟩:=Blk.k1 B3.out;have B0:=hqZ (Blk.next (B1.out.alloc _) hf (by show ¬ _;omega));clear B1;obtain⟨xk1,xl6⟩:=Blk.k1 B0.out;clear B2;clear X0;have X0:=hqZ (Acc.mono (Z':=fun g=>w.heap.size+1+1 < g/\g < v5.heap.size) (hZ:=fun g h1 h2=>⟨h2,h1⟩) (h:=hacc));clear hacc;clear hf;clear xk2 xk3 xk4)
  go_wp2
  go_roundg (gk - 1)
  case measure=>omega
  case rel =>
   have hz:(ks.zip vs).take (j+1)=(ks.zip vs).take j ++ [(k,.iface t x)]:=by
    rw[List.take_add_one,(List.getElem?_zip_eq_some (z:=(k,Value.iface t x))).2 ⟨hk,hu⟩];rfl
   refine⟨j+1,_,_,by push_cast;rfl,by omega,by exact(T1.out.set (.inr (by omega))),HM.out.next (S:=fun k=>k=w.heap.size+1) ?_ (by omega),?_,by exact(Blk.far B3.out (by omega)),by exact B0.out.s10,?_⟩
   .repeat' (with_reducible(first|exact Fr.refl _ _|apply Fr.drew|apply Fr.alloc|apply Fr.set))
    all_goals first|exact .inl rfl|exact .inr (by omega)
   .rw[List.map_append,HMK.out,List.take_add_one,hk];rfl
   .rw[hz];exact Acc.mono (h:=(Acc.carry X0.out (Fr.r.set (.inl (by omega))))) (hZ:=fun g _ hg=>by omega)
def kx:Part->Value
 | .star=>.iface 346 (.agg #[])
 | .txt s=>.iface 123 (.string ⟨s.toArray⟩)
def eJ (_w:World)(_Z:Nat->Prop)(x:Part)(cs:List Value):Prop:=cs = [kx x]
instance partOK:bq eJ 1 where
 frame:=fun h _ _=>h
 mono:=fun h _=>h
 len:=fun h=>by rw[h];rfl
 one:=fun {_ _ x _} h v hv=>by rw[h]at hv;simp at hv;rw[hv];cases x <;> rfl
theorem mF:ElT 290 20 1 16:=⟨by kernel_rfl,by
 have h:(Tryz.prog.info? 20).map (fun i=>(i.zero.map (·.cells.size),i.size,i.bytes))=some (some 1,1,16):=by kernel_rfl
 obtain⟨i,hi⟩:∃ i,Tryz.prog.info? 20=some i:=by cases hh:Tryz.prog.info? 20 with|none=>rw[hh]at h;cases h|some i=>exact⟨i,rfl⟩
 rw[hi]at h
 simp at h
 obtain⟨⟨z,hz,hc⟩,h1,h2⟩:=h
 exact⟨i,z,hi,hz,h1,h2,hc⟩,by decide,by decide⟩
theorem jk{w:World}{Z:Nat->Prop}:∀ {l:List Part} {xs:List Value},EL eJ w Z l xs->xs=l.map kx
 | [],_,h=>by cases h;rfl
 | x::l,_,h=>by obtain⟨a,b,rfl,rfl,h2⟩:=h;rw[jk h2];rfl
def dI (_w:World)(_Z:Nat->Prop)(x:Bool × List UInt8)(cs:List Value):Prop:=cs = [.bool x.1,.string ⟨x.2.toArray⟩]
instance compOK:bq dI 2 where
 frame:=fun h _ _=>h
 mono:=fun h _=>h
 len:=fun h=>by rw[h];rfl
 one:=fun h v hv=>by rw[h]at hv;simp at hv;rcases hv with rfl|rfl <;> rfl
theorem compT:ElT 181 300 2 24:=⟨by kernel_rfl,by
 have h:(Tryz.prog.info? 300).map (fun i=>(i.zero.map (·.cells.size),i.size,i.bytes))=some (some 2,2,24):=by kernel_rfl
 obtain⟨i,hi⟩:∃ i,Tryz.prog.info? 300=some i:=by cases hh:Tryz.prog.info? 300 with|none=>rw[hh]at h;cases h|some i=>exact⟨i,rfl⟩
 rw[hi]at h
 simp at h
 obtain⟨⟨z,hz,hc⟩,h1,h2⟩:=h
 exact⟨i,z,hi,hz,h1,h2,hc⟩,by decide,by decide⟩
theorem jG{w:World}{Z:Nat->Prop}:∀ {l:List (Bool × List UInt8)} {xs:List Value},EL dI w Z l xs->xs=bH l
 | [],_,h=>by cases h;rfl
 | x::l,_,h=>by obtain⟨a,b,rfl,rfl,h2⟩:=h;rw[jG h2];rfl
theorem nA(w:World)(Z:Nat->Prop):∀ l:List (Bool × List UInt8),EL dI w Z l (bH l)
 | []=>rfl
 | x::l=>⟨_,_,rfl,rfl,nA w Z l⟩
theorem dh(l:List (Bool × List UInt8)):(bH l).length=l.length * 2:=by
 induction l with
 | nil=>rfl
 | cons x l ih =>
  show([_,_]++bH l).length=_
  rw[List.length_append,ih,List.length_cons];simp;omega
theorem fg(D:List (Bool × List UInt8))(x:Bool × List UInt8):bH (D ++ [x])=bH D ++ [.bool x.1,.string ⟨x.2.toArray⟩]:=by simp[bH]
theorem kP{w:World}{Z:Nat->Prop}{v:Value}{D:List (Bool × List UInt8)}{b:Bool}{t:List UInt8}{e:TypeId}(h:Acc dI w Z v (D ++ [(b,t)]) e 2) :
  ∃ g cap,v = .slice (some ⟨g,0,none⟩) (D.length+1) cap/\Z g/\g < w.heap.size:=by
 obtain⟨xs,h1,h2,h3⟩:=h
 have hl:(D ++ [(b,t)]).length=D.length+1:=by simp
 rw[hl]at h1
 have hlt:=h1.lt
 rcases h1.2 with ⟨_,h0⟩|⟨g,cap,cur,rfl,_⟩
 .omega
 .exact⟨g,cap,rfl,h2 g rfl,(hlt g rfl).2⟩
theorem kO{w:World}{Z:Nat->Prop}{g cap m:Nat}{D:List (Bool × List UInt8)}{b:Bool}{t:List UInt8}{e:TypeId}(hm:D.length=m)(h:Acc dI w Z (.slice (some ⟨g,0,none⟩) (m+1) cap) (D ++ [(b,t)]) e 2) :
  w.cell? ⟨g,m * 2+1,none⟩=some (.string ⟨t.toArray⟩)/\w.frozen? ⟨g,m * 2+1,none⟩=false /\
   ∀ t':List UInt8,Acc dI (w.setCell ⟨g,m * 2+1,none⟩ (.string ⟨t'.toArray⟩)) Z (.slice (some ⟨g,0,none⟩) (m+1) cap) (D ++ [(b,t')]) e 2:=by
 subst hm
 obtain⟨xs,h1,h2,h3⟩:=h
 have hx:=jG h3
 subst hx
 have hl:(D ++ [(b,t)]).length=D.length+1:=by simp
 rw[hl]at h1
 refine⟨?_,h1.frozenAt _,fun t'=>?_⟩
 .rw[h1.cellAt _ (by omega),fg,List.getElem?_append_right (by rw[dh];omega),dh,Nat.add_sub_cancel_left];rfl
 .refine⟨bH (D ++ [(b,t')]),?_,h2,nA _ _ _⟩
  have hs:=(h1.stored (D.length * 2+1) (.string ⟨t'.toArray⟩)).1
  rw[show(D ++ [(b,t')]).length=D.length+1 from by simp]
  rw[fg]at hs ⊢
  rw[List.set_append_right _ _ (by rw[dh];omega),dh,Nat.add_sub_cancel_left]at hs
  exact hs
theorem rR(w:World)(Z:Nat->Prop)(b:Bool)(t:List UInt8)(hZ:Z w.heap.size):Acc dI (w.alloc (.cells #[.bool b,.string ⟨t.toArray⟩] 300)) Z (.slice (some ⟨w.heap.size,0,none⟩) 1 1) ([] ++ [(b,t)]) 300 2 :=
 ⟨_,World.ownsRow_lit w _ 1 (Nat.zero_le _) (by unfold maxLen;omega) rfl,fun k hk=>by cases hk;exact hZ,⟨_,_,rfl,rfl,rfl⟩⟩
theorem pF(a b:List UInt8):(⟨a.toArray⟩:ByteArray)++⟨b.toArray⟩=⟨(a++b).toArray⟩:=by
 refine lM ?_
 simp
theorem asW9(W:World)(v:Value):(Instr.typeAssert (.iface 346 v) 20 9 true).run Tryz.prog W = .ok (.tuple #[.string ByteArray.empty,.bool false]) W:=by kernel_rfl
theorem asWS(W:World)(v:Value):(Instr.typeAssert (.iface 346 v) 20 123 true).run Tryz.prog W = .ok (.tuple #[.string ByteArray.empty,.bool false]) W:=by kernel_rfl
theorem asWW(W:World)(v:Value):(Instr.typeAssert (.iface 346 v) 20 346 true).run Tryz.prog W = .ok (.tuple #[v,.bool true]) W:=by kernel_rfl
theorem asS9(W:World)(v:Value):(Instr.typeAssert (.iface 123 v) 20 9 true).run Tryz.prog W = .ok (.tuple #[.string ByteArray.empty,.bool false]) W:=by kernel_rfl
theorem asSS(W:World)(v:Value):(Instr.typeAssert (.iface 123 v) 20 123 true).run Tryz.prog W = .ok (.tuple #[v,.bool true]) W:=by kernel_rfl
theorem od(w:World)(Zin:Nat->Prop)(v:Value)(parts:List Part)(h:Row w Zin v parts.length 1 (parts.map kx))(hc:parts.countP cT<=150001)(ht:tl parts<=1000000000000) :
  Calls Tryz.prog 206 #[v] w fun e w'=>∃ (A:Option Addr) (n cap:Nat),e = .returned (.agg #[.slice A n cap])/\Row w' (w.heap.size <= ·) (.slice A n cap) (ba parts []).length 2 (bH (ba parts []))/\New w w':=by
 obtain⟨hL,hn,A,cap,rfl,hcell⟩:=h
 have T0:=hqZ (Fr.refl (fun _=>False) w)
 have HC:=hqZ hcell
 obtain⟨n,hnn⟩:∃ n,n=parts.length:=⟨_,rfl⟩
 rw[<- hnn]at HC hn ⊢
 have HNN:=hqZ hnn
 clear hcell hL hnn
 go_enter Tryz.func206,Tryz.ntmps206
 go_wp2
 go_loopg [3,12] n (fun k v3 v12 wr=>∃ j:Nat,v12 = .int .i64 (j:Int)/\j+k=n/\Fr (fun _=>False) w wr/\Blk wr w.heap.size #[.slice none 0 0] 183/\Acc dI wr (fun g=>w.heap.size < g) v3 (ba (parts.take j) []) 300 2)
 case atStart=>exact⟨0,rfl,by omega,by exact(T0.out.alloc _),by exact(Blk.at_ _ _ _ (n:=w.heap.size) rfl),Acc.nil _ _ _ _⟩
 case round =>
  obtain⟨j,rfl,hj,hf,hb1,hacc⟩:=hrel
  have HF0:=hqZ hf
  obtain⟨C,hC⟩:∃ C,C=ba (parts.take j) []:=⟨_,rfl⟩
  rw[<- hC]at hacc
  have HCe:=hqZ hC
  have hCl:C.length<=150002:=by
   have h1:=kN (parts.take j) []
   have h2:(parts.take j).countP cT<=parts.countP cT:=(List.take_sublist j parts).countP_le
   rw[<- hC]at h1
   simp only[List.length_nil]at h1
   omega
  have sz0:=hb1.lt
  obtain⟨A',cap',rfl⟩:=Acc.form2 hacc
  have HVa:=hqZ hacc.lt
  clear hC
  (clear T0;have H0:=hqZ hf;have xs0:=Fr.size H0.out;clear hf;have H1:=hqZ hb1;obtain⟨xk0,xl0⟩:=Blk.k1 H1.out;clear hb1;have H2:=hqZ (Acc.mono (Z':=fun g=>w.heap.size < g/\g < wr.heap.size) (hZ:=fun g h1 h2=>⟨h2,h1⟩) (h:=hacc));clear hacc)
  cases hq2:decide ((j:Int) < (n:Int))
  case false =>
   have e:j=n:=by simp at hq2;omega
   subst e
   have hfin:ba parts []=C:=by rw[HCe.out,HNN.out,List.take_length]
   have hacc:Acc dI wr (fun g=>w.heap.size < g) (.slice A' C.length cap') C 300 2:=by exact Acc.mono (h:=H2.out) (hZ:=fun g _ hg=>by omega)
   obtain⟨xs,hrow,hel⟩:=Acc.row2 hacc (by omega)
   have hx:=jG hel
   subst hx
   have HR:=hqZ hrow
   have HFIN:=hqZ hfin
   clear hacc hel hrow hfin
   go_wp2
   refine bodyPost_ret (v:=(.agg #[.slice A' C.length cap'])) (by simp only[results,Tryz.results206];go_simp) rfl ?_
   rw[HFIN.out]
   exact⟨_,_,_,rfl,Row.mono (h:=by exact(Row.carry HR.out (Fr.r.set (.inl (by omega))))) (Z:=fun g=>w.heap.size < g) (hZ:=fun g _ hg=>by omega),by exact(HF0.out.set (.inr (Nat.le_refl _)))⟩
  have hlt:j < n:=by simp at hq2;omega
  obtain⟨g,eg,hZ,hg,hcell⟩:=HC.out (by omega)
  subst eg
  obtain⟨x,hx⟩:∃ x,parts[j]? = some x:=⟨_,List.getElem?_eq_getElem (by rw[<- HNN.out];exact hlt)⟩
  have e1:=(HF0.out.cell (p:=⟨g,j,none⟩) hg id).trans (hcell j _ (by rw[List.getElem?_map,hx];rfl))
  have HTK:=hqZ (show ba (parts.take (j+1)) []=bJ C x from by
   rw[List.take_add_one,hx]
   show ba (parts.take j ++ [x]) []=_
   rw[jF,<- HCe.out])
  have HTL:=hqZ (show cl C+pl x<=tl parts from by rw[HCe.out,nB];have:=tl_take hx;simp only[cl,List.map_nil,List.sum_nil];omega)
  clear hx hcell HCe
  have hgw:g < wr.heap.size:=Nat.lt_of_lt_of_le hg HF0.out.size
  have q1:=asW9
  have q2:=asWS
  have q3:=asWW
  have q4:=asS9
  have q5:=asSS
  cases x with
  | star =>
   simp only[kx]at e1
   rcases List.eq_nil_or_concat C with rfl|⟨D,⟨b,t⟩,hD⟩
   .go_wp2_with (at_builtin;refine bu ?_)
    unfold Stop
    refine Acc.push (E:=dI) (Z:=fun g=>w.heap.size < g) compT rfl _ _ rfl rfl (by exact Acc.mono (h:=(Acc.carry H2.out ((Fr.r.alloc _).alloc _))) (hZ:=fun g _ hg=>by omega)) rfl (news:=[.bool true,.string ⟨#[]⟩]) (by exact(Blk.at_ _ _ _ (n:=wr.heap.size+1) (by simp only[aa,ae,ad,af]))) (y:=(true,[])) (Zy:=fun g=>False) rfl (fun k _ hk=>hk.elim) (by simp only[aa];omega) (by simp) (S:=fun k=>w.heap.size < k) (fun k e=>(HVa.out k e).2) ?_
    rintro v' v5 hacc hf
    (have xs1:=Fr.size hf;simp only[aa,ae,ad,af]at xs1;have T0:=hqZ (Fr.trans' ((HF0.out.alloc _).alloc _) hf (fun k hk hs=>by omega));clear HF0;have B0:=hqZ (Blk.next ((H1.out.alloc _).alloc _) hf (by show ¬ _;omega));clear H1;obtain⟨xk1,xl1⟩:=Blk.k1 B0.out;clear H2;have X0:=hqZ (Acc.mono (Z':=fun g=>w.heap.size < g/\g < v5.heap.size) (hZ:=fun g h1 h2=>⟨h2,h1⟩) (h:=hacc));clear hacc;clear hf;clear xk0)
    go_wp2
    go_roundg (gk - 1)
    case measure=>omega
    case rel=>exact⟨j+1,by push_cast;rfl,by omega,by exact T0.out,by exact B0.out,by rw[HTK.out];exact Acc.mono (h:=X0.out) (hZ:=fun g _ hg=>by omega)⟩
   ·
    rw[List.concat_eq_append]at hD
    subst hD
    obtain⟨g2,cap2,hv2,hz2,hg2⟩:=kP (show Acc dI wr (fun g=>w.heap.size < g) _ _ 300 2 from by exact Acc.mono (h:=H2.out) (hZ:=fun g _ hg=>by omega))
    simp only[Value.slice.injEq]at hv2
    obtain⟨rfl,_,rfl⟩:=hv2
    obtain⟨m,hm⟩:∃ m,m=D.length:=⟨_,rfl⟩
    have hlen:(D ++ [(b,t)]).length=m+1:=by simp[hm]
    rw[hlen]at hCl
    rw[hlen]at H2 HVa ⊢
    obtain⟨c1,z1,hset⟩:=kO hm.symm (show Acc dI wr (fun g=>w.heap.size < g) (.slice (some ⟨g2,0,none⟩) (m+1) cap') (D ++ [(b,t)]) 300 2 from by exact Acc.mono (h:=H2.out) (hZ:=fun g _ hg=>by omega))
    have hml:m<=150002:=by omega
    have hw:IntKind.i64.wrap (m:Int)=(m:Int):=IntWalk.i64_in _ (by omega)
    have hlm:(m:Int) < (m:Int)+1:=by omega
    have hm0:¬ (m:Int)+1=0:=by omega
    have hmp:(0:Int)<=(m:Int):=by omega
    have HM:=hqZ hm
    have HSET:=hqZ hset
    clear hm hlen hset
    cases t with
    | nil =>
     go_wp2
     go_roundg (gk - 1)
     case measure=>omega
     case rel=>exact⟨j+1,by push_cast;rfl,by omega,by exact(HF0.out.alloc _),by exact(H1.out.alloc _),by rw[HTK.out,fl,if_pos rfl];exact Acc.mono (h:=(Acc.carry H2.out (Fr.r.alloc _))) (hZ:=fun g _ hg=>by omega)⟩
    | cons a t =>
     go_wp2_with (at_builtin;refine bu ?_)
     unfold Stop
     refine Acc.push (E:=dI) (Z:=fun g=>w.heap.size < g) compT rfl _ _ rfl rfl (by exact Acc.mono (h:=(Acc.carry H2.out ((Fr.r.alloc _).alloc _))) (hZ:=fun g _ hg=>by omega)) rfl (news:=[.bool true,.string ⟨#[]⟩]) (by exact(Blk.at_ _ _ _ (n:=wr.heap.size+1) (by simp only[aa,ae,ad,af]))) (y:=(true,[])) (Zy:=fun g=>False) rfl (fun k _ hk=>hk.elim) (by simp only[aa];omega) (by rw[List.length_append,<- HM.out];simp;omega) (S:=fun k=>w.heap.size < k) (fun k e=>(HVa.out k e).2) ?_
     rintro v' v5 hacc hf
     (have xs1:=Fr.size hf;simp only[aa,ae,ad,af]at xs1;have T0:=hqZ (Fr.trans' ((HF0.out.alloc _).alloc _) hf (fun k hk hs=>by omega));clear HF0;have B0:=hqZ (Blk.next ((H1.out.alloc _).alloc _) hf (by show ¬ _;omega));clear H1;obtain⟨xk1,xl1⟩:=Blk.k1 B0.out;clear H2;have X0:=hqZ (Acc.mono (Z':=fun g=>w.heap.size < g/\g < v5.heap.size) (hZ:=fun g h1 h2=>⟨h2,h1⟩) (h:=hacc));clear hacc;clear hf;clear xk0)
     go_wp2
     go_roundg (gk - 1)
     case measure=>omega
     case rel=>exact⟨j+1,by push_cast;rfl,by omega,by exact T0.out,by exact B0.out,by rw[HTK.out,fl,if_neg (by simp)];exact Acc.mono (h:=X0.out) (hZ:=fun g _ hg=>by omega)⟩
  | txt s =>
   simp only[kx]at e1
   rcases List.eq_nil_or_concat C with rfl|⟨D,⟨b,t⟩,hD⟩
   .have hs9:¬ 9223372036854775807 < s.length:=by have:=HTL.out;simp only[pl]at this;omega
    go_wp2
    rw[show({ data:=#[] }:ByteArray)++{ data:=s.toArray }={ data:=s.toArray } from pF [] s]
    go_roundg (gk - 1)
    case measure=>omega
    case rel=>exact⟨j+1,by push_cast;rfl,by omega,by exact(HF0.out.alloc _),by exact(H1.out.alloc _),by rw[HTK.out,gi];exact rR wr _ false s sz0⟩
   ·
    rw[List.concat_eq_append]at hD
    subst hD
    obtain⟨g2,cap2,hv2,hz2,hg2⟩:=kP (show Acc dI wr (fun g=>w.heap.size < g) _ _ 300 2 from by exact Acc.mono (h:=H2.out) (hZ:=fun g _ hg=>by omega))
    simp only[Value.slice.injEq]at hv2
    obtain⟨rfl,_,rfl⟩:=hv2
    obtain⟨m,hm⟩:∃ m,m=D.length:=⟨_,rfl⟩
    have hlen:(D ++ [(b,t)]).length=m+1:=by simp[hm]
    rw[hlen]at hCl
    rw[hlen]at H2 HVa ⊢
    obtain⟨c1,z1,hset⟩:=kO hm.symm (show Acc dI wr (fun g=>w.heap.size < g) (.slice (some ⟨g2,0,none⟩) (m+1) cap') (D ++ [(b,t)]) 300 2 from by exact Acc.mono (h:=H2.out) (hZ:=fun g _ hg=>by omega))
    have hml:m<=150002:=by omega
    have hw:IntKind.i64.wrap (m:Int)=(m:Int):=IntWalk.i64_in _ (by omega)
    have hlm:(m:Int) < (m:Int)+1:=by omega
    have hm0:¬ (m:Int)+1=0:=by omega
    have hmp:(0:Int)<=(m:Int):=by omega
    have HM:=hqZ hm
    have HSET:=hqZ hset
    clear hm hlen hset
    have hs9:¬ 9223372036854775807 < t.length+s.length:=by have:=HTL.out;rw[lK]at this;simp only[pl]at this;omega
    go_wp2
    rw[pF]
    go_roundg (gk - 1)
    case measure=>omega
    case rel=>exact⟨j+1,by push_cast;rfl,by omega,by exact(HF0.out.set (.inr (by omega))),by exact(Blk.far H1.out (by omega)),by rw[HTK.out,iZ];exact HSET.out (t++s)⟩
end Go.Proofs.YtbdhlpeckennjaaGreatDoor
