/- FnLong (the proof that the law returns true for every input), part 43 of 52; the last part says what is proved, and its condition. -/
import Derived.Deep.RegionHeld3
import Derived.Deep.DeepCutAuto
import Derived.Deep.CutBlock
import Derived.Test.YtbdhlpeckennjaaGreatDoorM42
set_option linter.unusedVariables false
set_option linter.unusedSimpArgs false
set_option maxHeartbeats 80000000
set_option maxRecDepth 1000000
namespace Go.Proofs.YtbdhlpeckennjaaGreatDoor
open Go Go.RowKit
attribute [local go_sem ↓] jy jz
def PPX (w:World)(p:Pol)(e:Ending)(w':World):Prop :=
 ∃ (A1 A2 A3 A4 A5:Option Addr) (n1 m1 n2 m2 n3 m3 n4 m4 n5 m5:Nat),e = .returned (.tuple #[.agg #[.bool p.forbid,.slice A1 n1 m1,.int .i64 (p.principal.kind:Nat),.string p.principal.ent.1,.string p.principal.ent.2,.slice A2 n2 m2,.string p.principal.ty,.int .i64 (p.action.kind:Nat),.string p.action.ent.1,.string p.action.ent.2,.slice A3 n3 m3,.string p.action.ty,
  .int .i64 (p.resource.kind:Nat),.string p.resource.ent.1,.string p.resource.ent.2,.slice A4 n4 m4,.string p.resource.ty,.slice A5 n5 m5],.bool true]) /\
  Hid (PP w' (w.heap.size <= ·) p [.bool p.forbid,.slice A1 n1 m1,.int .i64 (p.principal.kind:Nat),.string p.principal.ent.1,.string p.principal.ent.2,.slice A2 n2 m2,.string p.principal.ty,.int .i64 (p.action.kind:Nat),.string p.action.ent.1,.string p.action.ent.2,.slice A3 n3 m3,.string p.action.ty,
  .int .i64 (p.resource.kind:Nat),.string p.resource.ent.1,.string p.resource.ent.2,.slice A4 n4 m4,.string p.resource.ty,.slice A5 n5 m5])/\New w w'
def SCH (s:Scp)(v:Value)(w:World):Prop:=∀ W,Fr (fun _=>False) w W->Calls Tryz.prog 48 #[v] W fun e w'=>∃ (A:Option Addr) (n c:Nat),e = .returned (.agg #[.int .i64 (s.kind:Nat),.string s.ent.1,.string s.ent.2,.slice A n c,.string s.ty])/\Row w' (W.heap.size <= ·) (.slice A n c) s.list.length 2 (aV s.list)/\New W w'
theorem pp_mk{w wy wr ws W:World}{b:Nat}{pf:Bool}{nts:List (ByteArray × ByteArray)}{cds:List (Bool × Ex)}{k1 k2 k3:Nat}{e1 i1 y1 e2 i2 y2 e3 i3 y3:ByteArray}{l1 l2 l3:List (ByteArray × ByteArray)}{nv cv:Value}{ys xs:List Value}{B1 B2 B3:Option Addr}{m1 d1 m2 d2 m3 d3:Nat}
  (hb:w.heap.size < b) (hby:b < wy.heap.size) (r1:Row wy (fun g=>w.heap.size < g/\g ≠ b) (.slice B1 m1 d1) l1.length 2 (aV l1)) (r2:Row wy (fun g=>w.heap.size < g/\g ≠ b) (.slice B2 m2 d2) l2.length 2 (aV l2)) (r3:Row wy (fun g=>w.heap.size < g/\g ≠ b) (.slice B3 m3 d3) l3.length 2 (aV l3))
  (hn:Row wr (fun g=>wy.heap.size<=g) nv nts.length 2 ys) (hne:EL ntE wr (fun g=>wy.heap.size<=g) nts ys) (hc:Row ws (fun g=>wr.heap.size<=g) cv cds.length 12 xs) (hce:EL cxE ws (fun g=>wr.heap.size<=g) cds xs)
  (f0:w.heap.size<=wy.heap.size) (f1:Fr (fun g=>g=b) wy wr) (f2:Fr (fun g=>g=b) wr ws) (f3:Fr (fun g=>g=b\/g=w.heap.size) ws W) :
  PP W (w.heap.size <= ·) ⟨pf,nts,⟨k1,(e1,i1),l1,y1⟩,⟨k2,(e2,i2),l2,y2⟩,⟨k3,(e3,i3),l3,y3⟩,cds⟩ [.bool pf,nv,.int .i64 (k1:Nat),.string e1,.string i1,.slice B1 m1 d1,.string y1,.int .i64 (k2:Nat),.string e2,.string i2,.slice B2 m2 d2,.string y2,.int .i64 (k3:Nat),.string e3,.string i3,.slice B3 m3 d3,.string y3,cv]:=by
 have g1:=f1.size
 have E1:Fr (fun g=>g=b\/g=w.heap.size) wy wr:=f1.mono fun _ _ h=>.inl h
 have E2:Fr (fun g=>g=b\/g=w.heap.size) wr ws:=f2.mono fun _ _ h=>.inl h
 have g2:=f2.size
 have fr:=fun {A:Option Addr} {m d:Nat} {l:List (ByteArray × ByteArray)} (r:Row wy (fun g=>w.heap.size < g/\g ≠ b) (.slice A m d) l.length 2 (aV l))=>(Row.mono (h:=Row.frame (S:=fun g=>g=b\/g=w.heap.size) r ((E1.trans E2).trans f3) (fun g h _ e=>e.elim h.2 (fun e=>by omega))) (hZ:=fun g _ h=>Nat.le_of_lt h.1):Row W (w.heap.size <= ·) (.slice A m d) l.length 2 (aV l))
 exact⟨nv,cv,[_,_,_,_,_],[_,_,_,_,_],[_,_,_,_,_],xs,ys,rfl,Row.mono (h:=Row.frame hn (E2.trans f3) (fun g h _ e=>by rcases e with e|e <;> omega)) (hZ:=fun g _ h=>Nat.le_trans f0 h),EL.mono ntOK (EL.frame ntOK hne (E2.trans f3) (fun g h _ e=>by rcases e with e|e <;> omega)) (fun g _ h=>Nat.le_trans f0 h),
  ⟨B1,m1,d1,rfl,fr r1⟩,⟨B2,m2,d2,rfl,fr r2⟩,⟨B3,m3,d3,rfl,fr r3⟩,Row.mono (h:=Row.frame hc f3 (fun g h _ e=>by rcases e with e|e <;> omega)) (hZ:=fun g _ h=>by omega),EL.mono cxOK (EL.frame cxOK hce f3 (fun g h _ e=>by rcases e with e|e <;> omega)) (fun g _ h=>by omega)⟩
theorem nT(w wc:World)(q b:Nat)(pf:Bool)(nts:List (ByteArray × ByteArray))(cds:List (Bool × Ex))(k1 k2 k3:Nat)(e1 i1 y1 e2 i2 y2 e3 i3 y3:ByteArray)(l1 l2 l3:List (ByteArray × ByteArray))(B1 B2 B3:Option Addr)(m1 d1 m2 d2 m3 d3:Nat)(wn wr:World)(A' D':Option Addr)(j cap' j2 capd:Nat)(ys xs:List Value)(HR1:Hid (Unit->Row wc (fun g=>w.heap.size < g/\g ≠ b) (.slice B1 m1 d1) l1.length 2 (aV l1)))(HR2:Hid (Unit->Row wc (fun g=>w.heap.size < g/\g ≠ b) (.slice B2 m2 d2) l2.length 2 (aV l2)))(HR3:Hid (Unit->Row wc (fun g=>w.heap.size < g/\g ≠ b) (.slice B3 m3 d3) l3.length 2 (aV l3)))(hbl:w.heap.size < b)(hbw:b < wc.heap.size)(hww:w.heap.size<=wc.heap.size)
  (HF1:Hid (Unit->Fr (fun g=>g=b) wc wn)) (HF2:Hid (Unit->Fr (fun g=>g=b) wn wr)) (HW2:Hid (Unit->Fr (fun _=>False) w wr)) (HBe:Hid (Blk wr b #[.bool pf,.slice A' j cap',.int .i64 (k1:Nat),.string e1,.string i1,.slice B1 m1 d1,.string y1,.int .i64 (k2:Nat),.string e2,.string i2,.slice B2 m2 d2,.string y2,.int .i64 (k3:Nat),.string e3,.string i3,.slice B3 m3 d3,.string y3,.slice D' j2 capd] 43)) (HROW:Hid (Unit->Row wn (fun g=>wc.heap.size<=g) (.slice A' j cap') nts.length 2 ys)) (HEL:Hid (EL ntE wn (fun g=>wc.heap.size<=g) nts ys))
  (HROWC:Hid (Unit->Row wr (fun g=>wn.heap.size<=g) (.slice D' j2 capd) cds.length 12 xs)) (HELC:Hid (EL cxE wr (fun g=>wn.heap.size<=g) cds xs)) (HRes:Hid (Unit->Blk wc w.heap.size #[.bool false,.slice none 0 0,.int .i64 0,.string ⟨#[]⟩,.string ⟨#[]⟩,.slice none 0 0,.string ⟨#[]⟩,.int .i64 0,.string ⟨#[]⟩,.string ⟨#[]⟩,.slice none 0 0,.string ⟨#[]⟩,.int .i64 0,.string ⟨#[]⟩,.string ⟨#[]⟩,.slice none 0 0,.string ⟨#[]⟩,.slice none 0 0] 43))
  (v1 v3 v5 v6 v7 v8 v9 v10 v11 v12 v13 v14 v15 v16 v17 v18 v19 v20 v21 v22 v23 v24 v25 v26 v27 v28 v29 v30 v31 v32 v33 v34 v35 v36 v37 v38 v39 v40 v41 v42 v43 v44 v45 v46 v47 v48 v49 v50 v51 v52 v53 v54 v55 v56 v57 v58 v59 v60 v61 v62 v63 v64 v65 v66 v67 v68 v69 v70 v71 v72 v73 v74 v75 v76 v77 v78 v79 v80 v81:Value):Code.wp Tryz.prog (sndC (sndC (sndC (sndC (Tryz.f37.body.getD .skip))))) (bodyPost Tryz.prog Tryz.f37 (PPX w ⟨pf,nts,⟨k1,(e1,i1),l1,y1⟩,⟨k2,(e2,i2),l2,y2⟩,⟨k3,(e3,i3),l3,y3⟩,cds⟩)) { tmps:=#[.pointer (some ⟨q,0,none⟩),v1,.pointer (some ⟨w.heap.size,0,none⟩),v3,.pointer (some ⟨b,0,none⟩),v5,v6,v7,v8,v9,v10,v11,v12,v13,v14,v15,v16,v17,v18,v19,v20,v21,v22,v23,v24,v25,v26,v27,v28,v29,v30,v31,v32,v33,v34,v35,v36,v37,v38,v39,v40,v41,v42,v43,v44,v45,v46,v47,v48,v49,v50,v51,v52,v53,v54,v55,v56,v57,v58,v59,v60,v61,v62,v63,v64,v65,v66,v67,v68,v69,v70,v71,v72,v73,v74,v75,v76,v77,v78,v79,v80,v81],defers:=[] } wr:=by
 have hres:=((HRes.out ()).next ((HF1.out ()).trans (HF2.out ())) (by show ¬ _;omega))
 have hSTr:=stC hres rfl
 have HRes2:=hqZ (fun(_:Unit)=>hres)
 obtain⟨ho1,ho2,ho3,ho4⟩:=ones
 obtain⟨hg1,hg2⟩:=getC HBe.out rfl
 clear hres
 conv=>arg 2;whnf
 go_wp2_with fail
 refine bodyPost_ret (v:=.tuple #[.agg #[.bool pf,.slice A' j cap',.int .i64 (k1:Nat),.string e1,.string i1,.slice B1 m1 d1,.string y1,.int .i64 (k2:Nat),.string e2,.string i2,.slice B2 m2 d2,.string y2,.int .i64 (k3:Nat),.string e3,.string i3,.slice B3 m3 d3,.string y3,.slice D' j2 capd],.bool true]) (res2 Tryz.results37 rfl (getV (Blk.rowPut (HRes2.out ()) [.bool pf,.slice A' j cap',.int .i64 (k1:Nat),.string e1,.string i1,.slice B1 m1 d1,.string y1,.int .i64 (k2:Nat),.string e2,.string i2,.slice B2 m2 d2,.string y2,.int .i64 (k3:Nat),.string e3,.string i3,.slice B3 m3 d3,.string y3,.slice D' j2 capd] rfl rfl) rfl) rfl) rfl ?_
 exact⟨A',B1,B2,B3,D',j,cap',m1,d1,m2,d2,m3,d3,j2,capd,rfl,hqZ (pp_mk hbl hbw (HR1.out ()) (HR2.out ()) (HR3.out ()) (HROW.out ()) HEL.out (HROWC.out ()) HELC.out hww (HF1.out ()) (HF2.out ()) (Fr.rowPut Fr.r (.inl (.inr rfl)))),Fr.rowPut (HW2.out ()) (.inr (Nat.le_refl _))⟩
theorem nU(w wc:World)(Z:Nat->Prop)(q b:Nat)(pf:Bool)(nts:List (ByteArray × ByteArray))(cds:List (Bool × Ex))(k1 k2 k3:Nat)(e1 i1 y1 e2 i2 y2 e3 i3 y3:ByteArray)(l1 l2 l3:List (ByteArray × ByteArray))(B1 B2 B3:Option Addr)(m1 d1 m2 d2 m3 d3:Nat)(wn:World)(A' A2:Option Addr)(j cap' mm cap2:Nat)(ys:List Value)(HR1:Hid (Unit->Row wc (fun g=>w.heap.size < g/\g ≠ b) (.slice B1 m1 d1) l1.length 2 (aV l1)))(HR2:Hid (Unit->Row wc (fun g=>w.heap.size < g/\g ≠ b) (.slice B2 m2 d2) l2.length 2 (aV l2)))(HR3:Hid (Unit->Row wc (fun g=>w.heap.size < g/\g ≠ b) (.slice B3 m3 d3) l3.length 2 (aV l3)))(HX:Hid (∀ c ∈ cds,jO c.2))(hmb1:mm<=200000)(HMM:Hid (mm=cds.length))(HMC:Hid (∀ j x,cds[j]? = some x->∃ g a,A2=some ⟨g,0,none⟩/\g < w.heap.size/\ei w Z x a/\∀ i u,i < 2->a[i]? = some u->w.cell? ⟨g,j * 2+i,none⟩=some u))(HB5:Hid (w.cell? ⟨q,5,none⟩=some (.slice A2 mm cap2)))(hqlt:q < w.heap.size)(hbl:w.heap.size < b)(hbw:b < wc.heap.size)(hww:w.heap.size<=wc.heap.size)
  (HF1:Hid (Unit->Fr (fun g=>g=b) wc wn)) (HW:Hid (Unit->Fr (fun _=>False) w wn)) (HBn:Hid (Blk wn b #[.bool pf,.slice A' j cap',.int .i64 (k1:Nat),.string e1,.string i1,.slice B1 m1 d1,.string y1,.int .i64 (k2:Nat),.string e2,.string i2,.slice B2 m2 d2,.string y2,.int .i64 (k3:Nat),.string e3,.string i3,.slice B3 m3 d3,.string y3,.slice none 0 0] 43)) (HROW:Hid (Unit->Row wn (fun g=>wc.heap.size<=g) (.slice A' j cap') nts.length 2 ys)) (HEL:Hid (EL ntE wn (fun g=>wc.heap.size<=g) nts ys)) (HRes:Hid (Unit->Blk wc w.heap.size #[.bool false,.slice none 0 0,.int .i64 0,.string ⟨#[]⟩,.string ⟨#[]⟩,.slice none 0 0,.string ⟨#[]⟩,.int .i64 0,.string ⟨#[]⟩,.string ⟨#[]⟩,.slice none 0 0,.string ⟨#[]⟩,.int .i64 0,.string ⟨#[]⟩,.string ⟨#[]⟩,.slice none 0 0,.string ⟨#[]⟩,.slice none 0 0] 43))
  (v1 v5 v6 v7 v8 v9 v10 v11 v12 v13 v14 v15 v16 v17 v18 v19 v20 v21 v22 v23 v24 v25 v26 v27 v28 v29 v30 v31 v32 v33 v34 v35 v36 v37 v38 v39 v40 v41 v42 v43 v44 v45 v46 v47 v48 v49 v50 v51 v52 v53 v54 v55 v56 v57 v58 v59 v60 v61 v62 v63 v64 v65 v66 v67 v68 v69 v70 v71 v72 v73 v74 v75 v76 v77 v78 v79 v80 v81:Value):Code.wp Tryz.prog (sndC (sndC (sndC (Tryz.f37.body.getD .skip)))) (bodyPost Tryz.prog Tryz.f37 (PPX w ⟨pf,nts,⟨k1,(e1,i1),l1,y1⟩,⟨k2,(e2,i2),l2,y2⟩,⟨k3,(e3,i3),l3,y3⟩,cds⟩)) { tmps:=#[.pointer (some ⟨q,0,none⟩),v1,.pointer (some ⟨w.heap.size,0,none⟩),.bool false,.pointer (some ⟨b,0,none⟩),v5,v6,v7,v8,v9,v10,v11,v12,v13,v14,v15,v16,v17,v18,v19,v20,v21,v22,v23,v24,v25,v26,v27,v28,v29,v30,v31,v32,v33,v34,v35,v36,v37,v38,v39,v40,v41,v42,v43,v44,v45,v46,v47,v48,v49,v50,v51,v52,v53,v54,v55,v56,v57,v58,v59,v60,v61,v62,v63,v64,v65,v66,v67,v68,v69,v70,v71,v72,v73,v74,v75,v76,v77,v78,v79,v80,v81],defers:=[] } wn:=by
 have hsn:=(HF1.out ()).size
 conv=>arg 2;whnf
 go_upto_region 7 with fail
 rename_i K hK K2 hK2
 have HK:=hqZ hK
 clear hK
 have T9:=hqZ (Fr.refl (fun g=>g=b) wn)
 have q5:=((HW.out ()).cell (p:=⟨q,5,none⟩) hqlt id).trans HB5.out
 go_wp2_with fail
 go_loopg [57] mm (fun k v ws=>∃ (j2:Nat) (cv:Value),v = .int .i64 (j2:Int)/\j2+k=mm/\Fr (fun g=>g=b) wn ws/\Blk ws b #[.bool pf,.slice A' j cap',.int .i64 (k1:Nat),.string e1,.string i1,.slice B1 m1 d1,.string y1,.int .i64 (k2:Nat),.string e2,.string i2,.slice B2 m2 d2,.string y2,.int .i64 (k3:Nat),.string e3,.string i3,.slice B3 m3 d3,.string y3,cv] 43/\Acc cxE ws (fun g=>wn.heap.size<=g) cv (cds.take j2) 69 12)
 case atStart =>
  exact⟨0,.slice none 0 0,rfl,by rw[HMM.out];omega,by((repeat' (with_reducible(first|exact Fr.refl _ _|apply Fr.drew|apply Fr.drewN|apply Fr.alloc|apply Fr.set))) <;> first|exact .inl rfl|exact .inr (Nat.le_refl _)|exact .inr (by omega)|(refine .inl ?_;show ¬ _;omega)),by exact HBn.out,Acc.nil _ _ _ _⟩
 case round =>
  obtain⟨j2,cv,rfl,hj2,hf,hb1,hacc⟩:=hrel
  obtain⟨D',capd,rfl⟩:=Acc.form2 hacc
  have hn':(cds.take j2).length=j2:=by rw[List.length_take];have:=HMM.out;omega
  rw[hn']at hacc hb1
  clear hn'
  have HVc:=hqZ hacc.lt
  have HW2:=hqZ (fun(_:Unit)=>Fr.trans' (HW.out ()) hf (fun g hg e=>by omega))
  have HF2:=hqZ (fun(_:Unit)=>hf)
  (clear T9;clear HBn;have H0:=hqZ hf;have xs0:=Fr.size H0.out;clear hf;have H1:=hqZ hb1;obtain⟨xk0,xl0⟩:=Blk.k18 H1.out;clear hb1;have H2:=hqZ (Acc.mono (Z':=fun g=>wn.heap.size<=g/\g < wr.heap.size) (hZ:=fun g h1 h2=>⟨h2,h1⟩) (h:=hacc));clear hacc)
  cases hq2:decide ((j2:Int) < (mm:Int))
  case false =>
   have e:j2=mm:=by simp at hq2;omega
   subst e
   have hz:cds.take j2=cds:=List.take_of_length_le (by rw[HMM.out];exact Nat.le_refl _)
   have hacc2:Acc cxE wr (fun g=>wn.heap.size<=g) (.slice D' j2 capd) cds 69 12:=by
    have:Acc cxE wr (fun g=>wn.heap.size<=g) (.slice D' j2 capd) (cds.take j2) 69 12:=by exact Acc.mono (h:=H2.out) (hZ:=fun g _ hg=>by omega)
    rw[hz]at this;exact this
   obtain⟨xs,hrow,hel⟩:=Acc.row2 hacc2 (by rw[<- HMM.out];exact hmb1)
   have HROWC:=hqZ (fun(_:Unit)=>hrow)
   have HELC:=hqZ hel
   have HBe:=hqZ (by exact H1.out:Blk wr b #[.bool pf,.slice A' j cap',.int .i64 (k1:Nat),.string e1,.string i1,.slice B1 m1 d1,.string y1,.int .i64 (k2:Nat),.string e2,.string i2,.slice B2 m2 d2,.string y2,.int .i64 (k3:Nat),.string e3,.string i3,.slice B3 m3 d3,.string y3,.slice D' j2 capd] 43)
   clear hacc2 hz hrow hel hq2 HVc
   go_wp2_with fail
   exact HK.out _ _ (nT w wc q b pf nts cds k1 k2 k3 e1 i1 y1 e2 i2 y2 e3 i3 y3 l1 l2 l3 B1 B2 B3 m1 d1 m2 d2 m3 d3 wn wr A' D' j cap' j2 capd ys xs HR1 HR2 HR3 hbl hbw hww HF1 HF2 HW2 HBe HROW HEL HROWC HELC HRes _ _ _ _ _ _ _ _ _ _ _ _ _ _ _ _ _ _ _ _ _ _ _ _ _ _ _ _ _ _ _ _ _ _ _ _ _ _ _ _ _ _ _ _ _ _ _ _ _ _ _ _ _ _ _ _ _ _ _ _ _ _ _ _ _ _ _ _ _ _ _ _ _ _ _ _ _ _ _)
  case true =>
   have hlt:j2 < mm:=by simp at hq2;omega
   obtain⟨⟨cb,cx⟩,hx⟩:∃ x,cds[j2]? = some x:=⟨_,List.getElem?_eq_getElem (by have:=HMM.out;omega)⟩
   obtain⟨g,a,eg,hg,⟨t,u,ha,hrep⟩,hcell⟩:=HMC.out j2 _ hx
   subst eg
   subst ha
   obtain⟨nb,hnb⟩:∃ nb,nb = !cb:=⟨_,rfl⟩
   have c0:wr.cell? ⟨g,j2 * 2,none⟩=some (.bool nb):=((HW2.out ()).cell (p:=⟨g,j2 * 2,none⟩) hg id).trans (by rw[hnb];simpa using hcell 0 _ (by omega) rfl)
   have c1:wr.cell? ⟨g,j2 * 2+1,none⟩=some (.iface t u):=((HW2.out ()).cell (p:=⟨g,j2 * 2+1,none⟩) hg id).trans (by simpa using hcell 1 _ (by omega) rfl)
   have hgw:g < wr.heap.size:=Nat.lt_of_lt_of_le hg (HW2.out ()).size
   have HXE:=hqZ hx
   have HREP:=hqZ (fun(_:Unit)=>hrep)
   have HNB:=hqZ hnb
   clear hcell hx hrep hnb
   go_wp2_with fail
   refine(HX.out (cb,cx) (List.mem_of_getElem? HXE.out) _ Z _ (Rep.frame (S:=fun _=>False) (by(repeat' (first|exact HW2.out ()|with_reducible apply Fr.drew|with_reducible apply Fr.alloc|with_reducible apply Fr.set)) <;> exact .inr (by(try simp only[aa,ae]);omega)) (fun _ _ _ e=>e) (HREP.out ()))).mono ?_
   rintro e w1 ⟨o1,p1,q1,s1,s2,t2,A1,F1,C1,a1,a2,f1,f2,g1,g2,rfl,hpx,hf⟩
   have HPX:=hqZ (fun(_:Unit)=>(PX.mono (Z':=fun g=>wr.heap.size<=g) (fun g _ hg=>by(try simp only[aa,ae,af]at hg);omega) hpx))
   clear hpx c0 c1
   (have xs1:=Fr.size hf;simp only[aa,ae,ad,af]at xs1;have T0:=hqZ (Fr.transN (H0.out.alloc _) hf);clear H0;have B0:=hqZ (Blk.next (H1.out.alloc _) hf id);clear H1;obtain⟨xk18,xl1⟩:=Blk.k18 B0.out;have B4:=hqZ (Blk.next (Blk.at_ _ _ _ (n:=wr.heap.size) rfl) hf id);obtain⟨xk36,xl2⟩:=Blk.k2 B4.out;have X0:=hqZ (Acc.carry H2.out (Fr.transN (Fr.r.alloc _) hf));clear H2;clear hf;clear xk0)
   go_wp2_with (at_builtin;refine bu ?_)
   unfold Stop
   refine Acc.push (E:=cxE) (Z:=fun g=>wn.heap.size<=g) cxT rfl _ _ rfl rfl (by exact Acc.mono (h:=(Acc.carry X0.out ((Fr.r.alloc _).alloc _))) (hZ:=fun g _ hg=>by omega)) rfl (news:=[.bool (!nb),.int .i64 o1,.string s1,.int .i64 p1,.int .i64 q1,.string s2,.string t2,.slice none 0 0,.slice none 0 0,.slice A1 a1 a2,.slice F1 f1 f2,.slice C1 g1 g2]) (by exact(Blk.at_ _ _ _ (n:=w1.heap.size+1) (by simp only[aa,ae,ad,af]))) (y:=(cb,cx)) (Zy:=fun g=>wr.heap.size<=g) ⟨_,by rw[HNB.out];simp only[Bool.not_not],PX.frame (S:=fun _=>False) (by((repeat' (with_reducible(first|exact Fr.refl _ _|apply Fr.drew|apply Fr.drewN|apply Fr.alloc|apply Fr.set))) <;> first|exact .inl rfl|exact .inr (Nat.le_refl _)|exact .inr (by omega)|(refine .inl ?_;show ¬ _;omega))) (fun _ _ _ e=>e) (HPX.out ())⟩ (fun k _ hk=>⟨by(try dsimp only at hk ⊢);omega,fun e=>by have:=(HVc.out k e).1;(try dsimp only at hk);omega⟩) (by simp only[aa,ae,af];omega) (by rw[List.length_take];omega) (S:=fun k=>wn.heap.size<=k/\k < wr.heap.size) (fun k e=>by have:=HVc.out k e;exact⟨this.2,this.1⟩) ?_
   rintro v' v5 hacc hf
   obtain⟨A2',m2',c2',rfl⟩:∃ A n c,v' = .slice A n c:=by obtain⟨A2,c2,h⟩:=Acc.form2 hacc;exact⟨_,_,_,h⟩
   (have xs3:=Fr.size hf;simp only[aa,ae,ad,af]at xs3;have T1:=hqZ (Fr.trans' ((T0.out.alloc _).alloc _) hf (fun k hk hs=>by omega));clear T0;have B5:=hqZ (Blk.next ((B0.out.alloc _).alloc _) hf (by show ¬ _;omega));clear B0;obtain⟨xk0,xl3⟩:=Blk.k18 B5.out;have B0:=hqZ (Blk.next ((B4.out.alloc _).alloc _) hf (by show ¬ _;omega));clear B4;obtain⟨xk38,xl4⟩:=Blk.k2 B0.out;have B4:=hqZ (Blk.next ((Blk.at_ _ _ _ (n:=w1.heap.size) rfl).alloc _) hf (by show ¬ _;omega));obtain⟨xk40,xl5⟩:=Blk.k11 B4.out;have B6:=hqZ (Blk.next (Blk.at_ _ _ _ (n:=w1.heap.size+1) (by simp only[aa,ae,ad,af])) hf (by show ¬ _;omega));obtain⟨xk51,xl6⟩:=Blk.k12 B6.out;clear X0;have X0:=hqZ (Acc.mono (Z':=fun g=>wn.heap.size<=g/\g < v5.heap.size) (hZ:=fun g h1 h2=>⟨h2,h1⟩) (h:=hacc));clear hacc;clear hf;clear xk18 xk36)
   go_wp2_with fail
   go_roundg (gk - 1)
   case measure=>omega
   case rel =>
    have hz:cds.take (j2+1)=cds.take j2 ++ [(cb,cx)]:=by rw[List.take_add_one,HXE.out];rfl
    refine⟨j2+1,_,by push_cast;rfl,by omega,by exact(T1.out.set (.inl rfl)),by exact(Blk.set B5.out 17 _ (cs':=#[.bool pf,.slice A' j cap',.int .i64 ↑k1,.string e1,.string i1,.slice B1 m1 d1,.string y1,.int .i64 ↑k2,.string e2,.string i2,.slice B2 m2 d2,.string y2,.int .i64 ↑k3,.string e3,.string i3,.slice B3 m3 d3,.string y3,.slice A2' m2' c2']) rfl),?_⟩
    rw[hz];exact Acc.mono (h:=(Acc.carry X0.out (Fr.r.set (.inl (by omega))))) (hZ:=fun g _ hg=>by omega)
theorem nV(w wc:World)(Z:Nat->Prop)(q b:Nat)(pf:Bool)(nts:List (ByteArray × ByteArray))(cds:List (Bool × Ex))(k1 k2 k3:Nat)(e1 i1 y1 e2 i2 y2 e3 i3 y3:ByteArray)(l1 l2 l3:List (ByteArray × ByteArray))(B1 B2 B3:Option Addr)(m1 d1 m2 d2 m3 d3:Nat)(A A2:Option Addr)(nn cap mm cap2:Nat)(HR1:Hid (Unit->Row wc (fun g=>w.heap.size < g/\g ≠ b) (.slice B1 m1 d1) l1.length 2 (aV l1)))(HR2:Hid (Unit->Row wc (fun g=>w.heap.size < g/\g ≠ b) (.slice B2 m2 d2) l2.length 2 (aV l2)))(HR3:Hid (Unit->Row wc (fun g=>w.heap.size < g/\g ≠ b) (.slice B3 m3 d3) l3.length 2 (aV l3)))(HX:Hid (∀ c ∈ cds,jO c.2))(hmb1:mm<=200000)(HMM:Hid (mm=cds.length))(HMC:Hid (∀ j x,cds[j]? = some x->∃ g a,A2=some ⟨g,0,none⟩/\g < w.heap.size/\ei w Z x a/\∀ i u,i < 2->a[i]? = some u->w.cell? ⟨g,j * 2+i,none⟩=some u))(HB5:Hid (w.cell? ⟨q,5,none⟩=some (.slice A2 mm cap2)))(hqlt:q < w.heap.size)(hbl:w.heap.size < b)(hnb1:nn<=200000)(HNN:Hid (nn=nts.length))(HNC:Hid (∀ j x,nts[j]? = some x->∃ g a,A=some ⟨g,0,none⟩/\g < w.heap.size/\dP w Z x a/\∀ i u,i < 2->a[i]? = some u->w.cell? ⟨g,j * 2+i,none⟩=some u))
  (HBk:Hid (Blk wc b #[.bool pf,.slice none 0 0,.int .i64 (k1:Nat),.string e1,.string i1,.slice B1 m1 d1,.string y1,.int .i64 (k2:Nat),.string e2,.string i2,.slice B2 m2 d2,.string y2,.int .i64 (k3:Nat),.string e3,.string i3,.slice B3 m3 d3,.string y3,.slice none 0 0] 43)) (HFy:Hid (Fr (fun _=>False) w wc)) (HRes:Hid (Unit->Blk wc w.heap.size #[.bool false,.slice none 0 0,.int .i64 0,.string ⟨#[]⟩,.string ⟨#[]⟩,.slice none 0 0,.string ⟨#[]⟩,.int .i64 0,.string ⟨#[]⟩,.string ⟨#[]⟩,.slice none 0 0,.string ⟨#[]⟩,.int .i64 0,.string ⟨#[]⟩,.string ⟨#[]⟩,.slice none 0 0,.string ⟨#[]⟩,.slice none 0 0] 43)) (yq1:wc.cell? ⟨q,1,none⟩=some (.slice A nn cap))
  (v1 v5 v6 v7 v8 v9 v10 v11 v12 v13 v14 v15 v16 v17 v18 v19 v20 v21 v22 v23 v24 v25 v26 v27 v28 v29 v30 v31 v32 v33 v34 v35 v36 v37 v38 v39 v40 v41 v42 v43 v44 v45 v46 v47 v48 v49 v50 v51 v52 v53 v54 v55 v56 v57 v58 v59 v60 v61 v62 v63 v64 v65 v66 v67 v68 v69 v70 v71 v72 v73 v74 v75 v76 v77 v78 v79 v80 v81:Value):Code.wp Tryz.prog (sndC (sndC (Tryz.f37.body.getD .skip))) (bodyPost Tryz.prog Tryz.f37 (PPX w ⟨pf,nts,⟨k1,(e1,i1),l1,y1⟩,⟨k2,(e2,i2),l2,y2⟩,⟨k3,(e3,i3),l3,y3⟩,cds⟩)) { tmps:=#[.pointer (some ⟨q,0,none⟩),v1,.pointer (some ⟨w.heap.size,0,none⟩),.bool false,.pointer (some ⟨b,0,none⟩),v5,v6,v7,v8,v9,v10,v11,v12,v13,v14,v15,v16,v17,v18,v19,v20,v21,v22,v23,v24,v25,v26,v27,v28,v29,v30,v31,v32,v33,v34,v35,v36,v37,v38,v39,v40,v41,v42,v43,v44,v45,v46,v47,v48,v49,v50,v51,v52,v53,v54,v55,v56,v57,v58,v59,v60,v61,v62,v63,v64,v65,v66,v67,v68,v69,v70,v71,v72,v73,v74,v75,v76,v77,v78,v79,v80,v81],defers:=[] } wc:=by
 have hbw:=HBk.out.lt
 have hww:=HFy.out.size
 conv=>arg 2;whnf
 go_upto_region 2 with fail
 rename_i K hK K2 hK2
 have HK:=hqZ hK
 clear hK
 go_wp2_with fail
 go_loopg [37] nn (fun k v wr=>∃ (j:Nat) (av:Value),v = .int .i64 (j:Int)/\j+k=nn/\Fr (fun g=>g=b) wc wr/\Blk wr b #[.bool pf,av,.int .i64 (k1:Nat),.string e1,.string i1,.slice B1 m1 d1,.string y1,.int .i64 (k2:Nat),.string e2,.string i2,.slice B2 m2 d2,.string y2,.int .i64 (k3:Nat),.string e3,.string i3,.slice B3 m3 d3,.string y3,.slice none 0 0] 43/\Acc ntE wr (fun g=>wc.heap.size<=g) av (nts.take j) 74 2)
 case atStart =>
  exact⟨0,.slice none 0 0,rfl,by rw[HNN.out];omega,Fr.refl _ _,HBk.out,Acc.nil _ _ _ _⟩
 case round =>
  obtain⟨j,av,rfl,hj,hf,hb1,hacc⟩:=hrel
  obtain⟨A',cap',rfl⟩:=Acc.form2 hacc
  have hn':(nts.take j).length=j:=by rw[List.length_take];have:=HNN.out;omega
  rw[hn']at hacc hb1
  clear hn'
  have HVa:=hqZ hacc.lt
  have HW:=hqZ (fun(_:Unit)=>Fr.trans' HFy.out hf (fun g hg e=>by omega))
  (clear HFy;clear HBk;have H0:=hqZ hf;have xs0:=Fr.size H0.out;clear hf;have H1:=hqZ hb1;obtain⟨xk0,xl0⟩:=Blk.k18 H1.out;clear hb1;have H2:=hqZ (Acc.mono (Z':=fun g=>wc.heap.size<=g/\g < wr.heap.size) (hZ:=fun g h1 h2=>⟨h2,h1⟩) (h:=hacc));clear hacc)
  cases hq2:decide ((j:Int) < (nn:Int))
  case false =>
   have e:j=nn:=by simp at hq2;omega
   subst e
   have hz:nts.take j=nts:=List.take_of_length_le (by rw[HNN.out];exact Nat.le_refl _)
   have hacc2:Acc ntE wr (fun g=>wc.heap.size<=g) (.slice A' j cap') nts 74 2:=by
    have:Acc ntE wr (fun g=>wc.heap.size<=g) (.slice A' j cap') (nts.take j) 74 2:=by exact Acc.mono (h:=H2.out) (hZ:=fun g _ hg=>by omega)
    rw[hz]at this;exact this
   obtain⟨ys,hrow,hel⟩:=Acc.row2 hacc2 (by rw[<- HNN.out];exact hnb1)
   have HROW:=hqZ (fun(_:Unit)=>hrow)
   have HEL:=hqZ hel
   have HF1:=hqZ (fun(_:Unit)=>(by exact H0.out:Fr (fun g=>g=b) wc wr))
   have HBn:=hqZ (by exact H1.out:Blk wr b #[.bool pf,.slice A' j cap',.int .i64 (k1:Nat),.string e1,.string i1,.slice B1 m1 d1,.string y1,.int .i64 (k2:Nat),.string e2,.string i2,.slice B2 m2 d2,.string y2,.int .i64 (k3:Nat),.string e3,.string i3,.slice B3 m3 d3,.string y3,.slice none 0 0] 43)
   clear hacc2 hz hrow hel hq2 HVa
   go_wp2_with fail
   exact HK.out _ _ (nU w wc Z q b pf nts cds k1 k2 k3 e1 i1 y1 e2 i2 y2 e3 i3 y3 l1 l2 l3 B1 B2 B3 m1 d1 m2 d2 m3 d3 wr A' A2 j cap' mm cap2 ys HR1 HR2 HR3 HX hmb1 HMM HMC HB5 hqlt hbl hbw hww HF1 HW HBn HROW HEL HRes _ _ _ _ _ _ _ _ _ _ _ _ _ _ _ _ _ _ _ _ _ _ _ _ _ _ _ _ _ _ _ _ _ _ _ _ _ _ _ _ _ _ _ _ _ _ _ _ _ _ _ _ _ _ _ _ _ _ _ _ _ _ _ _ _ _ _ _ _ _ _ _ _ _ _ _ _ _)
  case true =>
   have hlt:j < nn:=by simp at hq2;omega
   obtain⟨⟨kk,vv⟩,hx⟩:∃ x,nts[j]? = some x:=⟨_,List.getElem?_eq_getElem (by have:=HNN.out;omega)⟩
   obtain⟨g,a,eg,hg,ha,hcell⟩:=HNC.out j _ hx
   subst eg
   have ha2:a = [.string kk,.string vv]:=ha
   subst ha2
   have c0:=((HW.out ()).cell (p:=⟨g,j * 2,none⟩) hg id).trans (by simpa using hcell 0 _ (by omega) rfl)
   have c1:=((HW.out ()).cell (p:=⟨g,j * 2+1,none⟩) hg id).trans (by simpa using hcell 1 _ (by omega) rfl)
   have hgw:g < wr.heap.size:=Nat.lt_of_lt_of_le hg (HW.out ()).size
   have HXE:=hqZ hx
   clear hcell hx ha
   go_wp2_with (at_builtin;refine bu ?_)
   unfold Stop
   refine Acc.push (E:=ntE) (Z:=fun g=>wc.heap.size<=g) ntT rfl _ _ rfl rfl (by exact Acc.mono (h:=(Acc.carry H2.out ((Fr.r.alloc _).alloc _))) (hZ:=fun g _ hg=>by omega)) rfl (news:=[.string kk,.string vv]) (by exact(Blk.at_ _ _ _ (n:=wr.heap.size+1) (by simp only[aa,ae,ad,af]))) (y:=(kk,vv)) (Zy:=fun _=>False) rfl (fun k _ hk=>hk.elim) (by simp only[aa];omega) (by rw[List.length_take];omega) (S:=fun k=>wc.heap.size<=k/\k < wr.heap.size) (fun k e=>by have:=HVa.out k e;exact⟨this.2,this.1⟩) ?_
   rintro v' v5 hacc hf
   obtain⟨A2',m2',c2',rfl⟩:∃ A n c,v' = .slice A n c:=by obtain⟨A2,c2,h⟩:=Acc.form2 hacc;exact⟨_,_,_,h⟩
   (have xs1:=Fr.size hf;simp only[aa,ae,ad,af]at xs1;have T0:=hqZ (Fr.trans' ((H0.out.alloc _).alloc _) hf (fun k hk hs=>by omega));clear H0;have B0:=hqZ (Blk.next ((H1.out.alloc _).alloc _) hf (by show ¬ _;omega));clear H1;obtain⟨xk18,xl1⟩:=Blk.k18 B0.out;have B4:=hqZ (Blk.next ((Blk.at_ _ _ _ (n:=wr.heap.size) rfl).alloc _) hf (by show ¬ _;omega));obtain⟨xk36,xl2⟩:=Blk.k2 B4.out;have B5:=hqZ (Blk.next (Blk.at_ _ _ _ (n:=wr.heap.size+1) (by simp only[aa,ae,ad,af])) hf (by show ¬ _;omega));obtain⟨xk38,xl3⟩:=Blk.k2 B5.out;clear H2;have X0:=hqZ (Acc.mono (Z':=fun g=>wc.heap.size<=g/\g < v5.heap.size) (hZ:=fun g h1 h2=>⟨h2,h1⟩) (h:=hacc));clear hacc;clear hf;clear xk0)
   go_wp2_with fail
   go_roundg (gk - 1)
   case measure=>omega
   case rel =>
    have hz:nts.take (j+1)=nts.take j ++ [(kk,vv)]:=by rw[List.take_add_one,HXE.out];rfl
    refine⟨j+1,_,by push_cast;rfl,by omega,by exact(T0.out.set (.inl rfl)),by exact(Blk.set B0.out 1 _ (cs':=#[.bool pf,.slice A2' m2' c2',.int .i64 ↑k1,.string e1,.string i1,.slice B1 m1 d1,.string y1,.int .i64 ↑k2,.string e2,.string i2,.slice B2 m2 d2,.string y2,.int .i64 ↑k3,.string e3,.string i3,.slice B3 m3 d3,.string y3,.slice none 0 0]) rfl),?_⟩
    rw[hz];exact Acc.mono (h:=(Acc.carry X0.out (Fr.r.set (.inl (by omega))))) (hZ:=fun g _ hg=>by omega)
theorem lk(w:World)(Z:Nat->Prop)(q:Nat)(p:Pol)(h:PolR w Z q p)(hx:∀ c ∈ p.conds,jO c.2)(hsc:∀ s,s=p.principal\/s=p.action\/s=p.resource->∀ v W,ScpR W Z s v->SCH s v W)(hlen:p.notes.length<=100000/\p.conds.length<=100000) :
  Calls Tryz.prog 37 #[.pointer (some ⟨q,0,none⟩)] w (PPX w p):=by
 obtain⟨pf,nts,⟨k1,⟨e1,i1⟩,l1,y1⟩,⟨k2,⟨e2,i2⟩,l2,y2⟩,⟨k3,⟨e3,i3⟩,l3,y3⟩,cds⟩:=p
 obtain⟨hz,A,n,cap,pt,pu,at',au,rt,ru,A2,n2,cap2,o,l,c,hb,hn,hs1,hs2,hs3,hc⟩:=h
 simp only at hb hn hs1 hs2 hs3 hc hx hlen
 have HB:=hqZ hb
 have HN:=hqZ hn
 have HC:=hqZ hc
 have HX:=hqZ hx
 have HS1:=hqZ (show ∀ W,Fr (fun _=>False) w W->Calls Tryz.prog 48 #[_] W fun e w'=>∃ (A:Option Addr) (n c:Nat),e = .returned (.agg #[.int .i64 (k1:Nat),.string e1,.string i1,.slice A n c,.string y1])/\Row w' (W.heap.size <= ·) (.slice A n c) l1.length 2 (aV l1)/\New W w' from hsc _ (.inl rfl) _ _ hs1)
 have HS2:=hqZ (show ∀ W,Fr (fun _=>False) w W->Calls Tryz.prog 48 #[_] W fun e w'=>∃ (A:Option Addr) (n c:Nat),e = .returned (.agg #[.int .i64 (k2:Nat),.string e2,.string i2,.slice A n c,.string y2])/\Row w' (W.heap.size <= ·) (.slice A n c) l2.length 2 (aV l2)/\New W w' from hsc _ (.inr (.inl rfl)) _ _ hs2)
 have HS3:=hqZ (show ∀ W,Fr (fun _=>False) w W->Calls Tryz.prog 48 #[_] W fun e w'=>∃ (A:Option Addr) (n c:Nat),e = .returned (.agg #[.int .i64 (k3:Nat),.string e3,.string i3,.slice A n c,.string y3])/\Row w' (W.heap.size <= ·) (.slice A n c) l3.length 2 (aV l3)/\New W w' from hsc _ (.inr (.inr rfl)) _ _ hs3)
 have hqlt:=hb.lt
 have b0:=hb.cell 0 _ rfl
 have b1:w.cell? ⟨q,1,none⟩=some (.slice A n cap):=hb.cell 1 _ rfl
 have b2:=hb.cell 2 _ rfl
 have b3:=hb.cell 3 _ rfl
 have b4:=hb.cell 4 _ rfl
 have b5:w.cell? ⟨q,5,none⟩=some (.slice A2 n2 cap2):=hb.cell 5 _ rfl
 have T0:=hqZ (Fr.refl (fun _=>False) w)
 clear hz hb hn hs1 hs2 hs3 hc hx hsc
 go_enter Tryz.func37,Tryz.ntmps37
 go_upto_region 1 with fail
 go_cut [4]from 11 to 31 (fun s4 wy=>∃ (b:Nat) (A1 A2 A3:Option Addr) (n1 c1 n2 c2 n3 c3:Nat),s4 = .pointer (some ⟨b,0,none⟩)/\w.heap.size < b/\Blk wy b #[.bool pf,.slice none 0 0,.int .i64 (k1:Nat),.string e1,.string i1,.slice A1 n1 c1,.string y1,.int .i64 (k2:Nat),.string e2,.string i2,.slice A2 n2 c2,.string y2,.int .i64 (k3:Nat),.string e3,.string i3,.slice A3 n3 c3,.string y3,.slice none 0 0] 43 /\
   Row wy (fun g=>w.heap.size < g/\g ≠ b) (.slice A1 n1 c1) l1.length 2 (aV l1)/\Row wy (fun g=>w.heap.size < g/\g ≠ b) (.slice A2 n2 c2) l2.length 2 (aV l2)/\Row wy (fun g=>w.heap.size < g/\g ≠ b) (.slice A3 n3 c3) l3.length 2 (aV l3)/\Fr (fun _=>False) w wy/\Blk wy w.heap.size #[.bool false,.slice none 0 0,.int .i64 0,.string ⟨#[]⟩,.string ⟨#[]⟩,.slice none 0 0,.string ⟨#[]⟩,.int .i64 0,.string ⟨#[]⟩,.string ⟨#[]⟩,.slice none 0 0,.string ⟨#[]⟩,.int .i64 0,.string ⟨#[]⟩,.string ⟨#[]⟩,.slice none 0 0,.string ⟨#[]⟩,.slice none 0 0] 43)
 case first =>
  have SK:=hqZ (show ∀ W,Fr (fun _=>False) w W->(W.cell? ⟨q,0,none⟩=some (.bool (!pf))/\W.cell? ⟨q,2,none⟩=some (.iface pt pu)/\W.cell? ⟨q,3,none⟩=some (.iface at' au)/\W.cell? ⟨q,4,none⟩=some (.iface rt ru))from fun W hf=>⟨(hf.cell (p:=⟨q,0,none⟩) hqlt id).trans b0,(hf.cell (p:=⟨q,2,none⟩) hqlt id).trans b2,(hf.cell (p:=⟨q,3,none⟩) hqlt id).trans b3,(hf.cell (p:=⟨q,4,none⟩) hqlt id).trans b4⟩)
  go_region_held3 (fun w'=>w'.cell? ⟨q,0,none⟩=some (.bool (!pf))/\w'.cell? ⟨q,2,none⟩=some (.iface pt pu)/\w'.cell? ⟨q,3,none⟩=some (.iface at' au)/\w'.cell? ⟨q,4,none⟩=some (.iface rt ru)) (exact SK.out _ (by(repeat' (with_reducible(first|assumption|exact Fr.refl _ _|apply Fr.drew|apply Fr.alloc|apply Fr.set|apply Fr.rowPut))) <;> exact .inr (by(try simp only[aa,ae]);omega))) ((go_at_call 48;first|(with_reducible refine(HS1.out _ ?_).mono ?_;(repeat' (with_reducible(first|assumption|exact Fr.refl _ _|apply Fr.drew|apply Fr.alloc)));rintro e wp ⟨Ap,np,cp,rfl,hrow,hf⟩;have hTwp:Fr (fun _=>False) (w.alloc (.cells #[.bool false,.slice none 0 0,.int .i64 0,.string ⟨#[]⟩,.string ⟨#[]⟩,.slice none 0 0,.string ⟨#[]⟩,.int .i64 0,.string ⟨#[]⟩,.string ⟨#[]⟩,.slice none 0 0,.string ⟨#[]⟩,.int .i64 0,.string ⟨#[]⟩,.string ⟨#[]⟩,.slice none 0 0,.string ⟨#[]⟩,.slice none 0 0] 43)) wp:=Fr.trans (by repeat' (with_reducible(first|assumption|exact Fr.refl _ _|apply Fr.drew|apply Fr.alloc))) hf;have hUwp:Fr (fun _=>False) w wp:=Fr.trans (Fr.r.alloc _) hTwp;have hzwp:=hf.size;(try simp only[aa,ae]at hzwp);have HRpp:=hqZ (Row.mono (h:=hrow) (Z':=fun g=>_<=g/\g < wp.heap.size) (hZ:=fun g hg h=>⟨h,hg⟩));clear hrow;(first|have hBp:=Blk.next (Blk.at_ _ 43 _ rfl) hf id|have hBp:=Blk.next (Blk.drew (Blk.at_ _ 43 _ rfl)) hf id|skip);(try simp only[aa,ae]at hBp);clear hf)|(with_reducible refine(HS2.out _ ?_).mono ?_;(repeat' (with_reducible(first|assumption|exact Fr.refl _ _|apply Fr.drew|apply Fr.alloc)));rintro e wa ⟨Aa,na,ca,rfl,hrow,hf⟩;have hTwa:Fr (fun _=>False) (w.alloc (.cells #[.bool false,.slice none 0 0,.int .i64 0,.string ⟨#[]⟩,.string ⟨#[]⟩,.slice none 0 0,.string ⟨#[]⟩,.int .i64 0,.string ⟨#[]⟩,.string ⟨#[]⟩,.slice none 0 0,.string ⟨#[]⟩,.int .i64 0,.string ⟨#[]⟩,.string ⟨#[]⟩,.slice none 0 0,.string ⟨#[]⟩,.slice none 0 0] 43)) wa:=Fr.trans (by repeat' (with_reducible(first|assumption|exact Fr.refl _ _|apply Fr.drew|apply Fr.alloc))) hf;have hUwa:Fr (fun _=>False) w wa:=Fr.trans (Fr.r.alloc _) hTwa;have hzwa:=hf.size;(try simp only[aa,ae]at hzwa);have HRpa:=hqZ (Row.frame (S:=fun _=>False) HRpp.out (Fr.trans (by repeat' (with_reducible(first|assumption|exact Fr.refl _ _|apply Fr.drew|apply Fr.alloc))) hf) (fun _ _ _ e=>e));clear HRpp;have HRaa:=hqZ (Row.mono (h:=hrow) (Z':=fun g=>_<=g/\g < wa.heap.size) (hZ:=fun g hg h=>⟨h,hg⟩));clear hrow;(first|have hBa:=Blk.next (Blk.at_ _ 43 _ rfl) hf id|(have hBa:=Blk.next hBp hf id;clear hBp)|skip);(try simp only[aa,ae]at hBa);clear hf)|(with_reducible refine(HS3.out _ ?_).mono ?_;(repeat' (with_reducible(first|assumption|exact Fr.refl _ _|apply Fr.drew|apply Fr.alloc)));rintro e ws ⟨As,ns,cs,rfl,hrow,hf⟩;have hTws:Fr (fun _=>False) (w.alloc (.cells #[.bool false,.slice none 0 0,.int .i64 0,.string ⟨#[]⟩,.string ⟨#[]⟩,.slice none 0 0,.string ⟨#[]⟩,.int .i64 0,.string ⟨#[]⟩,.string ⟨#[]⟩,.slice none 0 0,.string ⟨#[]⟩,.int .i64 0,.string ⟨#[]⟩,.string ⟨#[]⟩,.slice none 0 0,.string ⟨#[]⟩,.slice none 0 0] 43)) ws:=Fr.trans (by repeat' (with_reducible(first|assumption|exact Fr.refl _ _|apply Fr.drew|apply Fr.alloc))) hf;have hUws:Fr (fun _=>False) w ws:=Fr.trans (Fr.r.alloc _) hTws;have hzws:=hf.size;(try simp only[aa,ae]at hzws);have HRps:=hqZ (Row.frame (S:=fun _=>False) HRpa.out (Fr.trans (by repeat' (with_reducible(first|assumption|exact Fr.refl _ _|apply Fr.drew|apply Fr.alloc))) hf) (fun _ _ _ e=>e));clear HRpa;have HRas:=hqZ (Row.frame (S:=fun _=>False) HRaa.out (Fr.trans (by repeat' (with_reducible(first|assumption|exact Fr.refl _ _|apply Fr.drew|apply Fr.alloc))) hf) (fun _ _ _ e=>e));clear HRaa;have HRss:=hqZ (Row.mono (h:=hrow) (Z':=fun g=>_<=g/\g < ws.heap.size) (hZ:=fun g hg h=>⟨h,hg⟩));clear hrow;(first|have hBs:=Blk.next (Blk.at_ _ 43 _ rfl) hf id|(have hBs:=Blk.next hBa hf id;clear hBa)|skip);(try simp only[aa,ae]at hBs);(try have hST:=stC hBs rfl);have hBs:=hqZ hBs;obtain⟨ho1,ho2,ho3,ho4⟩:=ones;have hST1:=stC (Blk.at_ ws 43 #[.bool false,.slice none 0 0,.int .i64 0,.string ⟨#[]⟩,.string ⟨#[]⟩,.slice none 0 0,.string ⟨#[]⟩,.int .i64 0,.string ⟨#[]⟩,.string ⟨#[]⟩,.slice none 0 0,.string ⟨#[]⟩,.int .i64 0,.string ⟨#[]⟩,.string ⟨#[]⟩,.slice none 0 0,.string ⟨#[]⟩,.slice none 0 0] rfl) rfl;clear hf)))
  all_goals
   go_wp2_with fail
   go_meet
   refine⟨_,Ap,Aa,As,np,cp,na,ca,ns,cs,rfl,?_,?_,?_,?_,?_,?_,?_⟩
   .omega
   .refine Blk.rowPut (c:=#[.bool false,.slice none 0 0,.int .i64 0,.string ⟨#[]⟩,.string ⟨#[]⟩,.slice none 0 0,.string ⟨#[]⟩,.int .i64 0,.string ⟨#[]⟩,.string ⟨#[]⟩,.slice none 0 0,.string ⟨#[]⟩,.int .i64 0,.string ⟨#[]⟩,.string ⟨#[]⟩,.slice none 0 0,.string ⟨#[]⟩,.slice none 0 0]) ?_ _ rfl rfl
    first|with_reducible exact hBs.out|exact Blk.at_ _ _ _ rfl
   .refine Row.frame (S:=fun k=>k=_) (Row.mono (h:=HRps.out) (hZ:=?_)) ?_ (fun g h _ e=>h.2 e)
    .intro g _ h
     (try simp only[aa,ae]at h)
     exact⟨by omega,by omega⟩
    .first|with_reducible exact Fr.rowPut Fr.r (.inl rfl)|with_reducible exact Fr.rowPut (Fr.r.alloc _) (.inl rfl)
   .refine Row.frame (S:=fun k=>k=_) (Row.mono (h:=HRas.out) (hZ:=?_)) ?_ (fun g h _ e=>h.2 e)
    .intro g _ h
     (try simp only[aa,ae]at h)
     exact⟨by omega,by omega⟩
    .first|with_reducible exact Fr.rowPut Fr.r (.inl rfl)|with_reducible exact Fr.rowPut (Fr.r.alloc _) (.inl rfl)
   .refine Row.frame (S:=fun k=>k=_) (Row.mono (h:=HRss.out) (hZ:=?_)) ?_ (fun g h _ e=>h.2 e)
    .intro g _ h
     (try simp only[aa,ae]at h)
     exact⟨by omega,by omega⟩
    .first|with_reducible exact Fr.rowPut Fr.r (.inl rfl)|with_reducible exact Fr.rowPut (Fr.r.alloc _) (.inl rfl)
   .first|with_reducible exact Fr.rowPut (((Fr.refl _ w).alloc _).trans hTws) (.inr (by omega))|with_reducible exact Fr.rowPut ((((Fr.refl _ w).alloc _).trans hTws).alloc _) (.inr (by omega))
   .have hres:=(Blk.at_ w 43 #[.bool false,.slice none 0 0,.int .i64 0,.string ⟨#[]⟩,.string ⟨#[]⟩,.slice none 0 0,.string ⟨#[]⟩,.int .i64 0,.string ⟨#[]⟩,.string ⟨#[]⟩,.slice none 0 0,.string ⟨#[]⟩,.int .i64 0,.string ⟨#[]⟩,.string ⟨#[]⟩,.slice none 0 0,.string ⟨#[]⟩,.slice none 0 0] rfl).next hTws id
    first|exact Blk.next (S:=fun k=>k ≠ w.heap.size) hres (Fr.rowPut Fr.r (.inl (by show _ ≠ _;omega))) (fun h=>h rfl)|exact Blk.next (S:=fun k=>k ≠ w.heap.size) (hres.alloc _) (Fr.rowPut Fr.r (.inl (by show _ ≠ _;omega))) (fun h=>h rfl)
 case rest =>
  rename_i K hK
  have HK:=hqZ hK
  clear hK
  obtain⟨b,B1,B2,B3,m1,d1,m2,d2,m3,d3,rfl,hbl,hbk,hr1,hr2,hr3,hfy,hres⟩:=hcut
  have HBk:=hqZ hbk
  have HR1:=hqZ (fun(_:Unit)=>hr1)
  have HR2:=hqZ (fun(_:Unit)=>hr2)
  have HR3:=hqZ (fun(_:Unit)=>hr3)
  have HFy:=hqZ hfy
  have HRes:=hqZ (fun(_:Unit)=>hres)
  have yq1:=(hfy.cell (p:=⟨q,1,none⟩) hqlt id).trans b1
  clear hr1 hr2 hr3 hbk hfy hres b0 b1 b2 b3 b4 HS1 HS2 HS3
  obtain⟨nn,hnn⟩:∃ nn,nn=nts.length:=⟨_,rfl⟩
  obtain⟨rfl,hn1,hnc⟩:=Held.at_ HN.out
  rw[<- hnn]at yq1
  have HNN:=hqZ hnn
  have HNC:=hqZ hnc
  obtain⟨mm,hmm⟩:∃ mm,mm=cds.length:=⟨_,rfl⟩
  obtain⟨rfl,hm1,hmc⟩:=Held.at_ HC.out
  rw[<- hmm]at b5
  have HB5:=hqZ b5
  have HMM:=hqZ hmm
  have HMC:=hqZ hmc
  have hnb1:nn<=200000:=by rw[hnn];exact hn1
  have hmb1:mm<=200000:=by rw[hmm];exact hm1
  clear hnc HN hmc hmm b5 HC hnn
  exact HK.out _ _ (nV w wc Z q b pf nts cds k1 k2 k3 e1 i1 y1 e2 i2 y2 e3 i3 y3 l1 l2 l3 B1 B2 B3 m1 d1 m2 d2 m3 d3 A A2 nn cap mm cap2 HR1 HR2 HR3 HX hmb1 HMM HMC HB5 hqlt hbl hnb1 HNN HNC HBk HFy HRes yq1 _ _ _ _ _ _ _ _ _ _ _ _ _ _ _ _ _ _ _ _ _ _ _ _ _ _ _ _ _ _ _ _ _ _ _ _ _ _ _ _ _ _ _ _ _ _ _ _ _ _ _ _ _ _ _ _ _ _ _ _ _ _ _ _ _ _ _ _ _ _ _ _ _ _ _ _ _ _)
end Go.Proofs.YtbdhlpeckennjaaGreatDoor
