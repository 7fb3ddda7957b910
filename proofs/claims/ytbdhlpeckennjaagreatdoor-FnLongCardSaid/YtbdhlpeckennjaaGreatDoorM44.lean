/- FnLong (the proof that the law returns true for every input), part 44 of 52; the last part says what is proved, and its condition. -/
import Derived.WalkKit
import Derived.Test.YtbdhlpeckennjaaGreatDoorM26
import Derived.Test.YtbdhlpeckennjaaGreatDoorM33
import Derived.Test.YtbdhlpeckennjaaGreatDoorM42
import Derived.Test.YtbdhlpeckennjaaGreatDoorM43
set_option linter.unusedVariables false
set_option linter.unusedSimpArgs false
set_option maxHeartbeats 80000000
set_option maxRecDepth 1000000
namespace Go.Proofs.YtbdhlpeckennjaaGreatDoor
open Go Go.RowKit
attribute [local go_sem ↓] jy jz
theorem rU(W:World)(l:List UInt8):cK (Lib.bytesWorld W 5 ⟨l.toArray⟩) W.heap.size l:=by
 have h:=jI W ⟨l.toArray⟩
 refine⟨h.1,fun j b hj=>?_⟩
 obtain⟨hjl,hb⟩:=List.getElem?_eq_some_iff.1 hj
 have h2:=h.2 j hjl
 rw[Nat.zero_add]at h2
 rw[h2]
 congr 3
 show(l.toArray[j]!).toNat=b.toNat
 rw[getElem!_def,List.getElem?_toArray,hj]
def GotPP(w:World)(r:Option Pol)(e:Ending)(w':World):Prop :=
 match r with
 | some p=>PPX w p e w'
 | none=>e = .returned (.tuple #[.agg #[.bool false,.slice none 0 0,.int .i64 0,.string ⟨#[]⟩,.string ⟨#[]⟩,.slice none 0 0,.string ⟨#[]⟩,.int .i64 0,.string ⟨#[]⟩,.string ⟨#[]⟩,.slice none 0 0,.string ⟨#[]⟩,.int .i64 0,.string ⟨#[]⟩,.string ⟨#[]⟩,.slice none 0 0,.string ⟨#[]⟩,.slice none 0 0],.bool false])/\New w w'
theorem gotU1{xb:Nat}{w:World}{r r':Option Pol}{e:Ending}{w':World}(h:sf xb w r e w')(hr:r=r'):sf xb w r' e w':=hr ▸ h
theorem lw(w:World)(l:List UInt8)(hl2:l.length<=90000)(hg:Glob w)(heo:EofV w)(h15:15<=w.heap.size)(hnb:NB l)
  (hx:∀ p,dp l=some p->(∀ c ∈ p.conds,jO c.2)/\(∀ Z s,s=p.principal\/s=p.action\/s=p.resource->∀ v W,ScpR W Z s v->SCH s v W)/\p.notes.length<=100000/\p.conds.length<=100000) :
  Calls Tryz.prog 23 #[.string ⟨l.toArray⟩] w (GotPP w (dp l)):=by
 obtain⟨s,hs⟩:∃ s:ByteArray,s=⟨l.toArray⟩:=⟨_,rfl⟩
 have hsz:s.size=l.length:=by rw[hs];rfl
 obtain⟨w1,hw1⟩:∃ w1,w1=((w.alloc (.cells #[.bool false,.slice none 0 0,.int .i64 0,.string ⟨#[]⟩,.string ⟨#[]⟩,.slice none 0 0,.string ⟨#[]⟩,.int .i64 0,.string ⟨#[]⟩,.string ⟨#[]⟩,.slice none 0 0,.string ⟨#[]⟩,.int .i64 0,.string ⟨#[]⟩,.string ⟨#[]⟩,.slice none 0 0,.string ⟨#[]⟩,.slice none 0 0] 43)).alloc (.cells #[.bool false,.slice none 0 0,.nilIface,.nilIface,.nilIface,.slice none 0 0,.string ⟨#[]⟩,.int .i64 0,.int .i64 0,.int .i64 0] 107)):=⟨_,rfl⟩
 have hf1:Fr (fun _=>False) w w1:=by rw[hw1];exact(Fr.r.alloc _).alloc _
 have hz1:w1.heap.size=w.heap.size+1+1:=by rw[hw1];simp only[aa]
 have hbr:Blk w1 w.heap.size #[.bool false,.slice none 0 0,.int .i64 0,.string ⟨#[]⟩,.string ⟨#[]⟩,.slice none 0 0,.string ⟨#[]⟩,.int .i64 0,.string ⟨#[]⟩,.string ⟨#[]⟩,.slice none 0 0,.string ⟨#[]⟩,.int .i64 0,.string ⟨#[]⟩,.string ⟨#[]⟩,.slice none 0 0,.string ⟨#[]⟩,.slice none 0 0] 43:=by rw[hw1];exact(Blk.at_ _ _ _ rfl).alloc _
 have hbx:Blk w1 (w.heap.size+1) #[.bool false,.slice none 0 0,.nilIface,.nilIface,.nilIface,.slice none 0 0,.string ⟨#[]⟩,.int .i64 0,.int .i64 0,.int .i64 0] 107:=by rw[hw1];exact Blk.at_ _ _ _ (by simp only[aa])
 obtain⟨cap,hcap,hcv⟩:=fX w1 s
 have hf2:=fA w1 s
 have hby:cK (Lib.bytesWorld w1 5 s) w1.heap.size l:=by rw[hs];exact rU w1 l
 rw[hsz]at hcv hcap
 obtain⟨w2,hw2⟩:∃ w2,w2=Lib.bytesWorld w1 5 s:=⟨_,rfl⟩
 rw[<- hw2]at hcv hf2 hby
 have hz2:=hf2.size
 have hbr2:=hbr.next hf2 id
 have hbx2:=hbx.next hf2 id
 have HU:=hqZ (pK below0 w2 (w.heap.size+1) w1.heap.size cap l hbx2 hby hcap hl2 ((hg.frN hf1).frN hf2) ((heo.next hf1 (fun _ _ h=>h)).next hf2 (fun _ _ h=>h)) (by omega) (by omega) hnb)
 have HF2:=hqZ (fun(_:Unit)=>hf1.trans hf2)
 have HBR:=hqZ (fun(_:Unit)=>hbr2)
 have HX:=hqZ hx
 have hpt:Hid (Fr (fun _=>False) w w2/\w.heap.size+2<=w2.heap.size):=hqZ ⟨hf1.trans hf2,by omega⟩
 rw[<- hs]
 have HW1:=hqZ hw1
 have hcv2:(convert 9 67 (.string s)).run Tryz.prog ((w.alloc (.cells #[.bool false,.slice none 0 0,.int .i64 0,.string ⟨#[]⟩,.string ⟨#[]⟩,.slice none 0 0,.string ⟨#[]⟩,.int .i64 0,.string ⟨#[]⟩,.string ⟨#[]⟩,.slice none 0 0,.string ⟨#[]⟩,.int .i64 0,.string ⟨#[]⟩,.string ⟨#[]⟩,.slice none 0 0,.string ⟨#[]⟩,.slice none 0 0] 43)).alloc (.cells #[.bool false,.slice none 0 0,.nilIface,.nilIface,.nilIface,.slice none 0 0,.string ⟨#[]⟩,.int .i64 0,.int .i64 0,.int .i64 0] 107)) = .ok (.slice (some ⟨w1.heap.size,0,none⟩) l.length cap) w2:=by rw[<- hw1];exact hcv
 clear hg heo hnb hx hs hw1 hw2 hf1 hf2 hbr hbx hbr2 hbx2 hby hcv hz1 hz2 hcap hsz
 go_enter Tryz.func23,Tryz.ntmps23
 go_wp2_with fail
 cases hr:dp l with
 | none =>
  refine(Calls.mono HU.out fun _ _ h=>gotU1 h hr).mono ?_
  rintro e w3 ⟨t,u,rfl,hf⟩
  have hres:=(HBR.out ()).next hf (by show ¬ _;omega)
  have hSTr:=stC hres rfl
  have HRes:=hqZ (fun(_:Unit)=>hres)
  have HF3:=hqZ (fun(_:Unit)=>Fr.trans' hpt.out.1 hf (fun g hg e=>by omega))
  obtain⟨ho1,ho2,ho3,ho4⟩:=ones
  clear hres hf
  go_wp2_with fail
  refine bodyPost_ret (v:=.tuple #[.agg #[.bool false,.slice none 0 0,.int .i64 0,.string ⟨#[]⟩,.string ⟨#[]⟩,.slice none 0 0,.string ⟨#[]⟩,.int .i64 0,.string ⟨#[]⟩,.string ⟨#[]⟩,.slice none 0 0,.string ⟨#[]⟩,.int .i64 0,.string ⟨#[]⟩,.string ⟨#[]⟩,.slice none 0 0,.string ⟨#[]⟩,.slice none 0 0],.bool false]) (res2 Tryz.results23 rfl (getV (Blk.rowPut (HRes.out ()) _ rfl rfl) rfl) rfl) rfl ?_
  rw[hr]
  exact⟨rfl,Fr.rowPut (HF3.out ()) (.inr (Nat.le_refl _))⟩
 | some p =>
  refine(Calls.mono HU.out fun _ _ h=>gotU1 h hr).mono ?_
  rintro e w3 ⟨rfl,hpol,hf⟩
  have hres:=(HBR.out ()).next hf (by show ¬ _;omega)
  have HF3:=hqZ (fun(_:Unit)=>Fr.trans' hpt.out.1 hf (fun g hg e=>by omega))
  have HRes:=hqZ (fun(_:Unit)=>hres)
  have hs4:=Nat.le_trans hpt.out.2 hf.size
  have HPP:=hqZ (lk w3 _ (w.heap.size+1) p hpol (HX.out p hr).1 ((HX.out p hr).2.1 _) (HX.out p hr).2.2)
  clear hres hf hpol
  go_wp2_with fail
  refine HPP.out.mono ?_
  rintro e w4 ⟨A1,A2,A3,A4,A5,n1,m1,n2,m2,n3,m3,n4,m4,n5,m5,rfl,hpp,hf⟩
  have hres:=(HRes.out ()).next hf id
  have hSTr:=stC hres rfl
  have HRes2:=hqZ (fun(_:Unit)=>hres)
  have HF4:=hqZ (fun(_:Unit)=>hf)
  have HP4:=hqZ (fun(_:Unit)=>hpp)
  obtain⟨ho1,ho2,ho3,ho4⟩:=ones
  clear hres hf hpp
  go_wp2_with fail
  refine bodyPost_ret (v:=.tuple #[.agg #[.bool p.forbid,.slice A1 n1 m1,.int .i64 (p.principal.kind:Nat),.string p.principal.ent.1,.string p.principal.ent.2,.slice A2 n2 m2,.string p.principal.ty,.int .i64 (p.action.kind:Nat),.string p.action.ent.1,.string p.action.ent.2,.slice A3 n3 m3,.string p.action.ty,.int .i64 (p.resource.kind:Nat),.string p.resource.ent.1,.string p.resource.ent.2,.slice A4 n4 m4,.string p.resource.ty,.slice A5 n5 m5],.bool true]) (res2 Tryz.results23 rfl (getV (Blk.rowPut (HRes2.out ()) [.bool p.forbid,.slice A1 n1 m1,.int .i64 (p.principal.kind:Nat),.string p.principal.ent.1,.string p.principal.ent.2,.slice A2 n2 m2,.string p.principal.ty,.int .i64 (p.action.kind:Nat),.string p.action.ent.1,.string p.action.ent.2,.slice A3 n3 m3,.string p.action.ty,.int .i64 (p.resource.kind:Nat),.string p.resource.ent.1,.string p.resource.ent.2,.slice A4 n4 m4,.string p.resource.ty,.slice A5 n5 m5] rfl rfl) rfl) rfl) rfl ?_
  have hs3:=(HF3.out ()).size
  rw[hr]
  exact⟨A1,A2,A3,A4,A5,n1,m1,n2,m2,n3,m3,n4,m4,n5,m5,rfl,hqZ (PP.mono (Z:=fun g=>w3.heap.size<=g) (PP.frame (Z:=fun g=>w3.heap.size<=g) (S:=fun g=>g=w.heap.size) (HP4.out ()).out (Fr.rowPut Fr.r (.inl rfl)) (fun g hg _ e=>by omega)) (fun g _ hg=>by omega)),Fr.rowPut ((HF3.out ()).trans (HF4.out ())) (.inr (Nat.le_refl _))⟩
end Go.Proofs.YtbdhlpeckennjaaGreatDoor
namespace Go.Proofs.YtbdhlpeckennjaaGreatDoor
open Go Go.RowKit
theorem nb_of{w:List UInt8}(h:(47:UInt8) ∉ w):NB w:=by
 rintro⟨a,b,rfl⟩
 exact h (by simp)
theorem pk{w:List UInt8}{ts:List Tok}(h:bL w=some (ts ++ [eofT]))(h47:(47:UInt8) ∉ w):Good w/\∃ l e,w=flat l e/\ck l e/\l.map Sg.tok=ts:=by
 obtain⟨g,l,e,h1,h2,h3⟩:=fR h (nb_of h47)
 exact⟨g,l,e,h1,h2,(List.append_inj' h3.symm rfl).1⟩
def Pc (x:List UInt8)(ts:List Tok):Prop:=Good x/\∃ l e,x=flat l e/\ck l e/\l.map Sg.tok=ts
theorem Pc.of{w:List UInt8}{ts:List Tok}(h:bL w=some (ts ++ [eofT]))(h47:(47:UInt8) ∉ w):Pc w ts:=pk h h47
theorem rQ{m:Nat}{A:List Tok}{x:Ex}(hF:Fin (A++aw))(h:expr m (A++aw) = .ok x aw):polP (expr m) (dF++(dj++(A++aw))) = .ok ⟨false,[],Scp.all,Scp.all,Scp.all,[(false,x)]⟩ [eofT]:=by
 have ac:adv aw = [opT [59],eofT]:=rfl
 have h1:bV (expr m) (opT [123]::(A++aw)) = .ok x [opT [59],eofT]:=by
  unfold bV ak
  rw[if_pos (show(hd (opT [123]::(A++aw))).is [123]=true from by show(opT [123]).is _=true;rw[eX];rfl),gE _ hF.ne]
  show(expr m (A++aw)).bind _=_
  rw[h]
  show PR.bind (if(hd aw).is [125]then PR.ok () (adv aw)else .bad) _=_
  rw[if_pos (show(hd aw).is [125]=true from by show(opT [125]).is _=true;rw[eX];rfl),ac]
  rfl
 have h2:aB (expr m) [] (dj++(A++aw)) = .ok (Sum.inl [(false,x)]) [opT [59],eofT]:=by
  unfold aB
  rw[if_pos (show(hd (dj++(A++aw))).is [119,104,101,110]=true from by show(idT [119,104,101,110]).is [119,104,101,110]=true;rw[is_id];rfl)]
  show(bV (expr m) (opT [123]::(A++aw))).bind _=_
  rw[h1];rfl
 have h3:aB (expr m) [(false,x)] [opT [59],eofT] = .ok (Sum.inr [(false,x)]) [opT [59],eofT]:=by
  unfold aB
  have e:hd [opT [59],eofT]=opT [59]:=rfl
  rw[e,eX,eX,if_neg (by decide),if_neg (by decide)]
 have h4:aj (aB (expr m)) [] (dj++(A++aw)) = .ok [(false,x)] [opT [59],eofT]:=by
  unfold aj
  rw[show(dj++(A++aw)).length+1=((dj++(A++aw)).length - 1+1)+1 from by simp[dj]]
  simp only[ai]
  rw[h2]
  simp only[PR.bind]
  rw[h3]
 rw[show dF++(dj++(A++aw))=dF++idT [119,104,101,110]::(opT [123]::(A++aw))from rfl,mX]
 unfold gp
 rw[show idT [119,104,101,110]::(opT [123]::(A++aw))=dj++(A++aw)from rfl,h4]
 show(ak [59] [opT [59],eofT]).bind _=_
 unfold ak
 rw[if_pos (show(hd [opT [59],eofT]).is [59]=true from by show(opT [59]).is _=true;rw[eX];rfl)]
 rfl
def decD:Nat->Nat->List UInt8
 | 0,_=>[]
 | k+1,n=>if n < 10 then [UInt8.ofNat (48+n)]else decD k (n / 10) ++ [UInt8.ofNat (48+n % 10)]
def cO (b:UInt8):Prop:=48<=b.toNat/\b.toNat<=57
theorem fy{d:Nat}(h:d < 10):(UInt8.ofNat (48+d)).toNat=48+d:=by
 simp;omega
theorem fa:∀ (k n:Nat),∀ b ∈ decD k n,cO b
 | 0,_,b,h=>by cases h
 | k+1,n,b,h=>by
  unfold decD at h
  split at h
  .simp only[List.mem_singleton]at h;subst h;unfold cO;rw[fy (by omega)];omega
  .rcases List.mem_append.1 h with h|h
   .exact fa k _ b h
   .simp only[List.mem_singleton]at h;subst h;unfold cO;rw[fy (by omega)];omega
theorem iM:∀ (k n:Nat),decD (k+1) n ≠ []
 | k,n=>by unfold decD;split <;> simp
theorem ps{M acc d:Nat}{r:List UInt8}(hd:d < 10)(h1:acc < 1844674407370955162)(h2:acc * 10+d<=M):Lib.parseUintM M acc (UInt8.ofNat (48+d)::r)=Lib.parseUintM M (acc * 10+d) r:=by
 simp only[Lib.parseUintM]
 rw[fy hd,if_pos (by omega),if_neg (by omega),if_neg (by omega)]
 congr 2;omega
theorem re:∀ (k n:Nat) (r:List UInt8),n < 10 ^ k->1<=k->n < 2 ^ 64->Lib.parseUintM (2 ^ 64 - 1) 0 (decD k n++r)=Lib.parseUintM (2 ^ 64 - 1) n r
 | 0,_,_,_,h,_=>by omega
 | k+1,n,r,hn,_,hm=>by
  unfold decD
  split
  .rw[List.singleton_append,ps (by assumption) (by omega) (by omega)];simp
  .rename_i h10
   have hk:1<=k:=by
    cases k with
    | zero=>simp at hn;omega
    | succ k=>omega
   rw[List.append_assoc,re k (n / 10) _ (by rw[Nat.pow_succ]at hn;omega) hk (by omega),List.singleton_append,ps (by omega) (by omega) (by omega)]
   congr 1;omega
def decN (n:Nat):List UInt8:=decD 20 n
theorem rf{n:Nat}(hn:n < 2 ^ 64):Lib.parseUintB 64 (decN n) = .ok n:=by
 unfold Lib.parseUintB
 rw[if_neg (show ¬ decN n = []from iM 19 n)]
 have:=re 20 n [] (by omega) (by omega) hn
 rw[List.append_nil]at this
 exact this
theorem pi_pos{n:Nat}(hn:n < 2 ^ 64):Lib.parseIntB 64 (decN n)=if 2 ^ 63<=n then .range else .ok (n:Int):=by
 obtain⟨c,r,e⟩:∃ c r,decN n=c::r:=by
  cases h:decN n with
  | nil=>exact absurd h (iM 19 n)
  | cons c r=>exact⟨c,r,rfl⟩
 have hc:cO c:=fa 20 n c (by rw[show decD 20 n=decN n from rfl,e];simp)
 have hu:=rf hn
 unfold cO at hc
 rw[e]at hu ⊢
 simp only[Lib.parseIntB]
 rw[if_neg (by omega),hu]
 by_cases h:2 ^ 63<=n
 .rw[if_pos h];simp only;rw[if_pos ⟨by omega,h⟩]
 .rw[if_neg h];simp only;rw[if_neg (by rintro⟨_,h2⟩;exact h h2),if_neg (by rintro⟨h2,_⟩;omega),if_neg (by omega)]
theorem pi_neg{n:Nat}(hn:n < 2 ^ 64):Lib.parseIntB 64 (45::decN n)=if 2 ^ 63 < n then .range else .ok (-(n:Int)):=by
 have hu:=rf hn
 have h45:(45:UInt8).toNat=45:=rfl
 simp only[Lib.parseIntB]
 rw[if_pos (.inr h45),hu]
 by_cases h:2 ^ 63 < n
 .rw[if_pos h];simp only;rw[if_neg (by rintro⟨h2,_⟩;exact h2 h45),if_pos ⟨h45,h⟩]
 .rw[if_neg h];simp only;rw[if_neg (by rintro⟨h2,_⟩;exact h2 h45),if_neg (by rintro⟨_,h2⟩;exact h h2),if_pos h45]
theorem pE{b:UInt8}(h:cO b)(v:List UInt8):chr (b::v)=(b.toNat:Nat)/\nxt (b::v)=v:=by
 unfold cO at h
 exact⟨(aK v (by omega)).1,(aK v (by omega)).2.2⟩
theorem nw:decB (-1)=false:=by decide
theorem kr:∀ (u:List UInt8) (v:List UInt8),(∀ b ∈ u,cO b)->decB (chr v)=false->skip decB (u++v)=v
 | [],v,_,h=>bj nw h
 | b::u,v,hu,h=>by
  have hb:=hu b (by simp)
  obtain⟨h1,h2⟩:=pE hb (u++v)
  rw[List.cons_append,bP nw,h1,if_pos (by unfold cO at hb;simp[decB];omega),h2]
  exact kr u v (fun c hc=>hu c (by simp[hc])) h
theorem tk_digs{u v:List UInt8}(hu:∀ b ∈ u,cO b)(hne:u ≠ [])(hv:decB (chr v)=false):Tk 2 u v:=by
 obtain⟨b,r,rfl⟩:∃ b r,u=b::r:=by cases u with|nil=>exact absurd rfl hne|cons b r=>exact⟨b,r,rfl⟩
 refine⟨by decide,hne,?_⟩
 have hb:=hu b (by simp)
 obtain⟨h1,h2⟩:=pE hb (r++v)
 have hk:=kr _ _ hu hv
 unfold cO at hb
 simp only[am]
 rw[List.cons_append]at hk ⊢
 rw[bj cm (by rw[h1];simp[wsB];omega),h1]
 rw[if_neg (by omega),if_neg (by simp[bh,gv,decB];omega),if_pos (by simp[decB];omega),hk]
theorem qW(v:List UInt8):Tk 5 [45] v:=by
 refine⟨by decide,by simp,?_⟩
 obtain⟨c1,c2,c3⟩:=aK (b:=45) v (by decide)
 have hw:wsB (chr ([45]++v))=false:=by rw[List.singleton_append,c1];decide
 simp only[am]
 rw[bj cm hw,List.singleton_append,c1,c3]
 rfl
theorem tk_semi(v:List UInt8):Tk 5 [59] v:=by
 refine⟨by decide,by simp,?_⟩
 obtain⟨c1,c2,c3⟩:=aK (b:=59) v (by decide)
 have hw:wsB (chr ([59]++v))=false:=by rw[List.singleton_append,c1];decide
 simp only[am]
 rw[bj cm hw,List.singleton_append,c1,c3]
 rfl
theorem mg(v:List UInt8):Tk 5 [44] v:=by
 refine⟨by decide,by simp,?_⟩
 obtain⟨c1,c2,c3⟩:=aK (b:=44) v (by decide)
 have hw:wsB (chr ([44]++v))=false:=by rw[List.singleton_append,c1];decide
 simp only[am]
 rw[bj cm hw,List.singleton_append,c1,c3]
 rfl
def iQ:List Sg:=[⟨[],[112,101,114,109,105,116],1⟩,⟨[32],[40],5⟩,⟨[],[112,114,105,110,99,105,112,97,108],1⟩,⟨[],[44],5⟩,⟨[32],[97,99,116,105,111,110],1⟩,⟨[],[44],5⟩,⟨[32],[114,101,115,111,117,114,99,101],1⟩,⟨[],[41],5⟩,⟨[32],[119,104,101,110],1⟩]
def iR:List UInt8:=[112,101,114,109,105,116,32,40,112,114,105,110,99,105,112,97,108,44,32,97,99,116,105,111,110,44,32,114,101,115,111,117,114,99,101,41,32,119,104,101,110]
theorem iP:ck iQ []/\flat iQ []=iR:=by
 have sp:GapC [32]:=GapC.one 32 (by simp)
 refine⟨⟨.nil,⟨⟨by decide,by decide,by kernel_rfl⟩,aH _ (by decide)⟩,sp,⟨(nC rfl _).1,aH _ (by decide)⟩,.nil,⟨⟨by decide,by decide,by kernel_rfl⟩,aH _ (by decide)⟩,.nil,⟨mg _,aH _ (by decide)⟩,
  sp,⟨⟨by decide,by decide,by kernel_rfl⟩,aH _ (by decide)⟩,.nil,⟨mg _,aH _ (by decide)⟩,sp,⟨⟨by decide,by decide,by kernel_rfl⟩,aH _ (by decide)⟩,.nil,⟨(nC rfl _).1,aH _ (by decide)⟩,
  sp,⟨⟨by decide,by decide,by kernel_rfl⟩,aH _ (by decide)⟩,.of _ .nil⟩,rfl⟩
def bz (n:Nat)(minus:Bool):List UInt8:=iR++([32,123]++((if minus then [45]else [])++(decN n ++ [125,59])))
def numT (n:Nat):Tok:=⟨2,⟨(decN n).toArray⟩⟩
def cW (n:Nat)(minus:Bool):List Tok:=(if minus then [opT [45]]else []) ++ [numT n]
theorem long_pc(n:Nat)(minus:Bool):∃ l e,bz n minus=flat l e/\ck l e/\Good (bz n minus)/\l.map Sg.tok ++ [eofT]=dF++(dj++(cW n minus++aw)):=by
 have hd:=fa 20 n
 obtain⟨c,r,e⟩:∃ c r,decN n=c::r:=by
  cases h:decN n with
  | nil=>exact absurd h (iM 19 n)
  | cons c r=>exact⟨c,r,rfl⟩
 have hc:cO c:=hd c (by rw[show decD 20 n=decN n from rfl,e];simp)
 have hok:cH (decN n):=by rw[e];exact aH _ (by unfold cO at hc;omega)
 have hend:ck [⟨[],[125],5⟩,⟨[],[59],5⟩] []:=⟨.nil,⟨(nC rfl _).1,aH _ (by decide)⟩,.nil,⟨tk_semi _,aH _ (by decide)⟩,.of _ .nil⟩
 have hnum:ck [⟨[],decN n,2⟩,⟨[],[125],5⟩,⟨[],[59],5⟩] []:=⟨.nil,⟨tk_digs hd (iM 19 n) (by
  show decB (chr (125::_))=false
  rw[(aK _ (by decide)).1];decide),hok⟩,hend⟩
 have hmin:ck ((if minus then [⟨[],[45],5⟩]else []) ++ [⟨[],decN n,2⟩,⟨[],[125],5⟩,⟨[],[59],5⟩]) []:=by
  cases minus with
  | false=>exact hnum
  | true=>exact⟨.nil,⟨qW _,aH _ (by decide)⟩,hnum⟩
 have hbr:ck (⟨[32],[123],5⟩::((if minus then [⟨[],[45],5⟩]else []) ++ [⟨[],decN n,2⟩,⟨[],[125],5⟩,⟨[],[59],5⟩])) [] :=
  ⟨GapC.one 32 (by simp),⟨(nC rfl _).1,aH _ (by decide)⟩,hmin⟩
 have hall:=(kD iQ [] _ [] [] (by rw[List.append_nil];exact iP.1) hbr (.sep (.inr ⟨_,.inr rfl⟩))).1
 have hflat:flat (iQ++⟨[32],[123],5⟩::((if minus then [⟨[],[45],5⟩]else []) ++ [⟨[],decN n,2⟩,⟨[],[125],5⟩,⟨[],[59],5⟩])) []=bz n minus:=by
  have hb:body iQ=iR:=by rw[<- iP.2,qI,List.append_nil]
  rw[rH,hb]
  unfold bz
  cases minus <;> simp[flat]
 refine⟨_,_,hflat.symm,hall,?_,by cases minus <;> rfl⟩
 have hg0:∀ (w v:List UInt8),(∀ b ∈ w,b.toNat < 128/\b ≠ 0)->Good v->Good (w++v):=by
  intro w v hw hv
  induction w with
  | nil=>exact hv
  | cons b w ih=>exact(qg _ (hw b (by simp)).1 (hw b (by simp)).2).2 (ih fun c hc=>hw c (by simp[hc]))
 unfold bz
 refine hg0 _ _ (by decide) (hg0 _ _ (by decide) (hg0 _ _ (by cases minus <;> decide) (hg0 _ _ (fun b hb=>?_) (by have:=hg0 [125,59] [] (by decide) mZ;simpa using this))))
 have:=hd b hb
 unfold cO at this
 exact⟨by omega,by rintro rfl;simp at this⟩
theorem oa{n:Nat}{c:UInt8}{l:List UInt8}(hc:¬ cO c):(numT n).is (c::l)=false:=by
 unfold numT
 rw[kF]
 have hd:=fa 20 n
 cases h:decN n with
 | nil=>rfl
 | cons a r =>
  have ha:cO a:=hd a (by rw[show decD 20 n=decN n from rfl,h];simp)
  have:¬ a=c:=by rintro rfl;exact hc ha
  simp[this]
theorem oZ{E:List Tok->PR Ex}{ts r:List Tok}{x:Ex}(hr:bd (hd r))(hu:bl E ts = .ok x r)(h0:(hd ts).is [105,102]=false):cA E ts = .ok x r:=by
 have hs:=bO hr
 have ha:addP E ts = .ok x r:=gw (gw hu (by simp[hs])) (by simp[hs])
 have hrel:aO E ts = .ok x r:=by
  unfold aO bQ
  rw[ha]
  simp[PR.bind,hs]
 unfold cA
 rw[if_neg (by simp[h0])]
 exact gw (gw hrel (by simp[hs])) (by simp[hs])
theorem jw{E:List Tok->PR Ex}{ts:List Tok}(hu:bl E ts = .bad)(h0:(hd ts).is [105,102]=false):cA E ts = .bad:=by
 have ha:addP E ts = .bad:=by unfold addP multP aS;rw[hu];rfl
 have hrel:aO E ts = .bad:=by unfold aO;rw[ha];rfl
 unfold cA
 rw[if_neg (by simp[h0])]
 unfold orP andP aS
 rw[hrel]
 rfl
theorem lQ(E:List Tok->PR Ex)(x:Ex):aj (aC E) x aw = .ok x aw:=by
 unfold aj
 have h0:hd aw=opT [125]:=rfl
 simp only[ai,aC]
 rw[h0,eX,if_neg (by decide),eX,if_neg (by decide)]
 rfl
def bK (n:Nat)(minus:Bool):Option Int:=if 2 ^ 63 < n\/(n=2 ^ 63/\minus=false)then none else some (if minus then -(n:Int)else(n:Int))
theorem rx(n:Nat)(hn:n < 2 ^ 64)(minus:Bool):ec minus ⟨(decN n).toArray⟩ aw=match bK n minus with|some v=>.ok (.lit (.long v)) aw|none=>.bad:=by
 unfold ec bK
 cases minus with
 | false =>
  simp only[Bool.false_eq_true,if_false]
  rw[pi_pos hn]
  by_cases h:2 ^ 63<=n
  .rw[if_pos h,if_pos (by rcases Nat.lt_or_eq_of_le h with h2|h2;exact .inl h2;exact .inr ⟨h2.symm,trivial⟩)]
  .rw[if_neg h,if_neg (by rintro(h2|⟨h2,_⟩) <;> exact h (by omega))]
 | true =>
  simp only[if_true]
  rw[pi_neg hn]
  by_cases h:2 ^ 63 < n
  .rw[if_pos h,if_pos (.inl h)]
  .rw[if_neg h,if_neg (by rintro(h2|⟨_,h2⟩);exact h h2;cases h2)]
theorem oj(E:List Tok->PR Ex)(n:Nat)(hn:n < 2 ^ 64)(minus:Bool):bl E (cW n minus++aw)=match bK n minus with|some v=>.ok (.lit (.long v)) aw|none=>.bad:=by
 have k2:(numT n).kind=2:=rfl
 have hdn:hd (numT n::aw)=numT n:=rfl
 have hadv:adv (numT n::aw)=aw:=rfl
 have i1:(numT n).is [45]=false:=oa (by unfold cO;decide)
 have i2:(numT n).is [33]=false:=oa (by unfold cO;decide)
 cases minus with
 | false =>
  show bl E (numT n::aw)=_
  unfold bl
  rw[rj (by rw[hdn];exact i1) (by rw[hdn];exact i2)]
  show bi E [] (numT n::aw)=_
  unfold bi
  rw[if_neg (by simp)]
  unfold br ap
  rw[hdn,if_pos k2,hadv]
  show((ec false ⟨(decN n).toArray⟩ aw).bind _).bind _=_
  rw[rx n hn]
  cases bK n false with
  | none=>rfl
  | some v =>
   show(aj (aC E) _ aw).bind _=_
   rw[lQ]
   rfl
 | true =>
  show bl E (opT [45]::numT n::aw)=_
  unfold bl
  have hops:aj bR [] (opT [45]::numT n::aw) = .ok [true] (numT n::aw):=by
   unfold aj
   rw[show(opT [45]::numT n::aw).length+1=((opT [45]::numT n::aw).length - 1+1)+1 from rfl]
   simp only[ai]
   have e1:bR [] (opT [45]::numT n::aw) = .ok (Sum.inl [true]) (numT n::aw):=by
    unfold bR
    rw[if_pos (show(hd (opT [45]::numT n::aw)).is [45]=true from by show(opT [45]).is _=true;rw[eX];rfl)]
    rfl
   have e2:bR [true] (numT n::aw) = .ok (Sum.inr [true]) (numT n::aw):=by
    unfold bR
    rw[hdn,i1,i2];rfl
   rw[e1]
   simp only[PR.bind]
   rw[e2]
  rw[hops]
  show bi E [true] (numT n::aw)=_
  unfold bi
  rw[hdn,if_pos ⟨k2,rfl⟩,hadv]
  show(ec true ⟨(decN n).toArray⟩ aw).bind _=_
  rw[rx n hn]
  cases bK n true with
  | none=>rfl
  | some v=>rfl
theorem mS(n:Nat)(hn:n < 2 ^ 64)(minus:Bool):dp (bz n minus)=(bK n minus).map fun v=>⟨false,[],Scp.all,Scp.all,Scp.all,[(false,.lit (.long v))]⟩:=by
 obtain⟨l,e,h1,h2,h3,h4⟩:=long_pc n minus
 have hK:=iW h2
 have ht:bL (bz n minus)=some (dF++(dj++(cW n minus++aw))):=by rw[h1];rw[h1]at h3;rw[ol h3 h2,h4]
 rw[h4]at hK
 unfold dp
 rw[ht]
 show(match polP (expr (dF++(dj++(cW n minus++aw))).length) (dF++(dj++(cW n minus++aw)))with | .ok p _=>some p|_=>none)=_
 obtain⟨m,hm⟩:∃ m,(dF++(dj++(cW n minus++aw))).length=m+1:=⟨_,(Nat.succ_pred_eq_of_pos (by simp[dF])).symm⟩
 rw[hm]
 have hF:Fin (cW n minus++aw):=((show KFin ((dF++dj)++(cW n minus++aw))from by rw[List.append_assoc];exact hK).suffix (by simp[aw])).1
 have h0:(hd (cW n minus++aw)).is [105,102]=false:=by
  cases minus with
  | false=>exact oa (by unfold cO;decide)
  | true=>show(opT [45]).is _=false;rw[eX];rfl
 have hu:=oj (expr m) n hn minus
 have hx:expr (m+1) (cW n minus++aw)=match bK n minus with|some v=>.ok (.lit (.long v)) aw|none=>.bad:=by
  show cA (expr m) _=_
  cases hr:bK n minus with
  | none=>rw[hr]at hu;exact jw hu h0
  | some v=>rw[hr]at hu;exact oZ nO hu h0
 have h1':polP (expr (m+1)) (dF++(dj++(cW n minus++aw)))=match bK n minus with|some v=>.ok ⟨false,[],Scp.all,Scp.all,Scp.all,[(false,.lit (.long v))]⟩ [eofT]|none=>.bad:=by
  cases hr:bK n minus with
  | some v =>
   rw[hr]at hx
   exact rQ hF hx
  | none =>
   rw[hr]at hx
   rw[show dF++(dj++(cW n minus++aw))=dF++idT [119,104,101,110]::(opT [123]::(cW n minus++aw))from rfl,mX]
   unfold gp aj
   have hc:aB (expr (m+1)) [] (idT [119,104,101,110]::(opT [123]::(cW n minus++aw))) = .bad:=by
    unfold aB
    rw[if_pos (show(hd (idT [119,104,101,110]::(opT [123]::(cW n minus++aw)))).is [119,104,101,110]=true from by show(idT [119,104,101,110]).is [119,104,101,110]=true;rw[is_id];rfl)]
    show(bV (expr (m+1)) (opT [123]::(cW n minus++aw))).bind _=_
    unfold bV ak
    rw[if_pos (show(hd (opT [123]::(cW n minus++aw))).is [123]=true from by show(opT [123]).is _=true;rw[eX];rfl),gE _ hF.ne]
    show((expr (m+1) (cW n minus++aw)).bind _).bind _=_
    rw[hx];rfl
   simp only[ai]
   rw[hc]
   rfl
 rw[h1']
 cases bK n minus <;> rfl
theorem conv1(W:World)(x:UInt8)(c:Nat):(convert 67 9 (.slice (some ⟨W.heap.size,0,none⟩) 1 c)).run Tryz.prog (W.alloc (.cells #[.int .u8 (x.toNat:Int)] 5)) = .ok (.string ⟨#[x]⟩) (W.alloc (.cells #[.int .u8 (x.toNat:Int)] 5)):=by
 have h:=run_convert_bytes_back (P:=Tryz.prog) (W.alloc (.cells #[.int .u8 (x.toNat:Int)] 5)) 67 9 5 ⟨W.heap.size,0,none⟩ c [x] u8S u8I2 strTu (fun j hj=>by
  have:j=0:=by simp at hj;exact hj
  subst this
  exact Blk.cell (Blk.at_ W 5 #[.int .u8 (x.toNat:Int)] rfl) 0 _ rfl)
 exact h
theorem dc(w:World)(n:Nat)(hn:n < 2 ^ 64):Calls Tryz.prog 8 #[.int .u64 n,.int .i64 1] w fun e w'=>e = .returned (.string ⟨(decN n).toArray⟩)/\New w w':=by
 go_enter Tryz.func8,Tryz.ntmps8
 go_wp2
 go_loopg [0,5] 21 (fun k v0 v5 wr=>∃ (m:Nat) (acc:List UInt8),v0 = .int .u64 (m:Int)/\v5 = .string ⟨acc.toArray⟩/\m < 2 ^ 64/\acc.length+k<=21/\((m=0/\acc ≠ []/\acc=decN n)\/((0 < m\/acc = [])/\m < 10 ^ (k - 1)/\2<=k/\decN n=decD (k - 1) m++acc))/\Fr (fun _=>False) w wr)
 case atStart=>exact⟨n,[],rfl,rfl,hn,by simp,.inr ⟨.inr rfl,by omega,by omega,by simp;rfl⟩,Fr.refl _ _⟩
 case round =>
  obtain⟨m,acc,rfl,rfl,hm,hal,hc,hf⟩:=hrel
  have HF:=hqZ hf
  have HC:=hqZ hc
  clear hc hf
  by_cases h0:0 < m\/acc = []
  case neg =>
   have hm0:m=0:=by omega
   have hac:acc ≠ []:=fun h=>h0 (.inr h)
   subst hm0
   have hlp:0 < acc.length:=List.length_pos_iff.2 hac
   have hq:¬ ((acc.length:Int) < 1):=by omega
   go_wp2
   go_ret
   have he:acc=decN n:=by
    rcases HC.out with ⟨_,_,h⟩|⟨h,_⟩
    .exact h
    .exact absurd h h0
   exact⟨by rw[<- he];rfl,HF.out⟩
  case pos =>
   obtain⟨d,hd⟩:∃ d:UInt8,d=UInt8.ofNat (48+m % 10):=⟨_,rfl⟩
   have hdn:d.toNat=48+m % 10:=by rw[hd];exact fy (by omega)
   have hcv:=conv1 wr d 1
   rw[show((d.toNat:Nat):Int)=48+(m:Int) % 10 from by omega]at hcv
   have HD:=hqZ hd
   clear hd hdn
   have hfin:∃ k,gk=k+1/\acc.length+k+1<=21/\((m / 10=0/\d::acc ≠ []/\d::acc=decN n)\/((0 < m / 10\/d::acc = [])/\m / 10 < 10 ^ (k - 1)/\2<=k/\decN n=decD (k - 1) (m / 10)++d::acc)):=by
    rcases HC.out with ⟨e1,e2,e3⟩|⟨e1,e2,e3,e4⟩
    .rcases h0 with h|h
     .omega
     .exact absurd h e2
    .obtain⟨k,rfl⟩:∃ k,gk=k+2:=⟨gk - 2,by omega⟩
     refine⟨k+1,rfl,by omega,?_⟩
     rw[show k+2 - 1=k+1 from rfl]at e2 e4
     by_cases h10:m < 10
     .refine .inl ⟨by omega,by simp,?_⟩
      rw[e4]
      unfold decD
      rw[if_pos h10,HD.out,Nat.mod_eq_of_lt h10];rfl
     .have hk:1<=k:=by
       cases k with
       | zero=>simp at e2;omega
       | succ k=>omega
      refine .inr ⟨.inl (by omega),by rw[Nat.pow_succ]at e2;show m / 10 < 10 ^ k;omega,by omega,?_⟩
      rw[e4]
      show decD (k+1) m++acc=decD k (m / 10)++d::acc
      conv=>lhs;unfold decD
      rw[if_neg h10,HD.out,List.append_assoc];rfl
   obtain⟨k,hgk,hk1,hk2⟩:=hfin
   have HK2:=hqZ hk2
   have HM:=hqZ (show m / 10 < 2 ^ 64 from by omega)
   clear hk2
   by_cases hm0:0 < m
   case pos =>
    have hq:(0:Int) < (m:Int):=by omega
    go_wp2_with fail
    go_roundg k
    case measure=>omega
    case rel =>
     exact⟨m / 10,d::acc,by push_cast;rfl,rfl,HM.out,by simp only[List.length_cons];omega,HK2.out,HF.out.alloc _⟩
   case neg =>
    have hac:acc = []:=h0.resolve_left hm0
    subst hac
    have hq:¬ (0:Int) < (m:Int):=by omega
    go_wp2_with fail
    go_roundg k
    case measure=>omega
    case rel =>
     exact⟨m / 10,[d],by push_cast;rfl,rfl,HM.out,by simp only[List.length_cons,List.length_nil]at hk1 ⊢;omega,HK2.out,HF.out.alloc _⟩
theorem px_lit{W:World}{Z:Nat->Prop}{l:Val}{k n:Int}{s t:ByteArray}(hv:eM l = [.int .i64 k,.int .i64 n,.string s,.string t,.slice none 0 0,.slice none 0 0]):PX W Z (.lit l) [.int .i64 1,.string ⟨#[]⟩,.int .i64 k,.int .i64 n,.string s,.string t,.slice none 0 0,.slice none 0 0,.slice none 0 0,.slice none 0 0,.slice none 0 0]:=by
 have:=PX.mk (w:=W) (Z:=Z) 1 an l [] [] [] (.slice none 0 0) (.slice none 0 0) (.slice none 0 0) [] (Row.nil0 _ _ _) (Row.nil0 _ _ _) (Row.nil0 _ _ _) .nil
 rw[hv]at this
 exact this
theorem ple_lit(l:Val)(v:Value)(h:litV l=some v)(w:World)(Z:Nat->Prop):Calls Tryz.prog 49 #[.iface 168 (.agg #[v])] w (PLX w (.lit l)):=by
 have ny:=fun v W=>iY (S:=128) Tryz.runUnderlying168 (by intro m;exact nofun) v W
 obtain⟨k,n,s,t,hv⟩:=fD l
 have HV:=hqZ hv
 have HP:=hqZ (fun W=>ji l v h W)
 have ho:∃ p q,v = .iface p q:=by cases l <;> cases h <;> exact⟨_,_,rfl⟩
 obtain⟨p,q,rfl⟩:=ho
 rw[hv]at HP
 clear hv h
 have T0:=hqZ (Fr.refl (fun _=>False) w)
 go_enter Tryz.func49,Tryz.ntmps49
 (go_wp2_with fail;refine(HP.out _).mono ?_;rintro e w1 ⟨rfl,hf⟩;(have xs0:=Fr.size hf;simp only[aa,ae,ad,af]at xs0;have T1:=hqZ (Fr.transN ((T0.out.alloc _).alloc _) hf);clear T0;have B0:=hqZ (Blk.next ((Blk.at_ _ _ _ (n:=w.heap.size) rfl).alloc _) hf id);obtain⟨xk0,xl0⟩:=Blk.k11 B0.out;have B1:=hqZ (Blk.next (Blk.at_ _ _ _ (n:=w.heap.size+1) (by simp only[aa,ae,ad,af])) hf id);obtain⟨xk11,xl1⟩:=Blk.k1 B1.out;clear hf))
 go_wp2_with fail
 refine bodyPost_ret (v:=(.tuple #[.agg #[.int .i64 1,.string ⟨#[]⟩,.int .i64 k,.int .i64 n,.string s,.string t,.slice none 0 0,.slice none 0 0,.slice none 0 0,.slice none 0 0,.slice none 0 0],.bool true])) (by simp only[results,Tryz.results49];go_simp) rfl ?_
 refine⟨1,k,n,_,s,t,none,none,none,0,0,0,0,0,0,rfl,?_,by exact((((((((((((T1.out.set (.inr (Nat.le_refl _))).set (.inr (Nat.le_refl _))).set (.inr (Nat.le_refl _))).set (.inr (Nat.le_refl _))).set (.inr (Nat.le_refl _))).set (.inr (Nat.le_refl _))).set (.inr (Nat.le_refl _))).set (.inr (Nat.le_refl _))).set (.inr (Nat.le_refl _))).set (.inr (Nat.le_refl _))).set (.inr (Nat.le_refl _))).alloc _)⟩
 exact px_lit HV.out
end Go.Proofs.YtbdhlpeckennjaaGreatDoor
