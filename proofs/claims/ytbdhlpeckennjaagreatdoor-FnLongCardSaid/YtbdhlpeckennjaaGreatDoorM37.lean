/- FnLong (the proof that the law returns true for every input), part 37 of 52; the last part says what is proved, and its condition. -/
import Derived.Test.YtbdhlpeckennjaaGreatDoorM26
import Derived.Test.YtbdhlpeckennjaaGreatDoorM36
set_option linter.unusedVariables false
set_option linter.unusedSimpArgs false
set_option maxHeartbeats 80000000
set_option maxRecDepth 1000000
namespace Go.Proofs.YtbdhlpeckennjaaGreatDoor
open Go Go.RowKit
def zsc (i:Nat):Value :=
 if i=0 then .nilIface else if i<=1025 then .int .u8 0 else if i=1033 then .slice none 0 0 else if i=1035 then .int .i8 0 else if i=1038 then .int .i32 0 else if i=1039 then .nilIface else if i=1040 then .string ⟨#[]⟩else .int .i64 0
theorem zsc_all:Tryz.zeroCells216=((List.range 1044).map zsc).toArray:=by kernel_rfl
theorem zsc_buf(w:World)(B:Nat)(hB:B<=w.heap.size):LibA.IsBuffer 216 (fun i=>if i < 1044 then some (zsc i)else none) 5 B w.heap.size 1033 [] (w.alloc (.cells Tryz.zeroCells216 216)):=by
 have hg:∀ i,Tryz.zeroCells216[i]? = if i < 1044 then some (zsc i)else none:=by
  intro i
  rw[zsc_all,List.getElem?_toArray,List.getElem?_map]
  by_cases hi:i < 1044
  .rw[List.getElem?_range hi,if_pos hi];rfl
  .rw[if_neg hi,List.getElem?_eq_none (by simp;omega)];rfl
 refine LibA.zero_isBuffer (lr:=0) hB ⟨Tryz.zeroCells216,heap_alloc_new w _,?_,?_,?_,fun i hi=>?_⟩
 .rw[hg];rfl
 .rw[hg];rfl
 .rw[hg];rfl
 .exact hg i
def sf0:SF:=⟨fun k=>if k=0 then 128 else 0,0,0,0,1,0,0,0,[],-1,0,-2,.nilIface,0,0,0⟩
theorem bS{w:World}{T e:TypeId}{R:Nat->Option Value}{B b:Nat}{bs:List Value}(h:LibA.IsBuffer T R e B b 1033 bs w)(i:Nat)(hi:i < 1033\/1036<=i){x:Value}(hx:R i=some x):w.cell? ⟨b,i,none⟩=some x:=(h.rest i (by omega)).trans hx
theorem rz(w:World)(B sb rb:Nat)(h:LibA.IsBuffer 216 (fun i=>if i < 1044 then some (zsc i)else none) 5 B sb 1033 [] w) :
  Calls Tryz.prog 75 #[.pointer (some ⟨sb,0,none⟩),.iface 133 (.pointer (some ⟨rb,0,none⟩))] w fun e w'=>e = .returned (.pointer (some ⟨sb,0,none⟩))/\Scn w' B sb rb sf0/\Fr (fun k=>k=sb) w w':=by
 have c0:=bS h 0 (by omega) rfl
 have c1:=bS h 1 (by omega) rfl
 have c26:=bS h 1026 (by omega) rfl
 have c27:=bS h 1027 (by omega) rfl
 have c28:=bS h 1028 (by omega) rfl
 have c29:=bS h 1029 (by omega) rfl
 have c30:=bS h 1030 (by omega) rfl
 have c31:=bS h 1031 (by omega) rfl
 have c32:=bS h 1032 (by omega) rfl
 have c36:=bS h 1036 (by omega) rfl
 have c38:=bS h 1038 (by omega) rfl
 have c42:=bS h 1042 (by omega) rfl
 have z0:=h.notFrozen 0
 have z1:=h.notFrozen 1
 have z26:=h.notFrozen 1026
 have z27:=h.notFrozen 1027
 have z28:=h.notFrozen 1028
 have z29:=h.notFrozen 1029
 have z30:=h.notFrozen 1030
 have z31:=h.notFrozen 1031
 have z32:=h.notFrozen 1032
 have z36:=h.notFrozen 1036
 have z38:=h.notFrozen 1038
 have z42:=h.notFrozen 1042
 have hlt:=h.lt
 have H:=hqZ h
 clear h
 go_enter Tryz.func75,Tryz.ntmps75
 go_wp2_with fail
 go_ret
 refine⟨rfl,?_,by((repeat' (with_reducible(first|exact Fr.refl _ _|apply Fr.drew|apply Fr.drewN|apply Fr.alloc|apply Fr.set))) <;> first|exact .inl rfl|exact .inr (Nat.le_refl _)|exact .inr (by omega)|(refine .inl ?_;show ¬ _;omega))⟩
 have h1:=LibA.IsBuffer.setOther H.out 0 (by omega) rfl (.iface 133 (.pointer (some ⟨rb,0,none⟩)))
 have h2:=LibA.IsBuffer.setOther h1 1 (by omega) rfl (.int .u8 128)
 have h3:=LibA.IsBuffer.setOther h2 1026 (by omega) rfl (.int .i64 0)
 have h4:=LibA.IsBuffer.setOther h3 1027 (by omega) rfl (.int .i64 0)
 have h5:=LibA.IsBuffer.setOther h4 1028 (by omega) rfl (.int .i64 0)
 have h6:=LibA.IsBuffer.setOther h5 1029 (by omega) rfl (.int .i64 1)
 have h7:=LibA.IsBuffer.setOther h6 1030 (by omega) rfl (.int .i64 0)
 have h8:=LibA.IsBuffer.setOther h7 1031 (by omega) rfl (.int .i64 0)
 have h9:=LibA.IsBuffer.setOther h8 1032 (by omega) rfl (.int .i64 0)
 have h10:=LibA.IsBuffer.setOther h9 1036 (by omega) rfl (.int .i64 (-1))
 have h11:=LibA.IsBuffer.setOther h10 1038 (by omega) rfl (.int .i32 (-2))
 have h12:=LibA.IsBuffer.setOther h11 1042 (by omega) rfl (.int .i64 0)
 refine ct h12 fun i hi=>?_
 by_cases h0:i=0
 .subst h0;rfl
 by_cases h1:i=1
 .subst h1;rfl
 by_cases h2:i<=1025
 .unfold RF zsc sf0
  repeat (first|rw[if_neg (show ¬ i=_ by omega)]|rw[if_pos (show i<=_ by omega)]|rw[if_pos (show i < _ by omega)])
  show some (Value.int .u8 0)=some (.int .u8 ((if i - 1=0 then(128:UInt8)else 0).toNat:Int))
  rw[if_neg (show ¬ i - 1=0 by omega)]
  rfl
 by_cases h3:i < 1044
 .have:i=1026\/i=1027\/i=1028\/i=1029\/i=1030\/i=1031\/i=1032\/i=1036\/i=1037\/i=1038\/i=1039\/i=1040\/i=1041\/i=1042\/i=1043:=by omega
  rcases this with rfl|rfl|rfl|rfl|rfl|rfl|rfl|rfl|rfl|rfl|rfl|rfl|rfl|rfl|rfl <;> rfl
 .unfold RF
  repeat (first|rw[if_neg (show ¬ i=_ by omega)]|rw[if_neg (show ¬ i<=_ by omega)]|rw[if_neg (show ¬ i < _ by omega)])
theorem og(w:World)(g n cap:Nat):Calls Tryz.prog 51 #[.slice (some ⟨g,0,none⟩) n cap] w fun e w'=>e = .returned (.pointer (some ⟨w.heap.size,0,none⟩))/\Blk w' w.heap.size #[.slice (some ⟨g,0,none⟩) n cap,.int .i64 0,.int .i8 0] 214/\New w w':=by
 go_enter Tryz.func51,Tryz.ntmps51
 go_wp2
 go_ret
 exact⟨rfl,by exact(Blk.at_ _ _ _ (n:=w.heap.size) rfl),by((repeat' (with_reducible(first|exact Fr.refl _ _|apply Fr.drew|apply Fr.drewN|apply Fr.alloc|apply Fr.set))) <;> first|exact .inl rfl|exact .inr (Nat.le_refl _)|exact .inr (by omega)|(refine .inl ?_;show ¬ _;omega))⟩
def tokE (w:World)(Z:Nat->Prop)(t:Tok × Nat)(cs:List Value):Prop:=∃ l c:Int,cs = [.int .i64 t.1.kind,.string ⟨#[]⟩,.int .i64 t.2,.int .i64 l,.int .i64 c,.string t.1.text]
instance tokOK:bq tokE 6 where
 frame:=fun h _ _=>h
 mono:=fun h _=>h
 len:=fun⟨l,c,e⟩=>by rw[e];rfl
 one:=fun⟨l,c,e⟩ v hv=>by rw[e]at hv;simp at hv;rcases hv with rfl|rfl|rfl|rfl|rfl|rfl <;> rfl
theorem tokT:ElT 88 95 6 64:=⟨by kernel_rfl,by
 have h:(Tryz.prog.info? 95).map (fun i=>(i.zero.map (·.cells.size),i.size,i.bytes))=some (some 6,6,64):=by kernel_rfl
 obtain⟨i,hi⟩:∃ i,Tryz.prog.info? 95=some i:=by cases hh:Tryz.prog.info? 95 with|none=>rw[hh]at h;cases h|some i=>exact⟨i,rfl⟩
 rw[hi]at h
 simp at h
 obtain⟨⟨z,hz,hc⟩,h1,h2⟩:=h
 exact⟨i,z,hi,hz,h1,h2,hc⟩,by decide,by decide⟩
theorem Acc.fs{w w':World}{Z:Nat->Prop}{v:Value}{l:List (Tok × Nat)}{B sb rb:Nat}(h:Acc tokE w Z v l 95 6)(hf:FS B sb rb w w')(hZ:∀ g,Z g->g ≠ sb/\g ≠ rb):Acc tokE w' Z v l 95 6:=by
 obtain⟨xs,h1,h2,h3⟩:=h
 have h4:∀ (Y:Nat->Prop) (l:List (Tok × Nat)) (xs:List Value),EL tokE w Y l xs->EL tokE w' Y l xs:=by
  intro Y l
  induction l with
  | nil=>intro xs h;exact h
  | cons x l ih=>intro xs h;obtain⟨a,b,e,h1,h2⟩:=h;exact⟨a,b,e,h1,ih _ h2⟩
 refine⟨xs,⟨h1.1,?_⟩,h2,h4 _ _ _ h3⟩
 rcases h1.2 with hn|⟨g,cap,cur,e1,e2,e3,r⟩
 .exact .inl hn
 .refine .inr ⟨g,cap,cur,e1,e2,?_,r⟩
  have hz:=hZ g (h2 g (by rw[e1];rfl))
  exact hf.block g _ e3 hz.1 hz.2 (.inr (fun c fz e=>by cases e))
theorem Acc.keep{w w':World}{Z:Nat->Prop}{v:Value}{l:List (Tok × Nat)}(h:Acc tokE w Z v l 95 6){S:Nat->Prop}(hf:Fr S w w')(hS:∀ k,v.ownBlock=some k->¬ S k):Acc tokE w' Z v l 95 6:=by
 obtain⟨xs,h1,h2,h3⟩:=h
 have h4:∀ (Y:Nat->Prop) (l:List (Tok × Nat)) (xs:List Value),EL tokE w Y l xs->EL tokE w' Y l xs:=by
  intro Y l
  induction l with
  | nil=>intro xs h;exact h
  | cons x l ih=>intro xs h;obtain⟨a,b,e,h1,h2⟩:=h;exact⟨a,b,e,h1,ih _ h2⟩
 refine⟨xs,⟨h1.1,?_⟩,h2,h4 _ _ _ h3⟩
 rcases h1.2 with hn|⟨g,cap,cur,e1,e2,e3,r⟩
 .exact .inl hn
 .refine .inr ⟨g,cap,cur,e1,e2,?_,r⟩
  exact(hf.block g (Array.getElem?_eq_some_iff.1 e3).1 (hS g (by rw[e1];rfl))).trans e3
theorem Blk.set6{w:World}{b:Nat}{t:TypeId}{a0 a1 a2 a3 a4 a5 v0 v1 v2 v3 v4 v5:Value}(h:Blk w b #[a0,a1,a2,a3,a4,a5] t) :
  Blk ((((((w.setCell ⟨b,0,none⟩ v0).setCell ⟨b,1,none⟩ v1).setCell ⟨b,2,none⟩ v2).setCell ⟨b,3,none⟩ v3).setCell ⟨b,4,none⟩ v4).setCell ⟨b,5,none⟩ v5) b #[v0,v1,v2,v3,v4,v5] t :=
 (((((h.set 0 v0 rfl).set 1 v1 rfl).set 2 v2 rfl).set 3 v3 rfl).set 4 v4 rfl).set 5 v5 rfl
theorem Acc.toks{w:World}{Z:Nat->Prop}{v:Value}{l:List (Tok × Nat)}(h:Acc tokE w Z v l 95 6)(hl:l ≠ [])(hl2:l.length<=100000):∃ tb cap:Nat,v = .slice (some ⟨tb,0,none⟩) l.length cap/\Z tb/\tb < w.heap.size/\∀ j x,l[j]? = some x->gF w tb j x.1 x.2:=by
 obtain⟨xs,⟨h1,h2,A,cap,hv,hr⟩,hE⟩:=h.row hl2
 obtain⟨g,rfl,hz,hg,hc⟩:=hr (List.length_pos_iff.2 hl)
 refine⟨g,cap,hv,hz,hg,?_⟩
 have key:∀ (l:List (Tok × Nat)) (xs:List Value) (o:Nat),EL tokE w Z l xs->(∀ j u,xs[j]? = some u->w.cell? ⟨g,o * 6+j,none⟩=some u)->∀ j x,l[j]? = some x->gF w g (o+j) x.1 x.2:=by
  intro l
  induction l with
  | nil=>intro xs o _ _ j x hj;simp at hj
  | cons y l ih =>
   intro xs o hE hc j x hj
   obtain⟨a,b,rfl,⟨p,q,rfl⟩,h2⟩:=hE
   cases j with
   | zero =>
    simp at hj;subst hj
    exact⟨p,q,hc 0 _ rfl,hc 1 _ rfl,hc 2 _ rfl,hc 3 _ rfl,hc 4 _ rfl,hc 5 _ rfl⟩
   | succ j =>
    have:=ih b (o+1) h2 (fun i u hu=>by rw[show(o+1) * 6+i=o * 6+(6+i)from by omega];exact hc (6+i) u (by rw[Nat.add_comm 6 i];exact hu)) j x (by simpa using hj)
    rwa [show o+1+j=o+(j+1)from by omega]at this
 intro j x hj
 have:=key l xs 0 hE (fun j u hu=>by rw[Nat.zero_mul,Nat.zero_add];exact hc j u hu) j x hj
 rwa [Nat.zero_add]at this
theorem Acc.tokBlock{w:World}{Z:Nat->Prop}{v:Value}{l:List (Tok × Nat)}(h:Acc tokE w Z v l 95 6){k:Nat}(hk:v.ownBlock=some k):Z k/\k < w.heap.size/\∀ c fz,w.heap[k]? ≠ some (.cells c 5 fz):=by
 obtain⟨xs,h1,h2,h3⟩:=id h
 refine⟨h2 k hk,(h.lt k hk).1,?_⟩
 rcases h1.2 with hn|⟨g,cap,cur,e1,e2,e3,r⟩
 .rw[hn.1]at hk;cases hk
 .rw[e1]at hk;cases hk
  intro c fz e
  rw[e3]at e;cases e
theorem Cu.carry{w w':World}{V:Env}{x:List UInt8}{tk:Option Nat}{er:Bool}{kp:KP}(h:Cu w V x tk er kp){S:Nat->Prop}(hf:Fr S w w')(hS:∀ k,S k->k ≠ V.sb/\k ≠ V.rb/\V.B<=k/\∀ c fz,w.heap[k]? ≠ some (.cells c 5 fz)):Cu w' V x tk er kp:=by
 obtain⟨hs,f,⟨hScn,hR,hI,hP⟩,hlc,hch⟩:=h
 refine⟨hs,f,⟨hScn.fr hf fun k e=>⟨(hS k e).1,(hS k e).2.2.2⟩,?_,hI,hP.next (hf.mono fun k _ e=>(hS k e).2.2.1)⟩,hlc,hch⟩
 obtain⟨m,o,lr,hb,q⟩:=hR
 exact⟨m,o,lr,hb.next hf (fun e=>(hS _ e).2.1 rfl),q⟩
structure TkI(w0:World)(B sb rb g cap:Nat)(L:List UInt8)(av tp:Value)(k:Nat)(w:World)(acc:List (Tok × Nat))(v:List UInt8)(er er2:Bool)(tk2:Option Nat)(tv:Nat)(l c:Int):Prop where
 lx:LexI L acc v er k
 e:Er v (tkAt v).2.2.1 (tkAt v).2.2.2 er er2
 cu:Cu w ⟨B,sb,rb,g,cap,L⟩ (tkAt v).2.2.1 tk2 er2 (chr (tkAt v).2.2.1,((L.length - (tkAt v).2.1.length:Nat):Int),l,c)
 fs:Fr (fun k=>B<=k) w0 w
 htp:tp = .pointer (some ⟨tv,0,none⟩)
 htv:Blk w tv #[.int .i64 (tkAt v).1,.string ⟨#[]⟩,.int .i64 ((L.length - (tkAt v).2.1.length:Nat):Int),.int .i64 l,.int .i64 c,.string (iX L v).1.text] 95
 htn:tv ≠ sb/\tv ≠ rb/\w0.heap.size<=tv/\av.ownBlock ≠ some tv
 hacc:Acc tokE w (fun g=>w0.heap.size<=g/\g ≠ sb/\g ≠ rb) av acc 95 6
def NTe (w:World)(B sb rb g cap:Nat)(L v:List UInt8)(er:Bool)(e:Ending)(w':World):Prop :=
 ∃ (l c:Int) (er2:Bool) (tk2:Option Nat),e = .returned (.agg #[.int .i64 (tkAt v).1,.string ⟨#[]⟩,.int .i64 ((L.length - (tkAt v).2.1.length:Nat):Int),.int .i64 l,.int .i64 c,.string (iX L v).1.text])/\Er v (tkAt v).2.2.1 (tkAt v).2.2.2 er er2/\Cu w' ⟨B,sb,rb,g,cap,L⟩ (tkAt v).2.2.1 tk2 er2 (chr (tkAt v).2.2.1,((L.length - (tkAt v).2.1.length:Nat):Int),l,c)/\FS B sb rb w w'
theorem ntFirst(w:World)(B sb rb g cap:Nat)(L:List UInt8)(er0:Bool)(po l c:Int)(h:St w ⟨B,sb,rb,g,cap,L⟩ 0 0 none er0 (-2,po,l,c))(hnb:NB L) :
  Calls Tryz.prog 76 #[.pointer (some ⟨sb,0,none⟩)] w (NTe w B sb rb g cap L L (er0 || badc L)):=it w B sb rb g cap L er0 po l c h hnb
theorem ntNext(w:World)(B sb rb g cap:Nat)(L:List UInt8)(v:List UInt8)(tk:Option Nat)(er:Bool)(po l c:Int)(h:Cu w ⟨B,sb,rb,g,cap,L⟩ v tk er (chr v,po,l,c))(hnb:NB L) :
  Calls Tryz.prog 76 #[.pointer (some ⟨sb,0,none⟩)] w (NTe w B sb rb g cap L v er):=jY w B sb rb g cap L v tk er po l c h hnb
def TKP (w:World)(B:Nat)(r:Option (List (Tok × Nat)))(e:Ending)(w':World):Prop :=
 (match r with
  | some l=>∃ tb tcap:Nat,e = .returned (.tuple #[.slice (some ⟨tb,0,none⟩) l.length tcap,.nilIface])/\w.heap.size<=tb/\tb < w'.heap.size/\(∀ j x,l[j]? = some x->gF w' tb j x.1 x.2)/\(l ≠ []/\l.length<=100000/\∀ x ∈ l,x.1.text.size<=150000)
  | none=>∃ (t:TypeId) (u:Value),e = .returned (.tuple #[.slice none 0 0,.iface t u]))/\Fr (fun k=>B<=k) w w'
theorem tkr_any(w:World)(B rb g cap:Nat)(L:List UInt8)(hrb:Blk w rb #[.slice (some ⟨g,0,none⟩) L.length cap,.int .i64 0,.int .i8 0] 214)(hB:B<=rb)(h15:15<=B)(hgB:g < B)(hl9:L.length<=90000)(hlc:L.length<=cap)(hby:cK w g L)(hgl:Glob w)(heo:EofV w)(hnb:NB L) :
  Calls Tryz.prog 50 #[.iface 133 (.pointer (some ⟨rb,0,none⟩))] w (TKP w B (ce L)):=by
 have hrl:=hrb.lt
 have HSB:=hqZ (zsc_buf w B (by omega))
 have HRB:=hqZ hrb
 have HBY:=hqZ hby
 have HGL:=hqZ hgl
 have HEO:=hqZ heo
 have HNB:=hqZ hnb
 obtain⟨sb,hsb⟩:∃ sb,sb=w.heap.size:=⟨_,rfl⟩
 clear hrb hby hgl heo hnb
 go_enter Tryz.func50,Tryz.ntmps50
 go_wp2_with fail
 have HF0:=hqZ (show Fr (fun _=>False) w (w.alloc (.cells Tryz.zeroCells216 216))from Fr.r.alloc _)
 have hsz:(w.alloc (.cells Tryz.zeroCells216 216)).heap.size=w.heap.size+1:=aa _ _
 generalize w.alloc (.cells Tryz.zeroCells216 216)=w1 at *
 have hrl2:rb < sb:=by omega
 have hsz3:w1.heap.size=sb+1:=by omega
 have hsw:w.heap.size<=sb:=by omega
 rw[<- hsb]at HSB ⊢
 clear hsb
 refine(rz w1 B sb rb HSB.out).mono ?_
 rintro e w2 ⟨rfl,hs2,hf2⟩
 have hne:rb ≠ sb:=by omega
 have HST:=hqZ (show St w2 ⟨B,sb,rb,g,cap,L⟩ 0 0 none false (-2,0,0,0)from by
  have hfB:Fr (fun k=>B<=k) w w2:=(HF0.out.ofNew).trans (hf2.mono fun k _ e=>by subst e;omega)
  refine⟨sf0,⟨hs2,⟨L.length,0,0,(HRB.out.next HF0.out id).next hf2 hne,.inl ⟨rfl,rfl,Nat.zero_le _⟩⟩,⟨Nat.le_refl _,by decide,Nat.zero_le _,fun j hj=>absurd hj (Nat.not_lt_zero j),rfl,rfl,Nat.le_refl _,rfl,rfl⟩,⟨hne,hB,by show B<=sb;omega,?_,hgB,h15,?_,hl9,hlc,HBY.out.next hfB (by show ¬ B<=g;omega),HGL.out.fr hfB (fun k hk=>by show ¬ B<=k;omega) (by omega),HEO.out.next hfB (fun k hk=>by show ¬ B<=k;omega)⟩⟩,rfl,rfl⟩
  .exact Nat.lt_of_lt_of_le hrl (Nat.le_trans HF0.out.size hf2.size)
  .exact Nat.le_trans (show B<=w.heap.size by omega) (Nat.le_trans HF0.out.size hf2.size))
 have HF2:=hqZ (show FS B sb rb w w2 from(FS.new HF0.out).trans (FS.sb hf2))
 have hsz2:sb < w2.heap.size:=Nat.lt_of_lt_of_le (by omega) hf2.size
 clear hs2 hf2 HSB HF0 hsz hsz3
 go_wp2_with fail
 refine(ntFirst w2 B sb rb g cap L false 0 0 0 HST.out HNB.out).mono ?_
 rintro e w3 ⟨l0,c0,er3,tk3,rfl,k1,k2,k3⟩
 have hFB:Fr (fun k=>B<=k) w w3:=(HF2.out.trans k3).fr (by omega) hB
 have HI:=hqZ (show ∀ W,W=w3.alloc (.cells #[.int .i64 (tkAt L).1,.string ⟨#[]⟩,.int .i64 ((L.length - (tkAt L).2.1.length:Nat):Int),.int .i64 l0,.int .i64 c0,.string (iX L L).1.text] 95)->TkI w B sb rb g cap L (.slice none 0 0) (.pointer (some ⟨w3.heap.size,0,none⟩)) (L.length+1) W [] L (badc L) er3 tk3 w3.heap.size l0 c0 from by
  intro W hW
  have hn:Fr (fun _=>False) w3 W:=by rw[hW];exact Fr.r.alloc _
  have h3:=Nat.lt_of_lt_of_le hsz2 k3.size
  exact⟨LexI.start L,k1,k2.new hn,hFB.transN hn,rfl,by rw[hW];exact Blk.at_ _ _ _ rfl,⟨by omega,by omega,by omega,by simp[Value.ownBlock]⟩,Acc.nil _ _ _ _⟩)
 clear k1 k2 k3 hFB HST HF2
 go_wp2_with fail
 go_loopg [4,6] (L.length+1) (fun k v4 v6 wr=>∃ acc v er er2 tk2 tv l c,TkI w B sb rb g cap L v4 v6 k wr acc v er er2 tk2 tv l c)
 case atStart=>exact⟨_,_,_,_,_,_,_,_,HI.out _ rfl⟩
 case round =>
  obtain⟨acc,v,er,er2,tk2,tv,l,c,hI⟩:=hrel
  clear HI
  have hts:=hI.htv.cell 0 _ rfl
  have htl:=hI.htv.lt
  have hkk:=hI.lx.k
  have hnn:=hI.lx.n
  obtain⟨hsx,f,⟨hS,hRd,hSI,hP⟩,hlc,hkp⟩:=hI.cu
  have hltS:sb < wr.heap.size:=hS.lt
  have c39:wr.cell? ⟨sb,1039,none⟩=some f.er:=hS.cell 1039 (by omega)
  have c40:wr.cell? ⟨sb,1040,none⟩=some (.string ⟨#[]⟩):=hS.cell 1040 (by omega)
  have c41:wr.cell? ⟨sb,1041,none⟩=some (.int .i64 ((L.length - (tkAt v).2.1.length:Nat):Int)):=by rw[<- (show f.po=((L.length - (tkAt v).2.1.length:Nat):Int)from congrArg (·.2.1) hkp)];exact hS.cell 1041 (by omega)
  have c42:wr.cell? ⟨sb,1042,none⟩=some (.int .i64 l):=by rw[<- (show f.pl=l from congrArg (·.2.2.1) hkp)];exact hS.cell 1042 (by omega)
  have c43:wr.cell? ⟨sb,1043,none⟩=some (.int .i64 c):=by rw[<- (show f.pc=c from congrArg (·.2.2.2) hkp)];exact hS.cell 1043 (by omega)
  have her:=hSI.er
  have HP2:=hqZ hP
  clear hsx hS hRd hSI hP hlc hkp
  have H:=hqZ hI
  have hu6:=hI.htp
  subst hu6
  clear hI
  obtain⟨fe,hfe⟩:∃ fe,fe=f.er:=⟨_,rfl⟩
  rw[<- hfe]at c39 her
  clear hfe
  cases er2 with
  | true =>
   rw[if_pos rfl]at her
   obtain⟨t,u,rfl⟩:=her
   have ER:=hqZ (H.out.lx.bad H.out.e)
   go_wp2_with fail
   go_quiet (fail)
   go_wp2_with fail
   go_ret2
   rw[ER.out]
   exact⟨⟨t,u,rfl⟩,H.out.fs.drewN _⟩
  | false =>
   rw[if_neg (by simp)]at her
   subst her
   obtain⟨kd,hkd⟩:∃ kd,kd=(tkAt v).1:=⟨_,rfl⟩
   rw[<- hkd]at hts
   have HKD:=hqZ hkd
   clear hkd
   by_cases hk0:kd=0
   case pos =>
    subst hk0
    have ER:=hqZ (H.out.lx.fin H.out.e HKD.out.symm)
    go_wp2_with (at_builtin;refine bu ?_)
    unfold Stop
    have hlen:=H.out.lx.n
    refine Acc.push (E:=tokE) (Z:=fun g=>w.heap.size<=g/\g ≠ sb/\g ≠ rb) tokT rfl _ _ rfl rfl (H.out.hacc.carry (w':=wr.alloc _) (Fr.r.alloc _)) rfl (news:=[.int .i64 0,.string ⟨#[]⟩,.int .i64 ((L.length - (tkAt v).2.1.length:Nat):Int),.int .i64 l,.int .i64 c,.string ⟨#[]⟩]) (e':=95) (Blk.at_ _ _ _ rfl) (y:=((⟨0,an⟩:Tok),L.length - (tkAt v).2.1.length)) (Zy:=fun _=>False)
     ⟨l,c,rfl⟩ (fun k _ hk=>hk.elim) ⟨by have:=H.out.fs.size;simp only[aa];omega,by simp only[aa];omega,by simp only[aa];have:=HP2.out.rw;show _ ≠ rb;have h2:rb < wr.heap.size:=this;omega⟩ (by omega) (S:=fun k=>u4.ownBlock=some k) (fun k e=>e) ?_
    rintro v' w4 hacc hf
    have hfr:Fr (fun k=>B<=k) w w4:=(H.out.fs.alloc _).trans (hf.mono fun k _ e=>by have:=(H.out.hacc.tokBlock e).1.1;omega)
    have HA:=hqZ hacc
    have HFR:=hqZ hfr
    clear hacc hf hfr
    go_wp2_with fail
    go_ret2
    obtain⟨tb,tcap,e1,e2,e3,e4⟩:=HA.out.toks (by simp) (by rw[List.length_append,List.length_singleton];omega)
    subst e1
    rw[ER.out.1]
    refine⟨⟨tb,tcap,rfl,e2.1,e3,e4,by simp,by rw[List.length_append,List.length_singleton];omega,fun x hx=>?_⟩,HFR.out⟩
    rcases List.mem_append.1 hx with hx|hx
    .have:=H.out.lx.s x hx;omega
    .rw[List.mem_singleton]at hx;subst hx;exact Nat.zero_le _
   case neg =>
    have hkn:((kd:Int) == 0)=false:=by simp;omega
    have hkn2:((kd:Int) != 0)=true:=by simp;omega
    have hbt:=H.out.htv
    rw[<- HKD.out]at hbt
    obtain⟨ff,_,b0,b1,b2,b3,b4,b5⟩:=hbt.f6
    have HBT:=hqZ hbt
    clear hbt hts
    obtain⟨txt,htxt⟩:∃ t,t=(iX L v).1.text:=⟨_,rfl⟩
    rw[<- htxt]at b5 HBT
    have HTX:=hqZ htxt
    clear htxt
    go_wp2_with (at_builtin;refine bu ?_)
    unfold Stop
    have hlen:=H.out.lx.n
    refine Acc.push (E:=tokE) (Z:=fun g=>w.heap.size<=g/\g ≠ sb/\g ≠ rb) tokT rfl _ _ rfl rfl (H.out.hacc.carry (w':=wr.alloc _) (Fr.r.alloc _)) rfl (news:=[.int .i64 kd,.string ⟨#[]⟩,.int .i64 ((L.length - (tkAt v).2.1.length:Nat):Int),.int .i64 l,.int .i64 c,.string txt]) (e':=95) (Blk.at_ _ _ _ rfl) (y:=iX L v) (Zy:=fun _=>False)
     ⟨l,c,by rw[HKD.out,HTX.out];rfl⟩ (fun k _ hk=>hk.elim) ⟨by have:=H.out.fs.size;simp only[aa];omega,by simp only[aa];omega,by simp only[aa];have:=HP2.out.rw;show _ ≠ rb;have h2:rb < wr.heap.size:=this;omega⟩ (by omega) (S:=fun k=>u4.ownBlock=some k) (fun k e=>e) ?_
    rintro v' w4 hacc hf
    have hw4:=hf.size
    rw[aa]at hw4
    have hbt4:Blk w4 tv _ 95:=(HBT.out.alloc _).next hf (fun e=>H.out.htn.2.2.2 e)
    have hcu4:=(H.out.cu.new ((Fr.refl (fun _=>False) wr).alloc (.cells #[.int .i64 kd,.string ⟨#[]⟩,.int .i64 ((L.length - (tkAt v).2.1.length:Nat):Int),.int .i64 l,.int .i64 c,.string txt] 95))).carry hf (fun k e=>by
     have hq:=H.out.hacc.tokBlock e
     refine⟨hq.1.2.1,hq.1.2.2,by show B<=k;have:=hq.1.1;omega,fun c fz=>?_⟩
     rw[eh _ _ _ hq.2.1];exact hq.2.2 c fz)
    have hfr4:Fr (fun k=>B<=k) w w4:=(H.out.fs.alloc _).trans (hf.mono fun k _ e=>by have:=(H.out.hacc.tokBlock e).1.1;omega)
    have HLX:=hqZ (H.out.lx.step hl9 H.out.e (by rw[<- HKD.out];exact hk0))
    obtain⟨ff4,hlt4,d0,d1,d2,d3,d4,d5⟩:=hbt4.f6
    have HA4:=hqZ hacc
    have HC4:=hqZ hcu4
    have HFR4:=hqZ hfr4
    have hlS:sb < w4.heap.size:=by omega
    have hlR:rb < w4.heap.size:=by have h2:rb < wr.heap.size:=HP2.out.rw;omega
    have hwW:w.heap.size<=w4.heap.size:=hfr4.size
    clear hacc hcu4 hfr4 hf hbt4 HBT c39 c40 c41 c42 c43 ff b0 b1 b2 b3 b4 b5 ff4 HP2
    go_wp2_with fail
    have HC5:=hqZ (HC4.out.new ((Fr.refl (fun _=>False) w4).alloc (.cells #[.int .i64 kd,.string ⟨#[]⟩,.int .i64 ((L.length - (tkAt v).2.1.length:Nat):Int),.int .i64 l,.int .i64 c,.string txt] 95)))
    have HB5:=hqZ (Blk.at_ w4 95 #[.int .i64 kd,.string ⟨#[]⟩,.int .i64 ((L.length - (tkAt v).2.1.length:Nat):Int),.int .i64 l,.int .i64 c,.string txt] rfl)
    refine(ntNext _ B sb rb g cap L _ _ _ _ _ _ HC5.out HNB.out).mono ?_
    rintro e w5 ⟨l2,c2,er4,tk4,rfl,k1,k2,k3⟩
    have hb6:=HB5.out.fs k3 (by omega) (by omega) (by decide)
    obtain⟨f6,hlt6,g0,g1,g2,g3,g4,g5⟩:=hb6.f6
    have q0:=f6 0
    have q1:=f6 1
    have q2:=f6 2
    have q3:=f6 3
    have q4:=f6 4
    have q5:=f6 5
    have HB6:=hqZ hb6
    have K1:=hqZ k1
    have K2:=hqZ k2
    have K3:=hqZ k3
    clear k1 k2 k3 hb6 f6 d0 d1 d2 d3 d4 d5
    go_wp2_with fail
    go_roundg (gk - 1)
    case measure=>omega
    case rel =>
     have hfS:∀ (v0 v1 v2 v3 v4 v5:Value),Fr (fun k=>k=w4.heap.size) w5 ((((((w5.setCell ⟨w4.heap.size,0,none⟩ v0).setCell ⟨w4.heap.size,1,none⟩ v1).setCell ⟨w4.heap.size,2,none⟩ v2).setCell ⟨w4.heap.size,3,none⟩ v3).setCell ⟨w4.heap.size,4,none⟩ v4).setCell ⟨w4.heap.size,5,none⟩ v5):=fun v0 v1 v2 v3 v4 v5 =>
      ((((((Fr.refl (fun k=>k=w4.heap.size) w5).set (.inl rfl)).set (.inl rfl)).set (.inl rfl)).set (.inl rfl)).set (.inl rfl)).set (.inl rfl)
     refine⟨_,_,false,er4,tk4,w4.heap.size,l2,c2,HLX.out,K1.out,K2.out.carry (hfS _ _ _ _ _ _) (fun k e=>?_),?_,rfl,HB6.out.set6,⟨by omega,by omega,hwW,fun e=>?_⟩,?_⟩
     .subst e
      refine⟨by show _ ≠ sb;omega,by show _ ≠ rb;omega,by show B<=_;omega,fun cc fz e=>?_⟩
      have:=HB6.out
      unfold Blk at this
      rw[this]at e;cases e
     .exact(((HFR4.out.alloc _).trans (K3.out.fr (by omega) hB))).trans ((hfS _ _ _ _ _ _).mono fun k _ e=>by subst e;omega)
     .have:=(HA4.out.lt _ e).1;omega
     .exact(((HA4.out.keep ((Fr.refl (fun _=>False) w4).alloc _) (fun _ _ h=>h)).fs K3.out (fun g hg=>hg.2)).keep (hfS _ _ _ _ _ _) (fun k e h=>by have:=(HA4.out.lt _ e).1;omega))
theorem tokz(w:World)(g cap:Nat)(l:List UInt8)(hlc:l.length<=cap)(hb:cK w g l)(hl9:l.length<=90000)(hgl:Glob w)(heo:EofV w)(hnb:NoB l)(h15:15<=w.heap.size) :
  Calls Tryz.prog 38 #[.slice (some ⟨g,0,none⟩) l.length cap] w (TZ w (ce l)):=by
 obtain⟨r,hr⟩:∃ r,r=ce l:=⟨_,rfl⟩
 rw[<- hr]
 have HR:=hqZ hr
 have HB:=hqZ hb
 have HGL:=hqZ hgl
 have HEO:=hqZ heo
 have HNB:=hqZ hnb
 have hgw:=hb.1
 clear hb hgl heo hnb hr
 go_enter Tryz.func38,Tryz.ntmps38
 go_wp2_with fail
 refine(og w g l.length cap).mono ?_
 rintro e w1 ⟨rfl,h1,h2⟩
 have hlt:=h1.lt
 have H1:=hqZ h1
 have H2:=hqZ h2
 clear h1 h2
 go_wp2_with fail
 refine(tkr_any w1 w.heap.size w.heap.size g cap l H1.out (Nat.le_refl _) h15 hgw hl9 hlc (HB.out.next H2.out id) (HGL.out.frN H2.out) (HEO.out.next H2.out (fun _ _ h=>h)) HNB.out).mono ?_
 rintro e w2 ⟨h3,h4⟩
 rw[<- HR.out]at h3
 have hn:New w w2:=⟨h4.os.trans H2.out.os,h4.tape.trans H2.out.tape,h4.output.trans H2.out.output,Nat.le_trans H2.out.size h4.size,fun k hk _=>(h4.block k (Nat.lt_of_lt_of_le hk H2.out.size) (by show ¬ _<=k;omega)).trans (H2.out.block k hk id)⟩
 have HN:=hqZ hn
 have hs1:=H2.out.size
 clear h4 hn
 cases r with
 | none =>
  obtain⟨t,u,rfl⟩:=h3
  go_wp2_with fail
  go_ret2
  exact⟨t,u,rfl,HN.out⟩
 | some L =>
  obtain⟨tb,tcap,rfl,k1,k2,k3,k4⟩:=h3
  have K3:=hqZ k3
  have K4:=hqZ k4
  clear k3 k4
  go_wp2_with fail
  go_ret2
  exact⟨tb,tcap,rfl,by omega,k2,K3.out,K4.out,HN.out⟩
theorem fk{w:World}{g cap:Nat}{l:List UInt8}(hlc:l.length<=cap)(hb:cK w g l)(hl9:l.length<=90000)(hgl:Glob w)(heo:EofV w)(hnb:NoB l)(h15:15<=w.heap.size){r:Option (List (Tok × Nat))}(e:ce l=r) :
  Calls Tryz.prog 38 #[.slice (some ⟨g,0,none⟩) l.length cap] w (TZ w r):=e ▸ tokz w g cap l hlc hb hl9 hgl heo hnb h15
end Go.Proofs.YtbdhlpeckennjaaGreatDoor
