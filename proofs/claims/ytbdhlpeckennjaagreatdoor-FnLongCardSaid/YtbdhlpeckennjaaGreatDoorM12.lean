/- FnLong (the proof that the law returns true for every input), part 12 of 52; the last part says what is proved, and its condition. -/
import Derived.Test.YtbdhlpeckennjaaGreatDoorM05
import Derived.Test.YtbdhlpeckennjaaGreatDoorM07
import Derived.Test.YtbdhlpeckennjaaGreatDoorM11
set_option linter.unusedVariables false
set_option linter.unusedSimpArgs false
set_option maxHeartbeats 80000000
set_option maxRecDepth 1000000
namespace Go.Proofs.YtbdhlpeckennjaaGreatDoor
open Go Go.RowKit
def dP (_:World)(_:Nat->Prop)(x:ByteArray × ByteArray)(cs:List Value):Prop:=cs = [.string x.1,.string x.2]
instance noteOK:bq dP 2 where
 frame:=fun h _ _=>h
 mono:=fun h _=>h
 len:=fun h=>by rw[h];rfl
 one:=fun h v hv=>by rw[h]at hv;simp at hv;rcases hv with rfl|rfl <;> rfl
theorem noteT:ElT 97 125 2 32:=⟨by kernel_rfl,by
 have h:(Tryz.prog.info? 125).map (fun i=>(i.zero.map (·.cells.size),i.size,i.bytes))=some (some 2,2,32):=by kernel_rfl
 obtain⟨i,hi⟩:∃ i,Tryz.prog.info? 125=some i:=by cases hh:Tryz.prog.info? 125 with|none=>rw[hh]at h;cases h|some i=>exact⟨i,rfl⟩
 rw[hi]at h
 simp at h
 obtain⟨⟨z,hz,hc⟩,h1,h2⟩:=h
 exact⟨i,z,hi,hz,h1,h2,hc⟩,by decide,by decide⟩
def eb (l:List (ByteArray × ByteArray)):List Value:=l.flatMap fun x=>[.string x.1,.string x.2]
theorem rl{w:World}{Z:Nat->Prop}{l:List (ByteArray × ByteArray)}{xs:List Value}(h:EL dP w Z l xs):xs=eb l:=by
 induction l generalizing xs with
 | nil=>exact h
 | cons x l ih=>obtain⟨a,b,rfl,rfl,h2⟩:=h;rw[ih h2];rfl
theorem ew:∀ (l:List (ByteArray × ByteArray)) (i:Nat) (x:ByteArray × ByteArray),l[i]? = some x->(eb l)[i * 2]? = some (.string x.1)/\(eb l)[i * 2+1]? = some (.string x.2)
 | [],i,x,h=>by simp at h
 | y::l,0,x,h=>by simp at h;subst h;exact⟨rfl,rfl⟩
 | y::l,i+1,x,h=>by
  obtain⟨h1,h2⟩:=ew l i x (by simpa using h)
  rw[show(i+1) * 2=i * 2+1+1 from by omega]
  exact⟨by simpa[eb] using h1,by simpa[eb] using h2⟩
theorem Row.two{w:World}{Z:Nat->Prop}{A:Option Addr}{n cap:Nat}{xs:List Value}(h:Row w Z (.slice A n cap) n 2 xs){j:Nat}{u v:Value}(hu:xs[j * 2]? = some u)(hv:xs[j * 2+1]? = some v) :
  ∃ g,A=some ⟨g,0,none⟩/\w.cell? ⟨g,j * 2,none⟩=some u/\w.cell? ⟨g,j * 2+1,none⟩=some v/\g < w.heap.size/\Z g:=by
 obtain⟨h1,h2,A',cap',e,h4⟩:=h
 cases e
 have hjl:=(List.getElem?_eq_some_iff.1 hu).1
 obtain⟨g,e,hz,hl,hc⟩:=h4 (by omega)
 exact⟨g,e,hc _ u hu,hc _ v hv,hl,hz⟩
theorem mN(w:World)(k s:ByteArray):Calls Tryz.prog 166 #[.string k,.string s] w fun e w'=>e = .returned (.agg #[.string k,.string s])/\New w w':=by
 have T0:=hqZ (Fr.refl (fun _=>False) w)
 go_enter Tryz.func166,Tryz.ntmps166
 go_wp2
 refine bodyPost_ret (v:=(.agg #[.string k,.string s])) (by simp only[results,Tryz.results166];go_simp) rfl ?_
 exact⟨rfl,by exact(T0.out.alloc _)⟩
theorem nG(w:World)(Z:Nat->Prop)(v:Value)(l:List (ByteArray × ByteArray))(k s:ByteArray)(hacc:Acc dP w Z v l 125 2)(hn:(l.any fun x=>x.1.toList == k.toList)=false)(hlen:l.length<=100000)(hZ:∀ g,w.heap.size<=g->Z g) :
  Calls Tryz.prog 150 #[v,.string k,.string s] w fun e w'=>∃ v',e = .returned v'/\Acc dP w' Z v' (l ++ [(k,s)]) 125 2/\Fr Z w w':=by
 have T0:=hqZ (Fr.refl (fun _=>False) w)
 have HA:=hqZ hacc
 have HV:=hqZ hacc.lt
 have HN:=hqZ hn
 have HZ:=hqZ hZ
 obtain⟨xs,hrow,hel⟩:=hacc.row hlen
 obtain rfl:=rl hel
 obtain⟨N,hN⟩:∃ N,l.length=N:=⟨_,rfl⟩
 rw[hN]at hrow
 obtain⟨A,cap,rfl⟩:=hrow.slice
 have HR:=hqZ hrow
 have HL:=hqZ hN
 have hN2:N<=100000:=by omega
 clear hacc hn hZ hrow hel hN hlen
 go_enter Tryz.func150,Tryz.ntmps150
 go_wp2_with fail
 go_loopg [11] N (fun k v wr=>∃ i:Nat,v = .int .i64 i/\i+k=N/\Fr (fun _=>False) w wr)
 case atStart=>exact⟨0,rfl,by omega,by exact T0.out⟩
 case round =>
  obtain⟨i,rfl,hik,hf⟩:=hrel
  have HR2:=hqZ (HR.out.frame hf (fun _ _ _ h=>h))
  have HA2:=hqZ ((Acc.mono (Z':=fun g=>Z g) HA.out (fun g _ h=>h)).carry (hf.ofNew))
  (clear T0;clear HR;clear HA;have H0:=hqZ hf;have xs0:=Fr.size H0.out;clear hf)
  by_cases hlt:i < N
  .obtain⟨x,hx⟩:∃ x,l[i]? = some x:=by cases hh:l[i]? with|none=>have:=List.getElem?_eq_none_iff.1 hh;have:=HL.out;omega|some x=>exact⟨x,rfl⟩
   obtain⟨g,rfl,h1,h2,h3,-⟩:=HR2.out.two (ew l i x hx).1 (ew l i x hx).2
   have hq:(x.1.toList == k.toList)=false:=by
    have:=HN.out
    rw[List.any_eq_false]at this
    simpa using this x (List.mem_of_getElem? hx)
   clear hx
   have q1:(i:Int) < (N:Int):=by omega
   have q2:(0:Int)<=(i:Int):=by omega
   go_wp2
   go_roundg (N - (i+1))
   case measure=>omega
   case rel=>exact⟨i+1,by go_num,by omega,by exact(H0.out.alloc _)⟩
  .have q1:decide ((i:Int) < (N:Int))=false:=by simp;omega
   have q2:¬ (i:Int) < (N:Int):=by omega
   (go_wp2_with fail;refine(mN _ _ _).mono ?_;rintro e w2 ⟨rfl,hf⟩;(have xs1:=Fr.size hf;have T0:=hqZ (Fr.transN H0.out hf);clear H0;have X0:=hqZ (Row.carry HR2.out (Fr.transN Fr.r hf));clear HR2;have X1:=hqZ (Acc.carry HA2.out (Fr.transN Fr.r hf));clear HA2;clear hf))
   go_wp2_with (at_builtin;refine bu ?_)
   unfold Stop
   have hz:w.heap.size<=w2.heap.size:=by omega
   refine Acc.push (E:=dP) (Z:=Z) noteT rfl _ _ rfl rfl (by exact(Acc.carry X1.out (Fr.r.alloc _))) rfl (news:=[.string k,.string s]) (by exact(Blk.at_ _ _ _ (n:=w2.heap.size) rfl)) (y:=(k,s)) (Zy:=fun _=>False) rfl (fun k _ hk=>hk.elim) (HZ.out _ (by simp only[aa];omega)) (by have:=HL.out;omega) (S:=Z) (fun b e=>(HV.out b e).2) ?_
   rintro v' w3 hacc hf
   have T9:=hqZ (Fr.trans (Fr.ofNew (S:=Z) (by exact(T0.out.alloc _):Fr (fun _=>False) w _)) hf)
   have HA3:=hqZ hacc
   clear hf hacc
   go_wp2
   go_ret
   exact⟨_,rfl,HA3.out,T9.out⟩
theorem fB(w:World)(ab:Nat)(Z:Nat->Prop)(v:Value)(l:List (ByteArray × ByteArray))(k s:ByteArray)(hb:Blk w ab #[v] 140)(hacc:Acc dP w Z v l 125 2)(hn:(l.any fun x=>x.1.toList == k.toList)=false)(hlen:l.length<=100000)(hZ:∀ g,w.heap.size<=g->Z g)(hab:¬ Z ab) :
  Calls Tryz.prog 125 #[.pointer (some ⟨ab,0,none⟩),.string k,.string s] w fun e w'=>e = .returned (.pointer (some ⟨ab,0,none⟩))/\∃ (A':Option Addr) (n' cap':Nat),Blk w' ab #[.slice A' n' cap'] 140/\Acc dP w' Z (.slice A' n' cap') (l ++ [(k,s)]) 125 2/\Fr (fun g=>Z g\/g=ab) w w':=by
 have lta:=hb.lt
 have HA:=hqZ hacc
 have HB:=hqZ hb
 have xc0:=hb.cell 0 _ rfl
 have xf0:=hb.free 0
 have HN:=hqZ hn
 have HZ:=hqZ hZ
 have HAB:=hqZ hab
 clear hacc hb hn hZ hab
 go_enter Tryz.func125,Tryz.ntmps125
 go_wp2_with fail
 refine(nG _ Z _ l _ _ HA.out HN.out (by omega) HZ.out).mono ?_
 rintro e w1 ⟨v',rfl,hacc,hf⟩
 obtain⟨A,n',cap,rfl⟩:=hacc.form
 have HB1:Hid (Blk w1 ab #[v] 140):=hqZ (HB.out.next hf HAB.out)
 have c1:=HB1.out.cell 0 _ rfl
 have f1:=HB1.out.free 0
 have l1:=HB1.out.lt
 have HA1:=hqZ hacc
 have HF:=hqZ hf
 clear hacc hf xc0 xf0 HB
 go_wp2
 go_ret
 refine⟨rfl,_,_,_,HB1.out.s10,?_,?_⟩
 .exact Acc.carry HA1.out (Fr.r.set (.inl HAB.out))
 .exact(HF.out.mono (fun _ _ h=>.inl h)).set (.inl (.inr rfl))
end Go.Proofs.YtbdhlpeckennjaaGreatDoor
