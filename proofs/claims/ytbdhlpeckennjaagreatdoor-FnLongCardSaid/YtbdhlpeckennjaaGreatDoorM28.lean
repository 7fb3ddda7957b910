/- FnLong (the proof that the law returns true for every input), part 28 of 52; the last part says what is proved, and its condition. -/
import Derived.Test.YtbdhlpeckennjaaGreatDoorM23
import Derived.Test.YtbdhlpeckennjaaGreatDoorM27
set_option linter.unusedVariables false
set_option linter.unusedSimpArgs false
set_option maxHeartbeats 80000000
set_option maxRecDepth 1000000
namespace Go.Proofs.YtbdhlpeckennjaaGreatDoor
open Go
def cz (n b0 b1 b2:Nat):Bool :=
 if n=0 then false
 else if Lib.firstT b0 % 8<=n then true
 else if 1 < n/\(b1 < Lib.accLo (Lib.firstT b0 / 16)\/Lib.accHi (Lib.firstT b0 / 16) < b1)then true
 else decide (2 < n/\(b2 < 128\/191 < b2))
def jt (l:List UInt8):Bool:=cz l.length (l.getD 0 0).toNat (l.getD 1 0).toNat (l.getD 2 0).toNat
theorem qh(n N b0 b1 b2 b3 c1 c2 c3:Nat)(h0:b0 < 256)(hb1:b1 < 256)(hb2:b2 < 256)(hn:1<=n)(hN:n<=N)(e1:1 < n->c1=b1)(e2:2 < n->c2=b2)(e3:3 < n->c3=b3)
  (h:cz n b0 b1 b2=true):Lib.decodeN N b0 c1 c2 c3=Lib.decodeN n b0 b1 b2 b3:=by
 by_cases h4:4<=n
 .rw[e1 (by omega),e2 (by omega),e3 (by omega)];exact lJ _ _ _ _ _ _ h4 (by omega)
 have hk:(b0 < 128/\Lib.firstT b0=240)\/(128<=b0/\b0 < 194/\Lib.firstT b0=241)\/(194<=b0/\b0 < 224/\Lib.firstT b0=2)\/(b0=224/\Lib.firstT b0=19)\/(224 < b0/\b0 < 240/\b0 ≠ 237/\Lib.firstT b0=3)\/(b0=237/\Lib.firstT b0=35)
   \/(b0=240/\Lib.firstT b0=52)\/(240 < b0/\b0 < 244/\Lib.firstT b0=4)\/(b0=244/\Lib.firstT b0=68)\/(244 < b0/\Lib.firstT b0=241):=by
  unfold Lib.firstT
  repeat' split
  all_goals omega
 have hn3:n=1\/n=2\/n=3:=by omega
 unfold cz at h
 rcases hn3 with rfl|rfl|rfl
 .clear e1 e2 e3
  rcases hk with ⟨a,e⟩|⟨a,b,e⟩|⟨a,b,e⟩|⟨a,e⟩|⟨a,b,c,e⟩|⟨a,e⟩|⟨a,e⟩|⟨a,b,e⟩|⟨a,e⟩|⟨a,e⟩ <;> rw[e]at h <;>(try simp[Lib.accLo,Lib.accHi]at h)
  all_goals unfold Lib.decodeN
  all_goals repeat' split
  all_goals first|rfl|(exfalso;omega)
 .have e1:=e1 (by omega)
  subst e1
  clear e2 e3
  rcases hk with ⟨a,e⟩|⟨a,b,e⟩|⟨a,b,e⟩|⟨a,e⟩|⟨a,b,c,e⟩|⟨a,e⟩|⟨a,e⟩|⟨a,b,e⟩|⟨a,e⟩|⟨a,e⟩ <;> rw[e]at h <;>(try simp[Lib.accLo,Lib.accHi]at h)
  all_goals unfold Lib.decodeN
  all_goals repeat' split
  all_goals first|rfl|(exfalso;omega)
 .have e1:=e1 (by omega)
  have e2:=e2 (by omega)
  subst e1 e2
  clear e3
  rcases hk with ⟨a,e⟩|⟨a,b,e⟩|⟨a,b,e⟩|⟨a,e⟩|⟨a,b,c,e⟩|⟨a,e⟩|⟨a,e⟩|⟨a,b,e⟩|⟨a,e⟩|⟨a,e⟩ <;> rw[e]at h <;>(try simp[Lib.accLo,Lib.accHi]at h)
  all_goals unfold Lib.decodeN
  all_goals repeat' split
  all_goals first|rfl|(exfalso;omega)
theorem nd{A:List UInt8}(B:List UInt8)(h:jt A=true\/4<=A.length):A ≠ []/\chr (A++B)=chr A/\clen (A++B)=clen A:=by
 have hA:A ≠ []:=by
  rintro rfl
  rcases h with h|h
  .simp[jt,cz]at h
  .simp at h
 have hl:1<=A.length:=List.length_pos_iff.2 hA
 have hAB:A++B ≠ []:=by simp[hA]
 have g:∀ k,k < A.length->(A++B).getD k 0=A.getD k 0:=fun k hk=>by simp[List.getD_eq_getElem?_getD,List.getElem?_append_left hk]
 have key:dec (A++B)=dec A:=by
  rw[eG,eG,g 0 (by omega)]
  rcases h with h|h
  .exact qh _ _ _ _ _ _ _ _ _ (UInt8.toNat_lt _) (UInt8.toNat_lt _) (UInt8.toNat_lt _) hl (by simp) (fun hk=>by rw[g 1 hk]) (fun hk=>by rw[g 2 hk]) (fun hk=>by rw[g 3 hk]) h
  .rw[g 1 (by omega),g 2 (by omega),g 3 (by omega)]
   exact lJ _ _ _ _ _ _ h (by simp;omega)
 exact⟨hA,by rw[dX hAB,dX hA,key],by rw[cV hAB,cV hA,key]⟩
end Go.Proofs.YtbdhlpeckennjaaGreatDoor
namespace Go.Proofs.YtbdhlpeckennjaaGreatDoor
open Go Go.RowKit
theorem SI.ahead{l:List UInt8}{f:SF}{q m:Nat}{tk:Option Nat}{er:Bool}(h:SI l f q m tk er):l.drop q=seg f f.p f.e++l.drop (f.off+f.e):=by
 have h1:=h.pe
 have h2:=h.len
 have hq:=h.q
 have hs:(seg f f.p f.e).length=f.e - f.p:=by simp[seg]
 apply List.ext_getElem?
 intro j
 rw[List.getElem?_drop,List.getElem?_append]
 split
 .rename_i hj
  rw[hs]at hj
  unfold seg
  rw[List.getElem?_map,List.getElem?_range hj,<- hq,show f.off+f.p+j=f.off+(f.p+j)from by omega,h.buf _ (by omega)]
  rfl
 .rename_i hj
  rw[List.getElem?_drop,hs]
  congr 1
  rw[hs]at hj
  omega
theorem SI.head{l:List UInt8}{f:SF}{q m:Nat}{tk:Option Nat}{er:Bool}(h:SI l f q m tk er)(hp:f.p < f.e):∃ r,l.drop q=f.buf f.p::r:=by
 have hb:=h.buf f.p hp
 have hq:=h.q
 have hl:q < l.length:=by have:=(List.getElem?_eq_some_iff.1 hb).1;omega
 refine⟨l.drop (q+1),?_⟩
 rw[List.drop_eq_getElem_cons hl]
 congr 1
 rw[hq]at hb
 exact(List.getElem?_eq_some_iff.1 hb).2
theorem SI.lt{l:List UInt8}{f:SF}{q m:Nat}{tk:Option Nat}{er:Bool}(h:SI l f q m tk er)(hb:(f.buf f.p).toNat < 128):f.p < f.e:=by
 rcases Nat.lt_or_eq_of_le h.pe with h1|h1
 .exact h1
 .have:=h.sen
  rw[<- h1]at this
  rw[this]at hb
  exact absurd hb (by decide)
theorem SI.take{l:List UInt8}{f f2:SF}{q m n:Nat}{tk:Option Nat}{er er2:Bool}(h:SI l f q m tk er)(hn:f.p+n<=f.e)(h1:f2.p=f.p+n)(h2:f2.e=f.e)(h3:f2.off=f.off)(h4:f2.buf=f.buf)(h5:f2.tok=f.tok)(h6:f2.tp=f.tp)
  (h7:if er2=true then ∃ t u,f2.er = .iface t u else f2.er = .nilIface):SI l f2 (q+n) n tk er2:=by
 refine⟨by omega,by rw[h2];exact h.e1,by rw[h2,h3];exact h.len,fun j hj=>by rw[h3,h4];exact h.buf j (by omega),by rw[h4,h2];exact h.sen,by have:=h.q;omega,by omega,h7,?_⟩
 have:=h.tk
 cases tk with
 | none=>rw[h6];exact this
 | some a =>
  obtain⟨tp,e1,e2,e3,e4⟩:=this
  exact⟨tp,by rw[h6];exact e1,by omega,by rw[h3];exact e3,by rw[h5,h3];exact e4⟩
theorem SI.weak{l:List UInt8}{f:SF}{q m:Nat}{tk:Option Nat}{er:Bool}(h:SI l f q m tk er):SI l f q 0 tk er:=by
 refine⟨h.pe,h.e1,h.len,h.buf,h.sen,h.q,Nat.zero_le _,h.er,?_⟩
 have:=h.tk
 cases tk with
 | none=>exact this
 | some a =>
  obtain⟨tp,e1,e2,e3,e4⟩:=this
  exact⟨tp,e1,by omega,e3,e4⟩
theorem SI.gathered{l:List UInt8}{f:SF}{q a tp:Nat}{er:Bool}(h:SI l f q 0 (some a) er)(htp:f.tp=tp):tp<=f.p/\a<=f.off+tp/\f.tok.length<=l.length/\f.tok++seg f tp f.p=(l.drop a).take (f.off+f.p - a):=by
 obtain⟨tp',e1,e2,e3,e4⟩:=h.tk
 have htt:tp'=tp:=by omega
 subst htt
 have h1:=h.pe
 have h2:=h.len
 refine⟨by omega,e3,by rw[e4,List.length_take,List.length_drop];omega,?_⟩
 have hs:(seg f tp' f.p).length=f.p - tp':=by simp[seg]
 rw[e4,show f.off+f.p - a=(f.off+tp' - a)+(f.p - tp')from by omega,List.take_add]
 congr 1
 apply List.ext_getElem?
 intro j
 by_cases hj:j < f.p - tp'
 .unfold seg
  rw[List.getElem?_map,List.getElem?_range hj,List.getElem?_take_of_lt hj,List.getElem?_drop,List.getElem?_drop,show a+(f.off+tp' - a+j)=f.off+(tp'+j)from by omega,h.buf _ (by omega)]
  rfl
 .rw[List.getElem?_eq_none (by omega),List.getElem?_eq_none (by rw[List.length_take];omega)]
theorem SI.fill{l:List UInt8}{f f2:SF}{q m i k:Nat}{tk:Option Nat}{er:Bool}(h:SI l f q m tk er)(hi:i=f.e - f.p)(hk:k<=l.length - (f.off+f.e))(hik:i+k<=1024)(h1:f2.p=0)(h2:f2.e=i+k)(h3:f2.off=f.off+f.p)(h4:f2.er=f.er)
  (b1:∀ j,j < i->f2.buf j=f.buf (f.p+j)) (b2:∀ j,j < k->f2.buf (i+j)=(l.drop (f.off+f.e)).getD j 0) (b3:f2.buf (i+k)=128)
  (ht:match tk with|none=>f2.tp = -1|some a=>f2.tp=0/\a<=f.off+f.p/\f2.tok=(l.drop a).take (f.off+f.p - a)):SI l f2 q 0 tk er:=by
 have e1:=h.pe
 have e2:=h.len
 have eq:=h.q
 refine⟨by omega,by omega,by omega,fun j hj=>?_,by rw[h2];exact b3,by omega,Nat.zero_le _,by rw[h4];exact h.er,?_⟩
 .by_cases hji:j < i
  .rw[b1 j hji,h3,show f.off+f.p+j=f.off+(f.p+j)from by omega,h.buf _ (by omega)]
  .have hj2:j=i+(j - i):=by omega
   rw[hj2,b2 (j - i) (by omega),h3,List.getD_eq_getElem?_getD,List.getElem?_drop,show f.off+f.p+(i+(j - i))=f.off+f.e+(j - i)from by omega]
   have hlt:f.off+f.e+(j - i) < l.length:=by omega
   rw[List.getElem?_eq_getElem hlt];rfl
 .cases tk with
  | none=>exact ht
  | some a =>
   obtain⟨t1,t2,t3⟩:=ht
   exact⟨0,t1,by omega,by rw[h3];omega,by rw[h3,Nat.add_zero];exact t3⟩
theorem lL{v:List UInt8}(h:v ≠ []):badc v=((chr v == 65533 && clen v == 1) || chr v == 0):=by
 cases v with
 | nil=>exact absurd rfl h
 | cons a r=>rfl
end Go.Proofs.YtbdhlpeckennjaaGreatDoor
