/- FnLong (the proof that the law returns true for every input), part 1 of 52; the last part says what is proved, and its condition. -/
import Derived.Lib.ParseIntB
import Derived.Shelf.Unicode.DecodeSlow
import Derived.Lib.RuneBytes
import Derived.Test.YtbdhlpeckennjaaGreatDoorProg
import Derived.WalkKit
import Derived.WalkSpells
import Derived.WalkLawsBesides
import Derived.Lib.Hide
import Derived.Deep.QuietTactic
import Derived.BigQuiet
import Derived.Deep.DeepFit
import Derived.Deep.RegionHeld3
set_option linter.unusedVariables false
set_option linter.unusedSimpArgs false
set_option maxHeartbeats 80000000
set_option maxRecDepth 1000000
namespace Go.Proofs.YtbdhlpeckennjaaGreatDoor
open Go
structure Tok where
 kind:Nat
 text:ByteArray
instance:Inhabited Tok:=⟨⟨0,⟨#[]⟩⟩⟩
abbrev Tok.is(t:Tok)(l:List UInt8):Bool:=t.text.toList == l
inductive Val where
 | none
 | bool (b:Bool)
 | long (n:Int)
 | str (s:ByteArray)
 | ent (ty id:ByteArray)
inductive Ex where
 | mk (op:Nat) (s:ByteArray) (v:Val) (keys pieces:List ByteArray) (l:List Ex)
def an:ByteArray:=⟨#[]⟩
def Ex.lit(v:Val):Ex:=.mk 1 an v [] [] []
def Ex.var(s:ByteArray):Ex:=.mk 2 s .none [] [] []
def Ex.opn(op:Nat)(l:List Ex):Ex:=.mk op an .none [] [] l
def Ex.named(op:Nat)(s:ByteArray)(l:List Ex):Ex:=.mk op s .none [] [] l
def Ex.like(p:List ByteArray)(x:Ex):Ex:=.mk 15 an .none [] p [x]
def Ex.rec_(k:List ByteArray)(l:List Ex):Ex:=.mk 30 an .none k [] l
inductive PR (α:Type) where
 | ok (a:α) (ts:List Tok)
 | bad
 | out
def PR.bind{α β:Type}(r:PR α)(f:α->List Tok->PR β):PR β :=
 match r with
 | .ok a ts=>f a ts
 | .bad=>.bad
 | .out=>.out
def bw {α β:Type}(o:Option β)(f:β->PR α):PR α :=
 match o with
 | none=>.bad
 | some b=>f b
def hd (ts:List Tok):Tok:=ts.headD default
def adv:List Tok->List Tok
 | _::b::r=>b::r
 | l=>l
def ak (l:List UInt8)(ts:List Tok):PR Unit:=if(hd ts).is l then .ok () (adv ts)else .bad
def ah (b:ByteArray)(i:Nat):Nat × Nat:=Lib.decodeGo (b.extract i b.size)
def cw (c:Nat):Option Nat :=
 if 48<=c/\c<=57 then some (c - 48)
 else if 65<=c/\c<=70 then some (c - 55)
 else if 97<=c/\c<=102 then some (c - 87)
 else none
def bF (b:ByteArray)(i:Nat):Option (Nat × Nat) :=
 match cw (ah b i).1 with
 | none=>none
 | some x =>
  match cw (ah b (i+(ah b i).2)).1 with
  | none=>none
  | some y=>if 16 * x+y > 127 then none else some (16 * x+y,i+(ah b i).2+(ah b (i+(ah b i).2)).2)
def ci (b:ByteArray):Nat->Nat->Nat->Nat->Option (Nat × Nat × Nat)
 | 0,_,_,_=>none
 | k+1,i,n,res =>
  let c:=ah b i
  if c.1=65533 then none
  else if c.1=125 then some (res,n,i+c.2)
  else match cw c.1 with
   | none=>none
   | some d=>ci b k (i+c.2) (n+1) (16 * res+d)
def bD (b:ByteArray)(i:Nat):Option (Nat × Nat) :=
 if(ah b i).1=123 then
  match ci b (b.size+1) (i+(ah b i).2) 0 0 with
  | none=>none
  | some (res,n,j)=>if n=0\/6 < n\/Utf8.valid res=false then none else some (res,j)
 else none
def bm (c:Nat):Option Nat :=
 if c=110 then some 10 else if c=114 then some 13 else if c=116 then some 9 else if c=92 then some 92
 else if c=48 then some 0 else if c=39 then some 39 else if c=34 then some 34 else none
def cX (b:ByteArray)(star:Bool)(i:Nat):Option (Nat × Nat) :=
 let c:=ah b i
 if c.1=65533 then none
 else match bm c.1 with
  | some r=>some (r,i+c.2)
  | none =>
   if c.1=120 then bF b (i+c.2)
   else if c.1=117 then bD b (i+c.2)
   else if c.1=42/\star=true then some (42,i+c.2)
   else none
def aA (b:ByteArray)(star:Bool):Nat->Nat->List UInt8->Option (List UInt8 × Nat)
 | 0,_,_=>none
 | k+1,i,acc =>
  if i < b.size then
   let c:=ah b i
   if c.1=65533 then none
   else if star=true/\c.1=42 then some (acc,i)
   else if c.1=92 then
    match cX b star (i+c.2)with
    | none=>none
    | some (r,j)=>aA b star k j (acc++Lib.encodeRune (r:Int))
   else aA b star k (i+c.2) (acc++Lib.encodeRune (c.1:Int))
  else some (acc,i)
def unq (b:ByteArray)(star:Bool):Option (List UInt8 × Nat):=aA b star (b.size+1) 0 []
def pp (s:ByteArray):ByteArray :=
 let a:=if s.data.toList.head? = some 34 then s.extract 1 s.size else s
 if a.data.toList.getLast? = some 34 then a.extract 0 (a.size - 1)else a
def aX (t:ByteArray):Option ByteArray:=(unq (pp t) false).map fun x=>⟨x.1.toArray⟩
inductive Part where
 | star
 | txt (s:List UInt8)
def fE (l:List UInt8):List Part:=(l.takeWhile (· == 42)).map fun _=>.star
def df:Nat->List UInt8->List Part->Option (List Part)
 | 0,_,_=>none
 | k+1,b,acc =>
  if b = []then some acc
  else
   let r:=b.dropWhile (· == 42)
   match unq ⟨r.toArray⟩ true with
   | none=>none
   | some (s,j)=>df k (r.drop j) (acc++fE b ++ [.txt s])
def ba:List Part->List (Bool × List UInt8)->List (Bool × List UInt8)
 | [],acc=>acc
 | .txt s::r,acc =>
  match acc.reverse with
  | []=>ba r [(false,s)]
  |(w,t)::q=>ba r (q.reverse ++ [(w,t++s)])
 | .star::r,acc =>
  match acc.reverse with
  | []=>ba r [(true,[])]
  |(_,t)::_=>if t = []then ba r acc else ba r (acc ++ [(true,[])])
def bU (s:ByteArray):Option (List (Bool × List UInt8)) :=
 (df (s.size+1) s.data.toList []).map fun l=>ba (if l = []then [.txt []]else l) []
def gq (l:List (Bool × List UInt8)):List ByteArray :=
 (match l with|(true,_)::_=>[an]|_=>[])++l.map fun x=>⟨x.2.toArray⟩
def eK (s:List UInt8):Option Bool :=
 if s = [105,112]\/s = [100,101,99,105,109,97,108]\/s = [100,97,116,101,116,105,109,101]\/s = [100,117,114,97,116,105,111,110]then some false
 else if s = [108,101,115,115,84,104,97,110]\/s = [108,101,115,115,84,104,97,110,79,114,69,113,117,97,108]\/s = [103,114,101,97,116,101,114,84,104,97,110]\/s = [103,114,101,97,116,101,114,84,104,97,110,79,114,69,113,117,97,108]
  \/ s = [105,115,73,112,118,52]\/s = [105,115,73,112,118,54]\/s = [105,115,76,111,111,112,98,97,99,107]\/s = [105,115,77,117,108,116,105,99,97,115,116]\/s = [105,115,73,110,82,97,110,103,101]
  \/ s = [116,111,68,97,116,101]\/s = [116,111,84,105,109,101]\/s = [111,102,102,115,101,116]\/s = [100,117,114,97,116,105,111,110,83,105,110,99,101]
  \/ s = [116,111,68,97,121,115]\/s = [116,111,72,111,117,114,115]\/s = [116,111,77,105,110,117,116,101,115]\/s = [116,111,83,101,99,111,110,100,115]\/s = [116,111,77,105,108,108,105,115,101,99,111,110,100,115]then some true
 else none
end Go.Proofs.YtbdhlpeckennjaaGreatDoor
namespace Go.Proofs.YtbdhlpeckennjaaGreatDoor
open Go
def ai {σ α:Type}(step:σ->List Tok->PR (σ ⊕ α)):Nat->σ->List Tok->PR α
 | 0,_,_=>.out
 | k+1,s,ts=>(step s ts).bind fun o ts1 =>
  match o with
  | .inl s'=>ai step k s' ts1
  | .inr a=>.ok a ts1
def aj {σ α:Type}(step:σ->List Tok->PR (σ ⊕ α))(s:σ)(ts:List Tok):PR α:=ai step (ts.length+1) s ts
def bt (res:ByteArray)(ts:List Tok):PR (ByteArray ⊕ ByteArray) :=
 if(hd ts).is [58,58]then
  if(hd (adv ts)).kind=1 then .ok (Sum.inl (res++⟨#[58,58]⟩++(hd (adv ts)).text)) (adv (adv ts))else .bad
 else .ok (Sum.inr res) ts
def dA (ts:List Tok):PR ByteArray:=if(hd ts).kind=1 then aj bt (hd ts).text (adv ts)else .bad
def bB (res:ByteArray)(ts:List Tok):PR (ByteArray ⊕ (ByteArray × ByteArray)) :=
 if(hd ts).is [58,58]then
  if(hd (adv ts)).kind=1 then .ok (Sum.inl (res++⟨#[58,58]⟩++(hd (adv ts)).text)) (adv (adv ts))
  else if(hd (adv ts)).kind=4 then
   bw (aX (hd (adv ts)).text) fun s=>.ok (Sum.inr (res,s)) (adv (adv ts))
  else .bad
 else .bad
def aJ (ts:List Tok):PR (ByteArray × ByteArray):=if(hd ts).kind=1 then aj bB (hd ts).text (adv ts)else .bad
section
variable (E:List Tok->PR Ex)
def bG (m:List UInt8)(acc:List Ex)(ts:List Tok):PR (List Ex ⊕ List Ex) :=
 if(hd ts).is m then .ok (Sum.inr acc) ts
 else(E ts).bind fun e ts1 =>
  if(hd ts1).is [44]then .ok (Sum.inl (acc ++ [e])) (adv ts1)
  else if(hd ts1).is m then .ok (Sum.inl (acc ++ [e])) ts1
  else .bad
def bk (m:List UInt8)(ts:List Tok):PR (List Ex):=aj (bG E m) [] ts
def bA (k:ByteArray)(ts:List Tok):PR (ByteArray × Ex):=(ak [58] ts).bind fun _ ts2=>(E ts2).bind fun v ts3=>.ok (k,v) ts3
def cf (ts:List Tok):PR (ByteArray × Ex) :=
 if(hd ts).kind=1 then bA E (hd ts).text (adv ts)
 else if(hd ts).kind=4 then
  bw (aX (hd ts).text) fun s=>bA E s (adv ts)
 else .bad
def cj (acc:List (ByteArray × Ex))(ts:List Tok):PR (List (ByteArray × Ex) ⊕ List (ByteArray × Ex)) :=
 if(hd ts).is [125]then .ok (Sum.inr acc) (adv ts)
 else(cf E ts).bind fun e ts1 =>
  if acc.any (fun x=>x.1.toList == e.1.toList)then .bad
  else if(hd ts1).is [44]then .ok (Sum.inl (acc ++ [e])) (adv ts1)
  else if(hd ts1).is [125]then .ok (Sum.inl (acc ++ [e])) ts1
  else .bad
def bE (ts:List Tok):PR Ex:=(aj (cj E) [] ts).bind fun l ts1=>.ok (.rec_ (l.map (·.1)) (l.map (·.2))) ts1
def aR (pre:ByteArray)(ts:List Tok):PR (ByteArray ⊕ Ex) :=
 if(hd ts).is [58,58]then
  if(hd (adv ts)).kind=1 then .ok (Sum.inl (pre++⟨#[58,58]⟩++(hd (adv ts)).text)) (adv (adv ts))
  else if(hd (adv ts)).kind=4 then
   bw (aX (hd (adv ts)).text) fun s=>.ok (Sum.inr (.lit (.ent pre s))) (adv (adv ts))
  else .bad
 else if(hd ts).is [40]then
  if eK pre.toList=some false then(bk E [41] (adv ts)).bind fun l ts1=>.ok (Sum.inr (.named 25 pre l)) (adv ts1)else .bad
 else .bad
def ec (neg:Bool)(t:ByteArray)(ts:List Tok):PR Ex :=
 match Lib.parseIntB 64 (if neg then 45::t.data.toList else t.data.toList)with
 | .ok n=>.ok (.lit (.long n)) ts
 | _=>.bad
def varP (t:Tok)(ts:List Tok):PR Ex :=
 if t.is [112,114,105,110,99,105,112,97,108]then .ok (.var ⟨#[112,114,105,110,99,105,112,97,108]⟩) ts
 else if t.is [97,99,116,105,111,110]then .ok (.var ⟨#[97,99,116,105,111,110]⟩) ts
 else if t.is [114,101,115,111,117,114,99,101]then .ok (.var ⟨#[114,101,115,111,117,114,99,101]⟩) ts
 else if t.is [99,111,110,116,101,120,116]then .ok (.var ⟨#[99,111,110,116,101,120,116]⟩) ts
 else .bad
def ap (ts:List Tok):PR Ex :=
 if(hd ts).kind=2 then ec false (hd ts).text (adv ts)
 else if(hd ts).kind=4 then
  bw (aX (hd ts).text) fun s=>.ok (.lit (.str s)) (adv ts)
 else if(hd ts).is [116,114,117,101]then .ok (.lit (.bool true)) (adv ts)
 else if(hd ts).is [102,97,108,115,101]then .ok (.lit (.bool false)) (adv ts)
 else if(hd ts).kind=1 then
  if(hd (adv ts)).is [58,58] ||(hd (adv ts)).is [40]then aj (aR E) (hd ts).text (adv ts)
  else varP (hd ts) (adv ts)
 else if(hd ts).is [40]then(E (adv ts)).bind fun x ts1=>(ak [41] ts1).bind fun _ ts2=>.ok x ts2
 else if(hd ts).is [91]then(bk E [93] (adv ts)).bind fun l ts1=>.ok (.opn 31 l) (adv ts1)
 else if(hd ts).is [123]then bE E (adv ts)
 else .bad
def da (s:List UInt8):Option Nat :=
 if s = [99,111,110,116,97,105,110,115]then some 26 else if s = [99,111,110,116,97,105,110,115,65,108,108]then some 27 else if s = [99,111,110,116,97,105,110,115,65,110,121]then some 28
 else if s = [104,97,115,84,97,103]then some 14 else if s = [103,101,116,84,97,103]then some 24 else none
def bx (x:Ex)(name:ByteArray)(l:List Ex):Option Ex :=
 match da name.toList with
 | some op=>match l with | [y]=>some (.opn op [x,y])|_=>none
 | none =>
  if name.toList = [105,115,69,109,112,116,121]then(match l with | []=>some (.opn 29 [x])|_=>none)
  else match eK name.toList with
   | some true=>some (.named 25 name (x::l))
   | _=>none
def aC (x:Ex)(ts:List Tok):PR (Ex ⊕ Ex) :=
 if(hd ts).is [46]then
  if(hd (adv ts)).kind=1 then
   if(hd (adv (adv ts))).is [40]then
    (bk E [41] (adv (adv (adv ts)))).bind fun l ts1 =>
     bw (bx x (hd (adv ts)).text l) fun y=>.ok (Sum.inl y) (adv ts1)
   else .ok (Sum.inl (.named 23 (hd (adv ts)).text [x])) (adv (adv ts))
  else .bad
 else if(hd ts).is [91]then
  if(hd (adv ts)).kind=4 then
   bw (aX (hd (adv ts)).text) fun s=>(ak [93] (adv (adv ts))).bind fun _ ts1=>.ok (Sum.inl (.named 23 s [x])) ts1
  else .bad
 else .ok (Sum.inr x) ts
def br (ts:List Tok):PR Ex:=(ap E ts).bind fun x ts1=>aj (aC E) x ts1
def bR (acc:List Bool)(ts:List Tok):PR (List Bool ⊕ List Bool) :=
 if(hd ts).is [45]then .ok (Sum.inl (acc ++ [true])) (adv ts)
 else if(hd ts).is [33]then .ok (Sum.inl (acc ++ [false])) (adv ts)
 else .ok (Sum.inr acc) ts
def aP (l:List Bool)(x:Ex):Ex:=l.foldr (fun b y=>.opn (if b then 21 else 22) [y]) x
def bi (ops:List Bool)(ts:List Tok):PR Ex :=
 if(hd ts).kind=2/\ops.getLast? = some true then(ec true (hd ts).text (adv ts)).bind fun x ts2=>.ok (aP ops.dropLast x) ts2
 else(br E ts).bind fun x ts2=>.ok (aP ops x) ts2
def bl (ts:List Tok):PR Ex:=(aj bR [] ts).bind fun ops ts1=>bi E ops ts1
def aE (opOf:Tok->Option Nat)(A:List Tok->PR Ex)(x:Ex)(ts:List Tok):PR (Ex ⊕ Ex) :=
 if(opOf (hd ts)).isSome then(A (adv ts)).bind fun y ts1=>.ok (Sum.inl (.opn ((opOf (hd ts)).getD 0) [x,y])) ts1 else .ok (Sum.inr x) ts
def aS (opOf:Tok->Option Nat)(A:List Tok->PR Ex)(ts:List Tok):PR Ex:=(A ts).bind fun x ts1=>aj (aE opOf A) x ts1
def cN (t:Tok):Option Nat:=if t.is [42]then some 20 else none
def cG (t:Tok):Option Nat:=if t.is [43]then some 19 else if t.is [45]then some 18 else none
def cQ (t:Tok):Option Nat:=if t.is [38,38]then some 5 else none
def orOp (t:Tok):Option Nat:=if t.is [124,124]then some 4 else none
def dy (t:Tok):Option Nat :=
 if t.is [60]then some 6 else if t.is [60,61]then some 7 else if t.is [62]then some 8 else if t.is [62,61]then some 9
 else if t.is [33,61]then some 10 else if t.is [61,61]then some 11 else if t.is [105,110]then some 12 else none
def multP:List Tok->PR Ex:=aS cN (bl E)
def addP:List Tok->PR Ex:=aS cG (multP E)
def dg (s:Ex × Ex)(ts:List Tok):PR ((Ex × Ex) ⊕ Ex) :=
 if(hd ts).is [46]then
  if(hd (adv ts)).kind=1 then .ok (Sum.inl (.opn 5 [s.1,.named 13 (hd (adv ts)).text [s.2]],.named 23 (hd (adv ts)).text [s.2])) (adv (adv ts))
  else .bad
 else .ok (Sum.inr s.1) ts
def hasP (x:Ex)(ts:List Tok):PR Ex :=
 if(hd ts).kind=1 then aj dg (.named 13 (hd ts).text [x],.named 23 (hd ts).text [x]) (adv ts)
 else if(hd ts).kind=4 then
  bw (aX (hd ts).text) fun s=>.ok (.named 13 s [x]) (adv ts)
 else .bad
def eW (x:Ex)(ts:List Tok):PR Ex :=
 if(hd ts).kind=4 then
  bw (bU (pp (hd ts).text)) fun l=>.ok (.like (gq l) x) (adv ts)
 else .bad
def isP (x:Ex)(ts:List Tok):PR Ex :=
 (dA ts).bind fun ty ts1 =>
  if(hd ts1).is [105,110]then(addP E (adv ts1)).bind fun y ts2=>.ok (.named 17 ty [x,y]) ts2
  else .ok (.named 16 ty [x]) ts1
def bQ (x:Ex)(ts1:List Tok):PR Ex :=
 if(hd ts1).is [104,97,115]then hasP x (adv ts1)
 else if(hd ts1).is [108,105,107,101]then eW x (adv ts1)
 else if(hd ts1).is [105,115]then isP E x (adv ts1)
 else if(dy (hd ts1)).isSome then(addP E (adv ts1)).bind fun y ts2=>.ok (.opn ((dy (hd ts1)).getD 0) [x,y]) ts2
 else .ok x ts1
def aO (ts:List Tok):PR Ex:=(addP E ts).bind fun x ts1=>bQ E x ts1
def andP:List Tok->PR Ex:=aS cQ (aO E)
def orP:List Tok->PR Ex:=aS orOp (andP E)
def cA (ts:List Tok):PR Ex :=
 if(hd ts).is [105,102]then
  (E (adv ts)).bind fun c ts1=>(ak [116,104,101,110] ts1).bind fun _ ts2=>(E ts2).bind fun t ts3 =>
   (ak [101,108,115,101] ts3).bind fun _ ts4=>(E ts4).bind fun e ts5=>.ok (.opn 3 [c,t,e]) ts5
 else orP E ts
end
def expr:Nat->List Tok->PR Ex
 | 0,_=>.out
 | n+1,ts=>cA (expr n) ts
structure Scp where
 kind:Nat
 ent:ByteArray × ByteArray
 list:List (ByteArray × ByteArray)
 ty:ByteArray
def Scp.all:Scp:=⟨0,(an,an),[],an⟩
structure Pol where
 forbid:Bool
 notes:List (ByteArray × ByteArray)
 principal:Scp
 action:Scp
 resource:Scp
 conds:List (Bool × Ex)
def cS (name:ByteArray)(ts:List Tok):PR (ByteArray × ByteArray) :=
 if(hd ts).is [40]then
  if(hd (adv ts)).kind=4 then
   bw (aX (hd (adv ts)).text) fun s=>(ak [41] (adv (adv ts))).bind fun _ ts1=>.ok (name,s) ts1
  else .bad
 else .ok (name,an) ts
def bC (known:List (ByteArray × ByteArray))(ts:List Tok):PR (ByteArray × ByteArray) :=
 if(hd ts).kind=1\/(hd ts).kind=3 then
  if known.any (fun x=>x.1.toList ==(hd ts).text.toList)then .bad
  else cS (hd ts).text (adv ts)
 else .bad
def be (acc:List (ByteArray × ByteArray))(ts:List Tok):PR (List (ByteArray × ByteArray) ⊕ List (ByteArray × ByteArray)) :=
 if(hd ts).is [64]then(bC acc (adv ts)).bind fun n ts1=>.ok (Sum.inl (acc ++ [n])) ts1
 else .ok (Sum.inr acc) ts
def cD (ts:List Tok):PR Bool :=
 if(hd ts).is [112,101,114,109,105,116]then .ok false (adv ts)else if(hd ts).is [102,111,114,98,105,100]then .ok true (adv ts)else .bad
def dE (p:ByteArray)(ts2:List Tok):PR Scp :=
 if(hd ts2).is [105,110]then(aJ (adv ts2)).bind fun e ts3=>.ok ⟨5,e,[],p⟩ ts3
 else .ok ⟨4,(an,an),[],p⟩ ts2
def cg (ts1:List Tok):PR Scp :=
 if(hd ts1).is [61,61]then(aJ (adv ts1)).bind fun e ts2=>.ok ⟨1,e,[],an⟩ ts2
 else if(hd ts1).is [105,115]then(dA (adv ts1)).bind fun p ts2=>dE p ts2
 else if(hd ts1).is [105,110]then(aJ (adv ts1)).bind fun e ts2=>.ok ⟨2,e,[],an⟩ ts2
 else .ok Scp.all ts1
def whoP (w:List UInt8)(ts:List Tok):PR Scp:=(ak w ts).bind fun _ ts1=>cg ts1
def aU (acc:List (ByteArray × ByteArray))(ts:List Tok):PR (List (ByteArray × ByteArray) ⊕ List (ByteArray × ByteArray)) :=
 if(hd ts).is [93]then .ok (Sum.inr acc) ts
 else(aJ ts).bind fun e ts1 =>
  if(hd ts1).is [44]then .ok (Sum.inl (acc ++ [e])) (adv ts1)
  else if(hd ts1).is [93]then .ok (Sum.inl (acc ++ [e])) ts1
  else .bad
def gM (ts:List Tok):PR Scp :=
 if(hd ts).is [91]then(aj aU [] (adv ts)).bind fun l ts2=>.ok ⟨3,(an,an),l,an⟩ (adv ts2)
 else(aJ ts).bind fun e ts2=>.ok ⟨2,e,[],an⟩ ts2
def dk (ts1:List Tok):PR Scp :=
 if(hd ts1).is [61,61]then(aJ (adv ts1)).bind fun e ts2=>.ok ⟨1,e,[],an⟩ ts2
 else if(hd ts1).is [105,110]then gM (adv ts1)
 else .ok Scp.all ts1
def cF (ts:List Tok):PR Scp:=(ak [97,99,116,105,111,110] ts).bind fun _ ts1=>dk ts1
def bV (E:List Tok->PR Ex)(ts:List Tok):PR Ex :=
 (ak [123] ts).bind fun _ ts1=>(E ts1).bind fun x ts2=>(ak [125] ts2).bind fun _ ts3=>.ok x ts3
def aB (E:List Tok->PR Ex)(acc:List (Bool × Ex))(ts:List Tok):PR (List (Bool × Ex) ⊕ List (Bool × Ex)) :=
 if(hd ts).is [119,104,101,110]then(bV E (adv ts)).bind fun x ts1=>.ok (Sum.inl (acc ++ [(false,x)])) ts1
 else if(hd ts).is [117,110,108,101,115,115]then(bV E (adv ts)).bind fun x ts1=>.ok (Sum.inl (acc ++ [(true,x)])) ts1
 else .ok (Sum.inr acc) ts
def kt (l:List UInt8)(ts:List Tok):PR Unit:=if(hd ts).is l then .ok () (adv ts)else .ok () ts
def polP (E:List Tok->PR Ex)(ts:List Tok):PR Pol :=
 (aj be [] ts).bind fun notes ts0 =>
 (cD ts0).bind fun forbid ts1 =>
 (ak [40] ts1).bind fun _ ts2 =>
 (whoP [112,114,105,110,99,105,112,97,108] ts2).bind fun p ts3 =>
 (ak [44] ts3).bind fun _ ts4 =>
 (cF ts4).bind fun a ts5 =>
 (ak [44] ts5).bind fun _ ts6 =>
 (whoP [114,101,115,111,117,114,99,101] ts6).bind fun r ts7 =>
 (kt [44] ts7).bind fun _ ts8 =>
 (ak [41] ts8).bind fun _ ts9 =>
 (aj (aB E) [] ts9).bind fun c ts10 =>
 (ak [59] ts10).bind fun _ ts11=>.ok ⟨forbid,notes,p,a,r,c⟩ ts11
def dZ (E:List Tok->PR Ex)(acc:List Pol)(ts:List Tok):PR (List Pol ⊕ List Pol) :=
 if(hd ts).kind=0 then .ok (Sum.inr acc) ts
 else(polP E ts).bind fun p ts1=>.ok (Sum.inl (acc ++ [p])) ts1
def jh (E:List Tok->PR Ex)(ts:List Tok):PR (List Pol):=aj (dZ E) [] ts
end Go.Proofs.YtbdhlpeckennjaaGreatDoor
namespace Go.Proofs.YtbdhlpeckennjaaGreatDoor
open Go Go.RowKit
theorem hqZ{p:Prop}(h:p):RowKit.Hid p:=Go.Lib.hid h
structure Fr(S:Nat->Prop)(w w':World):Prop where
 os:w'.os=w.os
 tape:w'.tape=w.tape
 output:w'.output=w.output
 size:w.heap.size<=w'.heap.size
 block:∀ k,k < w.heap.size->¬ S k->w'.heap[k]? = w.heap[k]?
section
variable {S S':Nat->Prop} {w w1 w2:World}
theorem Fr.refl(S:Nat->Prop)(w:World):Fr S w w:=⟨rfl,rfl,rfl,Nat.le_refl _,fun _ _ _=>rfl⟩
theorem Fr.r{S:Nat->Prop}{w:World}:Fr S w w:=Fr.refl S w
theorem Fr.trans(h:Fr S w w1)(k:Fr S w1 w2):Fr S w w2 :=
 ⟨k.os.trans h.os,k.tape.trans h.tape,k.output.trans h.output,Nat.le_trans h.size k.size,fun i hi hs=>(k.block i (Nat.lt_of_lt_of_le hi h.size) hs).trans (h.block i hi hs)⟩
theorem Fr.mono(h:Fr S w w1)(hs:∀ k,k < w.heap.size->S k->S' k):Fr S' w w1:=⟨h.os,h.tape,h.output,h.size,fun k hk hn=>h.block k hk fun e=>hn (hs k hk e)⟩
theorem Fr.drewN(h:Fr S w w1)(n:Nat):Fr S w (w1.drewN n):=⟨h.os,h.tape,h.output,h.size,h.block⟩
theorem Fr.drew(h:Fr S w w1):Fr S w w1.drew:=⟨h.os,h.tape,h.output,h.size,h.block⟩
theorem Fr.alloc(h:Fr S w w1)(o:Obj):Fr S w (w1.alloc o) :=
 h.trans ⟨rfl,rfl,rfl,by simp,fun k hk _=>Below.heap_alloc _ _ _ hk⟩
theorem Fr.setCell(h:Fr S w w1){p:Addr}(hp:S p.block\/w.heap.size<=p.block)(u:Value):Fr S w (w1.setCell p u) :=
 ⟨h.os,h.tape,h.output,by simpa[World.setCell] using h.size,fun k hk hn=>(Below.heap_setCell _ _ _ _ (by rintro rfl;rcases hp with hp|hp;exact hn hp;omega)).trans (h.block k hk hn)⟩
theorem Fr.set{b o:Nat}{u:Value}(h:Fr S w w1)(hp:S b\/w.heap.size<=b):Fr S w (w1.setCell ⟨b,o,none⟩ u):=h.setCell hp u
theorem Fr.of_below{B:Nat}(h:Below B w w1)(hS:∀ k,k < w.heap.size->B<=k->S k):Fr S w w1 :=
 ⟨h.os,h.tape,h.output,h.size,fun k hk hn=>h.block k (Nat.lt_of_not_le fun e=>hn (hS k hk e))⟩
theorem Fr.of_grown{row:Option Nat}(h:w.grownBy w1 row)(hS:∀ k,row=some k->S k):Fr S w w1 :=
 ⟨h.os,h.tape,h.output,h.size,fun k hk hn=>h.block k hk fun e=>hn (hS k e.symm)⟩
theorem Fr.cell(h:Fr S w w1){p:Addr}(hp:p.block < w.heap.size)(hn:¬ S p.block):w1.cell? p=w.cell? p:=World.cell?_of_block (w:=w) (h.block p.block hp hn)
end
abbrev New(w w':World):Prop:=Fr (fun _=>False) w w'
theorem Fr.ofNew{S:Nat->Prop}{w w':World}(h:New w w'):Fr S w w':=h.mono fun _ _ e=>e.elim
theorem New.cells{w w1:World}(h:New w w1):(∀ b o,b < w.heap.size->w1.cell? ⟨b,o,none⟩=w.cell? ⟨b,o,none⟩)/\(∀ b o,b < w.heap.size->w1.frozen? ⟨b,o,none⟩=w.frozen? ⟨b,o,none⟩) :=
 ⟨fun b _ hb=>World.cell?_of_block (w:=w) (h.block b hb fun e=>e),fun b _ hb=>World.frozen?_of_block (w:=w) (h.block b hb fun e=>e)⟩
theorem Fr.cells{pb:Nat}{w w1:World}(h:Fr (· = pb) w w1):(∀ b o,b < w.heap.size->b ≠ pb->w1.cell? ⟨b,o,none⟩=w.cell? ⟨b,o,none⟩)/\(∀ b o,b < w.heap.size->b ≠ pb->w1.frozen? ⟨b,o,none⟩=w.frozen? ⟨b,o,none⟩) :=
 ⟨fun b _ hb hn=>World.cell?_of_block (w:=w) (h.block b hb hn),fun b _ hb hn=>World.frozen?_of_block (w:=w) (h.block b hb hn)⟩
theorem fT(w:World)(b o:Nat)(u:Value)(k:Nat)(h:k ≠ b):(w.setCell ⟨b,o,none⟩ u).heap[k]? = w.heap[k]? := Below.heap_setCell w ⟨b,o,none⟩ u k h
theorem eh(w:World)(o:Obj)(k:Nat)(h:k < w.heap.size):(w.alloc o).heap[k]? = w.heap[k]? := Below.heap_alloc w o k h
theorem pB(w:World)(k:Nat):w.drew.heap[k]? = w.heap[k]? := rfl
theorem lE(w:World)(b o:Nat)(u:Value){cs:Array Value}{t:TypeId}{fr:Nat × Nat}(h:w.heap[b]? = some (.cells cs t fr)):(w.setCell ⟨b,o,none⟩ u).heap[b]? = some (.cells (cs.setIfInBounds o u) t fr):=by
 simp[World.setCell,Array.getElem?_modify,h]
theorem af(w:World)(a:Addr)(u:Value):(w.setCell a u).heap.size=w.heap.size:=by simp[World.setCell]
theorem ae(w:World):w.drew.heap.size=w.heap.size:=rfl
theorem ad(w:World)(n:Nat):(w.drewN n).heap.size=w.heap.size:=rfl
theorem aa(w:World)(o:Obj):(w.alloc o).heap.size=w.heap.size+1:=by simp
def tokV (t:Tok)(o l c:Int):Value:=.agg #[.int .i64 t.kind,.string ⟨#[]⟩,.int .i64 o,.int .i64 l,.int .i64 c,.string t.text]
def TokAt(w:World)(tb k:Nat)(t:Tok):Prop :=
 ∃ o l c:Int,w.cell? ⟨tb,k * 6,none⟩=some (.int .i64 t.kind)/\w.cell? ⟨tb,k * 6+1,none⟩=some (.string ⟨#[]⟩)/\w.cell? ⟨tb,k * 6+2,none⟩=some (.int .i64 o) /\
  w.cell? ⟨tb,k * 6+3,none⟩=some (.int .i64 l)/\w.cell? ⟨tb,k * 6+4,none⟩=some (.int .i64 c)/\w.cell? ⟨tb,k * 6+5,none⟩=some (.string t.text)
def Fine (ts:List Tok):Prop:=ts ≠ []/\∀ t,t ∈ ts->t.text.size<=150000
def Glob (w:World):Prop :=
 Lib.Utf8Tabs 0 1 w /\
 (∃ ev,w.cell? ⟨5,0,none⟩=some ev/\(ev = .nilIface\/∃ te pe,ev = .iface te pe))/\(∃ ev,w.cell? ⟨6,0,none⟩=some ev/\(ev = .nilIface\/∃ te pe,ev = .iface te pe))
theorem Glob.next{w w':World}(h:Glob w)(hb:∀ k,k < 15->w'.heap[k]? = w.heap[k]?):Glob w':=by
 have e:∀ (b o:Nat),b < 15->w'.cell? ⟨b,o,none⟩=w.cell? ⟨b,o,none⟩:=fun b o ha=>World.cell?_of_block (hb b ha)
 obtain⟨⟨h1,h2⟩,⟨v1,h3,h4⟩,⟨v2,h5,h6⟩⟩:=h
 refine⟨⟨fun c hc=>(e _ _ (by decide)).trans (h1 c hc),fun i hi=>⟨(e _ _ (by decide)).trans (h2 i hi).1,(e _ _ (by decide)).trans (h2 i hi).2⟩⟩,⟨v1,(e _ _ (by decide)).trans h3,h4⟩,⟨v2,(e _ _ (by decide)).trans h5,h6⟩⟩
theorem Glob.fr{S:Nat->Prop}{w w':World}(h:Glob w)(hf:Fr S w w')(hS:∀ k,k < 15->¬ S k)(hs:15<=w.heap.size):Glob w':=h.next fun k hk=>hf.block k (by omega) (hS k hk)
def PSt (w:World)(pb tb:Nat)(ts:List Tok):Prop :=
 ∃ n cap i:Nat,w.heap[pb]? = some (.cells #[.slice (some ⟨tb,0,none⟩) n cap,.int .i64 i] 115 (0,0))/\tb ≠ pb/\tb < w.heap.size/\Fine ts/\ts.length+i=n/\(n<=100000/\Glob w/\15<=pb) /\
  ∀ j t,ts[j]? = some t->TokAt w tb (i+j) t
theorem PSt.frame{w w':World}{pb tb:Nat}{ts:List Tok}{S:Nat->Prop}(h:PSt w pb tb ts)(hf:Fr S w w')(hp:¬ S pb)(ht:¬ S tb)(hg:∀ k,k < pb->¬ S k:=by first|exact(fun k _ e=>e)|(intro k hk hs;(try dsimp only at hs);omega)):PSt w' pb tb ts:=by
 obtain⟨n,cap,i,hb,hne,hlt,hts,hn,hb2,hc⟩:=h
 have hpb:pb < w.heap.size:=(Array.getElem?_eq_some_iff.1 hb).1
 refine⟨n,cap,i,(hf.block pb hpb hp).trans hb,hne,Nat.lt_of_lt_of_le hlt hf.size,hts,hn,⟨hb2.1,hb2.2.1.fr hf (fun k hk=>hg k (by omega)) (by omega),hb2.2.2⟩,fun j t hj=>?_⟩
 obtain⟨o,l,c,c0,c1,c2,c3,c4,c5⟩:=hc j t hj
 have e:∀ k,w'.cell? ⟨tb,k,none⟩=w.cell? ⟨tb,k,none⟩:=fun k=>hf.cell (p:=⟨tb,k,none⟩) hlt ht
 exact⟨o,l,c,(e _).trans c0,(e _).trans c1,(e _).trans c2,(e _).trans c3,(e _).trans c4,(e _).trans c5⟩
theorem PSt.glob{w:World}{pb tb:Nat}{ts:List Tok}(h:PSt w pb tb ts):Glob w/\15<=pb:=by
 obtain⟨n,cap,i,hb,hne,hlt,hts,hn,hb2,hc⟩:=h
 exact hb2.2
theorem PSt.fine{w:World}{pb tb:Nat}{ts:List Tok}(h:PSt w pb tb ts):Fine ts:=by
 obtain⟨n,cap,i,hb,hne,hlt,hts,hn,hb2,hc⟩:=h
 exact hts
theorem Fine.hd2{ts:List Tok}(h:Fine ts):(hd ts).text.size<=150000:=by
 obtain⟨h1,h2⟩:=h
 cases ts with
 | nil=>exact absurd rfl h1
 | cons t r=>exact h2 t (List.mem_cons_self ..)
theorem Fine.hd{ts:List Tok}(h:Fine ts):(Go.Proofs.YtbdhlpeckennjaaGreatDoor.hd ts).text.size<=1000000:=Nat.le_trans h.hd2 (by decide)
theorem PSt.len{w:World}{pb tb:Nat}{ts:List Tok}(h:PSt w pb tb ts):ts.length<=100000:=by
 obtain⟨n,cap,i,hb,hne,hlt,hts,hn,hb2,hc⟩:=h
 omega
theorem PSt.new{w w':World}{pb tb:Nat}{ts:List Tok}(h:PSt w pb tb ts)(hf:New w w'):PSt w' pb tb ts:=h.frame hf (fun h=>h) (fun h=>h)
theorem PSt.lt2{w:World}{pb tb:Nat}{ts:List Tok}(h:PSt w pb tb ts):tb < w.heap.size:=by
 obtain⟨n,cap,i,hb,hne,hlt,-⟩:=h
 exact hlt
theorem PSt.lt{w:World}{pb tb:Nat}{ts:List Tok}(h:PSt w pb tb ts):pb < w.heap.size:=by
 obtain⟨n,cap,i,hb,-⟩:=h
 exact(Array.getElem?_eq_some_iff.1 hb).1
theorem PSt.top{w:World}{pb tb:Nat}{ts:List Tok}(h:PSt w pb tb ts):∃ (n cap i:Nat) (o l c:Int),w.cell? ⟨pb,0,none⟩=some (.slice (some ⟨tb,0,none⟩) n cap)/\w.cell? ⟨pb,1,none⟩=some (.int .i64 i) /\
  w.cell? ⟨tb,i * 6,none⟩=some (.int .i64 (hd ts).kind)/\w.cell? ⟨tb,i * 6+1,none⟩=some (.string ⟨#[]⟩)/\w.cell? ⟨tb,i * 6+2,none⟩=some (.int .i64 o) /\
  w.cell? ⟨tb,i * 6+3,none⟩=some (.int .i64 l)/\w.cell? ⟨tb,i * 6+4,none⟩=some (.int .i64 c)/\w.cell? ⟨tb,i * 6+5,none⟩=some (.string (hd ts).text) /\
  (0:Int)<=(i:Int)/\(i:Int) < (n:Int)/\(n:Int)<=100000/\pb < w.heap.size/\tb < w.heap.size:=by
 obtain⟨n,cap,i,hb,hne,hlt,hts,hn,hb2,hc⟩:=h
 obtain⟨t,r,rfl⟩:∃ t r,ts=t::r:=by cases ts with|nil=>exact absurd rfl hts.1|cons t r=>exact⟨t,r,rfl⟩
 obtain⟨o,l,c,c0,c1,c2,c3,c4,c5⟩:=hc 0 t rfl
 simp only[Nat.add_zero]at c0 c1 c2 c3 c4 c5
 have h0:0 < (t::r).length:=by simp
 exact⟨n,cap,i,o,l,c,cell_of_row w pb 0 _ _ _ hb,cell_of_row w pb 1 _ _ _ hb,c0,c1,c2,c3,c4,c5,by omega,by omega,by omega,(Array.getElem?_eq_some_iff.1 hb).1,hlt⟩
theorem ay(w:World)(pb tb:Nat)(ts:List Tok)(h:PSt w pb tb ts) :
  Calls Tryz.prog 45 #[.pointer (some ⟨pb,0,none⟩)] w fun e w'=>(∃ o l c:Int,e = .returned (.agg #[.int .i64 (hd ts).kind,.string ⟨#[]⟩,.int .i64 o,.int .i64 l,.int .i64 c,.string (hd ts).text]))/\New w w':=by
 obtain⟨n,cap,i,hb,hne,hlt,hts,hn,hb2,hc⟩:=h
 obtain⟨t,r,rfl⟩:∃ t r,ts=t::r:=by cases ts with|nil=>exact absurd rfl hts.1|cons t r=>exact⟨t,r,rfl⟩
 obtain⟨o,l,c,c0,c1,c2,c3,c4,c5⟩:=hc 0 t rfl
 have p0:w.cell? ⟨pb,0,none⟩=some (.slice (some ⟨tb,0,none⟩) n cap):=cell_of_row w pb 0 _ _ _ hb
 have p1:w.cell? ⟨pb,1,none⟩=some (.int .i64 i):=cell_of_row w pb 1 _ _ _ hb
 simp only[Nat.add_zero]at c0 c1 c2 c3 c4 c5
 have q1:(0:Int)<=(i:Int):=by omega
 have q2:(i:Int) < (n:Int):=by simp at hn;omega
 have lt0:pb < w.heap.size:=World.block_lt_of_cell? w _ p0
 have lt1:tb < w.heap.size:=World.block_lt_of_cell? w _ c0
 clear hc hb hts hn hlt hne
 go_enter Tryz.func45,Tryz.ntmps45
 go_wp2_with fail
 go_region_held3 (fun w'=>w'.cell? ⟨pb,0,none⟩=some (.slice (some ⟨tb,0,none⟩) n cap)/\w'.cell? ⟨pb,1,none⟩=some (.int .i64 i)/\w'.cell? ⟨tb,i * 6,none⟩=some (.int .i64 t.kind)/\w'.cell? ⟨tb,i * 6+1,none⟩=some (.string ⟨#[]⟩)
  /\ w'.cell? ⟨tb,i * 6+2,none⟩=some (.int .i64 o)/\w'.cell? ⟨tb,i * 6+3,none⟩=some (.int .i64 l)/\w'.cell? ⟨tb,i * 6+4,none⟩=some (.int .i64 c)/\w'.cell? ⟨tb,i * 6+5,none⟩=some (.string t.text)) (go_keep) (fail)
 go_wp2
 exact bodyPost_ret (v:=tokV t o l c) (by simp[results,Tryz.results45,go_sem,tokV]) rfl ⟨⟨o,l,c,rfl⟩,(Fr.r.alloc _).drew⟩
theorem PSt.keep{w w':World}{pb tb:Nat}{ts:List Tok}(h:PSt w pb tb ts)(hf:Fr (· = pb) w w')(hb':w'.heap[pb]? = w.heap[pb]?):PSt w' pb tb ts:=by
 obtain⟨n,cap,i,hb,hne,hlt,hts,hn,hb2,hc⟩:=h
 have hpb:pb < w.heap.size:=(Array.getElem?_eq_some_iff.1 hb).1
 refine⟨n,cap,i,hb'.trans hb,hne,Nat.lt_of_lt_of_le hlt hf.size,hts,hn,⟨hb2.1,hb2.2.1.fr hf (fun k hk e=>by omega) (by omega),hb2.2.2⟩,fun j t hj=>?_⟩
 obtain⟨o,l,c,c0,c1,c2,c3,c4,c5⟩:=hc j t hj
 have e:∀ k,w'.cell? ⟨tb,k,none⟩=w.cell? ⟨tb,k,none⟩:=fun k=>hf.cell (p:=⟨tb,k,none⟩) hlt hne
 exact⟨o,l,c,(e _).trans c0,(e _).trans c1,(e _).trans c2,(e _).trans c3,(e _).trans c4,(e _).trans c5⟩
theorem PSt.opened{w:World}{pb tb:Nat}{ts:List Tok}(h:PSt w pb tb ts):∃ n cap i:Nat,w.heap[pb]? = some (.cells #[.slice (some ⟨tb,0,none⟩) n cap,.int .i64 i] 115 (0,0))/\w.cell? ⟨pb,0,none⟩=some (.slice (some ⟨tb,0,none⟩) n cap)/\w.cell? ⟨pb,1,none⟩=some (.int .i64 i)/\w.frozen? ⟨pb,1,none⟩=false /\
  pb < w.heap.size/\i < n/\n<=100000/\ts.length+i=n /\
  (∀ w',Fr (· = pb) w w'->w'.heap[pb]? = some (.cells #[.slice (some ⟨tb,0,none⟩) n cap,.int .i64 (i+1:Nat)] 115 (0,0))->1 < ts.length->PSt w' pb tb ts.tail):=by
 obtain⟨n,cap,i,hb,hne,hlt,hts,hn,hb2,hc⟩:=h
 have h0:0 < ts.length:=List.length_pos_iff.2 hts.1
 refine⟨n,cap,i,hb,cell_of_row w pb 0 _ _ _ hb,cell_of_row w pb 1 _ _ _ hb,by simp[World.frozen?,hb],(Array.getElem?_eq_some_iff.1 hb).1,by omega,hb2.1,hn,fun w' hf hb' h1=>?_⟩
 have hpb:pb < w.heap.size:=(Array.getElem?_eq_some_iff.1 hb).1
 refine⟨n,cap,i+1,hb',hne,Nat.lt_of_lt_of_le hlt hf.size,?_,?_,⟨hb2.1,hb2.2.1.fr hf (fun k hk e=>by omega) (by omega),hb2.2.2⟩,fun j t hj=>?_⟩
 .exact⟨by intro e;have:=congrArg List.length e;simp at this;omega,fun t ht=>hts.2 t (List.mem_of_mem_tail ht)⟩
 .simp;omega
 .obtain⟨o,l,c,c0,c1,c2,c3,c4,c5⟩:=hc (j+1) t (by simpa[List.getElem?_tail] using hj)
  have e:∀ k,w'.cell? ⟨tb,k,none⟩=w.cell? ⟨tb,k,none⟩:=fun k=>hf.cell (p:=⟨tb,k,none⟩) hlt hne
  rw[show i+1+j=i+(j+1)from by omega]
  exact⟨o,l,c,(e _).trans c0,(e _).trans c1,(e _).trans c2,(e _).trans c3,(e _).trans c4,(e _).trans c5⟩
theorem ag(w:World)(pb tb:Nat)(ts:List Tok)(h:PSt w pb tb ts) :
  Calls Tryz.prog 80 #[.pointer (some ⟨pb,0,none⟩)] w fun e w'=>(∃ o l c:Int,e = .returned (.agg #[.int .i64 (hd ts).kind,.string ⟨#[]⟩,.int .i64 o,.int .i64 l,.int .i64 c,.string (hd ts).text]))/\PSt w' pb tb (adv ts)/\Fr (· = pb) w w':=by
 obtain⟨n,cap,i,hb,p0,p1,p2,lt0,hi,hn,hlen,hstep⟩:=h.opened
 have HB:=hqZ hb
 have H:=hqZ h
 have HS:=hqZ hstep
 have HL:=hqZ hlen
 clear hstep hlen hb h
 have q1:(0:Int)<=(i:Int):=by omega
 have q2:(i:Int) < (n:Int):=by omega
 have q3:(n:Int)<=100000:=by omega
 have ne1:w.heap.size ≠ pb:=by omega
 have ne2:pb ≠ w.heap.size:=by omega
 go_enter Tryz.func80,Tryz.ntmps80
 go_wp2_with fail
 refine(ay _ pb tb ts (H.out.new ?_)).mono ?_
 .exact Fr.r.alloc _
 rintro e w1 ⟨⟨o,l,c,rfl⟩,hf⟩
 have HF:Hid (Fr (· = pb) w w1):=hqZ ((Fr.r.alloc _).trans hf.ofNew)
 obtain⟨k1,k2⟩:=hf.cells
 have HB1:Hid (w1.heap[pb]? = w.heap[pb]?):=hqZ ((hf.block pb (by simp;omega) fun e=>e).trans (eh _ _ _ lt0))
 have r0:w1.cell? ⟨pb,0,none⟩=some (.slice (some ⟨tb,0,none⟩) n cap):=cell_of_row w1 pb 0 _ _ _ (HB1.out.trans HB.out)
 have r1:w1.cell? ⟨pb,1,none⟩=some (.int .i64 i):=cell_of_row w1 pb 1 _ _ _ (HB1.out.trans HB.out)
 have r2:w1.frozen? ⟨pb,1,none⟩=false:=by simp[World.frozen?,HB1.out.trans HB.out]
 have hz:=hf.size
 simp at hz
 clear hf
 have lt1:w.heap.size < w1.heap.size:=by omega
 have lt2:pb < w1.heap.size:=by omega
 by_cases hl:1 < ts.length
 .have q4:(i:Int) < (n:Int) - 1:=by have:=HL.out;omega
  have hw:IntKind.i64.wrap ((n:Int) - 1)=(n:Int) - 1:=IntWalk.i64_in _ (by omega)
  go_wp2_with fail
  go_region_held3 (fun w'=>w'.cell? ⟨pb,0,none⟩=some (.slice (some ⟨tb,0,none⟩) n cap)/\w'.cell? ⟨pb,1,none⟩=some (.int .i64 i)) (go_keep) (fail)
  clear hw
  go_wp2
  refine bodyPost_ret (v:=.agg #[.int .i64 (hd ts).kind,.string ⟨#[]⟩,.int .i64 o,.int .i64 l,.int .i64 c,.string (hd ts).text]) (by simp only[results,Tryz.results80];go_simp) rfl ⟨⟨o,l,c,rfl⟩,?_,?_⟩
  .have ha:adv ts=ts.tail:=by
    match ts,hl with
    | _::_::_,_=>rfl
   rw[ha]
   refine HS.out _ ?_ ?_ hl
   .repeat' (with_reducible(first|exact HF.out|apply Fr.drew|apply Fr.alloc|apply Fr.set))
    all_goals first|exact .inl rfl|exact .inr (Nat.le_refl _)
   .have hb':=lE w1 pb 1 (.int .i64 ((i:Int)+1)) (HB1.out.trans HB.out)
    simp only[pB]
    rw[eh _ _ _ (by simp only[af];omega)]
    simp only[fT _ _ _ _ _ ne2]
    rw[hb']
    simp
  .repeat' (with_reducible(first|exact HF.out|apply Fr.drew|apply Fr.alloc|apply Fr.set))
   all_goals first|exact .inl rfl|exact .inr (Nat.le_refl _)
 .have q4:¬ (i:Int) < (n:Int) - 1:=by have:=HL.out;omega
  have q5:decide ((i:Int) < (n:Int) - 1)=false:=by simp;omega
  have hw:IntKind.i64.wrap ((n:Int) - 1)=(n:Int) - 1:=IntWalk.i64_in _ (by omega)
  go_wp2_with fail
  go_region_held3 (fun w'=>w'.cell? ⟨pb,0,none⟩=some (.slice (some ⟨tb,0,none⟩) n cap)/\w'.cell? ⟨pb,1,none⟩=some (.int .i64 i)) (go_keep) (fail)
  clear hw
  go_wp2
  refine bodyPost_ret (v:=.agg #[.int .i64 (hd ts).kind,.string ⟨#[]⟩,.int .i64 o,.int .i64 l,.int .i64 c,.string (hd ts).text]) (by simp only[results,Tryz.results80];go_simp) rfl ⟨⟨o,l,c,rfl⟩,?_,?_⟩
  .have ha:adv ts=ts:=by
    match ts,hl with
    | [],_=>rfl
    | [_],_=>rfl
    | _::_::_,hl=>exact absurd (by simp) hl
   rw[ha]
   refine H.out.keep ?_ ?_
   .repeat' (with_reducible(first|exact HF.out|apply Fr.drew|apply Fr.alloc|apply Fr.set))
    all_goals first|exact .inl rfl|exact .inr (Nat.le_refl _)
   .simp only[pB]
    rw[eh _ _ _ (by simp only[af];omega)]
    simp only[fT _ _ _ _ _ ne2]
    exact HB1.out
  .repeat' (with_reducible(first|exact HF.out|apply Fr.drew|apply Fr.alloc|apply Fr.set))
   all_goals first|exact .inl rfl|exact .inr (Nat.le_refl _)
theorem ax(w:World)(pb tb:Nat)(ts:List Tok)(s:ByteArray)(v:Value)(h:PSt w pb tb ts) :
  Calls Tryz.prog 84 #[.pointer (some ⟨pb,0,none⟩),.string s,v] w fun e w'=>(∃ (t:TypeId) (u:Value),e = .returned (.iface t u))/\New w w':=by
 obtain⟨n,cap,i,o,l,c,p0,p1,c0,c1,c2,c3,c4,c5,q1,q2,q3,lt0,lt1⟩:=h.top
 clear h
 go_enter Tryz.func84,Tryz.ntmps84
 go_wp2
 go_region_held3 (fun w'=>w'.cell? ⟨pb,0,none⟩=some (.slice (some ⟨tb,0,none⟩) n cap)/\w'.cell? ⟨pb,1,none⟩=some (.int .i64 i)) (go_keep) (fail)
 go_wp2
 go_region_held3 (fun w'=>w'.cell? ⟨pb,0,none⟩=some (.slice (some ⟨tb,0,none⟩) n cap)/\w'.cell? ⟨pb,1,none⟩=some (.int .i64 i)/\w'.cell? ⟨tb,i * 6,none⟩=some (.int .i64 (hd ts).kind)/\w'.cell? ⟨tb,i * 6+1,none⟩=some (.string ⟨#[]⟩)
  /\ w'.cell? ⟨tb,i * 6+2,none⟩=some (.int .i64 o)/\w'.cell? ⟨tb,i * 6+3,none⟩=some (.int .i64 l)/\w'.cell? ⟨tb,i * 6+4,none⟩=some (.int .i64 c)/\w'.cell? ⟨tb,i * 6+5,none⟩=some (.string (hd ts).text)) (go_keep) (fail)
 go_wp2
 go_ret
 refine⟨⟨_,_,rfl⟩,?_⟩
 repeat' (with_reducible(first|exact Fr.refl _ _|apply Fr.drew|apply Fr.alloc))
theorem kK(w:World)(pb tb:Nat)(ts:List Tok)(s:ByteArray)(h:PSt w pb tb ts) :
  Calls Tryz.prog 64 #[.pointer (some ⟨pb,0,none⟩),.string s] w fun e w' =>
   (((hd ts).text.toList == s.toList)=true/\e = .returned .nilIface/\PSt w' pb tb (adv ts)/\Fr (· = pb) w w')\/(((hd ts).text.toList == s.toList)=false/\(∃ (t:TypeId) (u:Value),e = .returned (.iface t u))/\Fr (· = pb) w w'):=by
 have hlt:=h.lt
 have H:=hqZ h
 clear h
 go_enter Tryz.func64,Tryz.ntmps64
 go_wp2_with fail
 refine(ag _ pb tb ts H.out).mono ?_
 rintro e w1 ⟨⟨o,l,c,rfl⟩,hp,hf⟩
 have HP:=hqZ hp
 have HF:=hqZ hf
 obtain⟨k1,k2⟩:=hf.cells
 have hz:=hf.size
 clear hf hp
 cases hq:((hd ts).text.toList == s.toList)
 .go_wp2_with fail
  refine(ax _ pb tb _ _ _ (HP.out.new ?_)).mono ?_
  .repeat' (with_reducible(first|exact Fr.refl _ _|apply Fr.drew|apply Fr.alloc))
  rintro e w2 ⟨⟨t,u,rfl⟩,hf2⟩
  have HF2:=hqZ hf2
  clear hf2 k1 k2
  go_wp2_with fail
  go_ret
  refine .inr ⟨hq,⟨_,_,rfl⟩,HF.out.trans (Fr.trans ?_ HF2.out.ofNew)⟩
  repeat' (with_reducible(first|exact Fr.refl _ _|apply Fr.drew|apply Fr.alloc))
 .go_wp2
  go_ret
  refine .inl ⟨hq,rfl,HP.out.new ?_,HF.out.trans ?_⟩
  all_goals repeat' (with_reducible(first|exact Fr.refl _ _|apply Fr.drew|apply Fr.alloc))
theorem qM(w:World)(pb tb:Nat)(ts:List Tok)(s:ByteArray)(h:PSt w pb tb ts)(hq:((hd ts).text.toList == s.toList)=true) :
  Calls Tryz.prog 64 #[.pointer (some ⟨pb,0,none⟩),.string s] w fun e w'=>e = .returned .nilIface/\PSt w' pb tb (adv ts)/\Fr (· = pb) w w' :=
 (kK w pb tb ts s h).mono fun e w' hh=>by
  rcases hh with ⟨-,h1⟩|⟨h1,-⟩
  .exact h1
  .rw[hq]at h1;cases h1
theorem rJ(w:World)(pb tb:Nat)(ts:List Tok)(s:ByteArray)(h:PSt w pb tb ts)(hq:((hd ts).text.toList == s.toList)=false) :
  Calls Tryz.prog 64 #[.pointer (some ⟨pb,0,none⟩),.string s] w fun e w'=>(∃ (t:TypeId) (u:Value),e = .returned (.iface t u))/\Fr (· = pb) w w' :=
 (kK w pb tb ts s h).mono fun e w' hh=>by
  rcases hh with ⟨h1,-⟩|⟨-,h1⟩
  .rw[hq]at h1;cases h1
  .exact h1
theorem qX(w:World)(pb tb:Nat)(ts:List Tok)(s:ByteArray)(h:PSt w pb tb ts)(hq:((hd ts).text.toList == s.toList)=true) :
  Calls Tryz.prog 68 #[.pointer (some ⟨pb,0,none⟩),.string s] w fun e w' =>
   e = .returned (.tuple #[])/\PSt w' pb tb (adv ts)/\Fr (· = pb) w w':=by
 have H:=hqZ h
 clear h
 go_enter Tryz.func68,Tryz.ntmps68
 go_wp2_with fail
 refine(ay _ pb tb ts H.out).mono ?_
 rintro e w1 ⟨⟨o,l,c,rfl⟩,hf⟩
 have HP:=hqZ (H.out.new hf)
 have HF:=hqZ (Fr.ofNew (S:=(· = pb)) hf)
 clear hf
 go_wp2_with fail
 refine(ag _ pb tb ts (HP.out.new ?_)).mono ?_
 .repeat' (with_reducible(first|exact Fr.refl _ _|apply Fr.drew|apply Fr.alloc))
 rintro e w2 ⟨⟨o2,l2,c2,rfl⟩,hp2,hf2⟩
 have HP2:=hqZ hp2
 have HF2:=hqZ hf2
 clear hp2 hf2
 go_wp2
 go_end0
 refine⟨rfl,HP2.out.new ?_,HF.out.trans (Fr.trans ?_ (HF2.out.trans ?_))⟩
 all_goals repeat' (with_reducible(first|exact Fr.refl _ _|apply Fr.drew|apply Fr.alloc))
theorem skip_no(w:World)(pb tb:Nat)(ts:List Tok)(s:ByteArray)(h:PSt w pb tb ts)(hq:((hd ts).text.toList == s.toList)=false) :
  Calls Tryz.prog 68 #[.pointer (some ⟨pb,0,none⟩),.string s] w fun e w' =>
   e = .returned (.tuple #[])/\PSt w' pb tb ts/\Fr (· = pb) w w':=by
 have H:=hqZ h
 clear h
 go_enter Tryz.func68,Tryz.ntmps68
 go_wp2_with fail
 refine(ay _ pb tb ts H.out).mono ?_
 rintro e w1 ⟨⟨o,l,c,rfl⟩,hf⟩
 have HP:=hqZ (H.out.new hf)
 have HF:=hqZ (Fr.ofNew (S:=(· = pb)) hf)
 clear hf
 go_wp2
 go_end0
 refine⟨rfl,HP.out.new ?_,HF.out.trans ?_⟩
 all_goals repeat' (with_reducible(first|exact Fr.refl _ _|apply Fr.drew|apply Fr.alloc))
theorem aq(k o l c:Int)(f s:ByteArray)(w:World) :
  (Instr.field 95 (.agg #[.int .i64 k,.string f,.int .i64 o,.int .i64 l,.int .i64 c,.string s]) 2).run Tryz.prog w = .ok (.string s) w:=by kernel_rfl
end Go.Proofs.YtbdhlpeckennjaaGreatDoor
