/- FnLong (the proof that the law returns true for every input), part 29 of 52; the last part says what is proved, and its condition. -/
import Derived.Deep.QuietTactic
import Derived.BigQuiet
import Derived.Test.YtbdhlpeckennjaaGreatDoorM04
import Derived.Test.YtbdhlpeckennjaaGreatDoorM28
set_option linter.unusedVariables false
set_option linter.unusedSimpArgs false
set_option maxHeartbeats 80000000
set_option maxRecDepth 1000000
namespace Go.Proofs.YtbdhlpeckennjaaGreatDoor
open Go Go.RowKit
theorem fr_240(w:World)(g off cap n x0 x1 x2:Nat)(hn1:1<=n)(hmax:n<=1000000)(hcap:n<=cap)(hb:g < w.heap.size)(l0:x0 < 256)(l1:x1 < 256)(l2:x2 < 256)(c0:w.cell? ⟨g,off,none⟩=some (.int .u8 x0))(hc0:w.cell? ⟨0,x0,none⟩=some (.int .u8 240))
 (q1:1 < n->w.cell? ⟨g,off+1,none⟩=some (.int .u8 x1)) (q2:2 < n->w.cell? ⟨g,off+2,none⟩=some (.int .u8 x2)) (ha0:w.cell? ⟨1,30,none⟩=some (.int .u8 0)) (ha1:w.cell? ⟨1,31,none⟩=some (.int .u8 0)) (hX:Lib.firstT x0=240) :
 Calls Tryz.prog 136 #[.slice (some ⟨g,off,none⟩) n cap] w fun e w'=>e = .returned (.bool (cz n x0 x1 x2))/\New w w':=by
 have T0:=hqZ (Fr.refl (fun _=>False) w)
 unfold cz
 rw[if_neg (show ¬ n=0 by omega),hX,show Lib.accLo (240 / 16)=0 from rfl,show Lib.accHi (240 / 16)=0 from rfl]
 clear hX
 clear q1 q2 ha0 ha1
 rw[if_pos (show 240 % 8<=n by omega)]
 have hsz:(0:Int)<=(n:Int):=by omega
 go_enter Tryz.func136,Tryz.ntmps136
 go_wp2
 go_ret
 exact⟨by first|rfl|(simp;omega),by exact T0.out⟩
theorem fr_241(w:World)(g off cap n x0 x1 x2:Nat)(hn1:1<=n)(hmax:n<=1000000)(hcap:n<=cap)(hb:g < w.heap.size)(l0:x0 < 256)(l1:x1 < 256)(l2:x2 < 256)(c0:w.cell? ⟨g,off,none⟩=some (.int .u8 x0))(hc0:w.cell? ⟨0,x0,none⟩=some (.int .u8 241))
 (q1:1 < n->w.cell? ⟨g,off+1,none⟩=some (.int .u8 x1)) (q2:2 < n->w.cell? ⟨g,off+2,none⟩=some (.int .u8 x2)) (ha0:w.cell? ⟨1,30,none⟩=some (.int .u8 0)) (ha1:w.cell? ⟨1,31,none⟩=some (.int .u8 0)) (hX:Lib.firstT x0=241) :
 Calls Tryz.prog 136 #[.slice (some ⟨g,off,none⟩) n cap] w fun e w'=>e = .returned (.bool (cz n x0 x1 x2))/\New w w':=by
 have T0:=hqZ (Fr.refl (fun _=>False) w)
 unfold cz
 rw[if_neg (show ¬ n=0 by omega),hX,show Lib.accLo (241 / 16)=0 from rfl,show Lib.accHi (241 / 16)=0 from rfl]
 clear hX
 clear q1 q2 ha0 ha1
 rw[if_pos (show 241 % 8<=n by omega)]
 have hsz:(1:Int)<=(n:Int):=by omega
 go_enter Tryz.func136,Tryz.ntmps136
 go_wp2
 go_ret
 exact⟨by first|rfl|(simp;omega),by exact T0.out⟩
theorem fr_2(w:World)(g off cap n x0 x1 x2:Nat)(hn1:1<=n)(hmax:n<=1000000)(hcap:n<=cap)(hb:g < w.heap.size)(l0:x0 < 256)(l1:x1 < 256)(l2:x2 < 256)(c0:w.cell? ⟨g,off,none⟩=some (.int .u8 x0))(hc0:w.cell? ⟨0,x0,none⟩=some (.int .u8 2))
  (q1:1 < n->w.cell? ⟨g,off+1,none⟩=some (.int .u8 x1)) (q2:2 < n->w.cell? ⟨g,off+2,none⟩=some (.int .u8 x2)) (ha0:w.cell? ⟨1,0,none⟩=some (.int .u8 128)) (ha1:w.cell? ⟨1,1,none⟩=some (.int .u8 191)) (hX:Lib.firstT x0=2) :
  Calls Tryz.prog 136 #[.slice (some ⟨g,off,none⟩) n cap] w fun e w'=>e = .returned (.bool (cz n x0 x1 x2))/\New w w':=by
 have T0:=hqZ (Fr.refl (fun _=>False) w)
 unfold cz
 rw[if_neg (show ¬ n=0 by omega),hX,show Lib.accLo (2 / 16)=128 from rfl,show Lib.accHi (2 / 16)=191 from rfl]
 clear hX
 by_cases hs:2<=n
 case pos =>
  clear q1 q2 ha0 ha1
  rw[if_pos (show 2 % 8<=n by omega)]
  have hsz:(2:Int)<=(n:Int):=by omega
  go_enter Tryz.func136,Tryz.ntmps136
  go_wp2
  go_ret
  exact⟨by first|rfl|(simp;omega),by exact T0.out⟩
 rw[if_neg (show ¬ 2 % 8<=n by omega)]
 have hsz:¬ (2:Int)<=(n:Int):=by omega
 by_cases h1:n=1
 case pos =>
  subst h1
  clear q1 q2
  rw[if_neg (by omega)]
  go_enter Tryz.func136,Tryz.ntmps136
  go_wp2
  go_quiet (fail)
  go_wp2
  go_ret
  exact⟨by first|rfl|(simp;omega),by exact((T0.out.alloc _).drewN _)⟩
 exact absurd (show n=1 by omega) h1
theorem fr_19(w:World)(g off cap n x0 x1 x2:Nat)(hn1:1<=n)(hmax:n<=1000000)(hcap:n<=cap)(hb:g < w.heap.size)(l0:x0 < 256)(l1:x1 < 256)(l2:x2 < 256)(c0:w.cell? ⟨g,off,none⟩=some (.int .u8 x0))(hc0:w.cell? ⟨0,x0,none⟩=some (.int .u8 19))
  (q1:1 < n->w.cell? ⟨g,off+1,none⟩=some (.int .u8 x1)) (q2:2 < n->w.cell? ⟨g,off+2,none⟩=some (.int .u8 x2)) (ha0:w.cell? ⟨1,2,none⟩=some (.int .u8 160)) (ha1:w.cell? ⟨1,3,none⟩=some (.int .u8 191)) (hX:Lib.firstT x0=19) :
  Calls Tryz.prog 136 #[.slice (some ⟨g,off,none⟩) n cap] w fun e w'=>e = .returned (.bool (cz n x0 x1 x2))/\New w w':=by
 have T0:=hqZ (Fr.refl (fun _=>False) w)
 unfold cz
 rw[if_neg (show ¬ n=0 by omega),hX,show Lib.accLo (19 / 16)=160 from rfl,show Lib.accHi (19 / 16)=191 from rfl]
 clear hX
 by_cases hs:3<=n
 case pos =>
  clear q1 q2 ha0 ha1
  rw[if_pos (show 19 % 8<=n by omega)]
  have hsz:(3:Int)<=(n:Int):=by omega
  go_enter Tryz.func136,Tryz.ntmps136
  go_wp2
  go_ret
  exact⟨by first|rfl|(simp;omega),by exact T0.out⟩
 rw[if_neg (show ¬ 19 % 8<=n by omega)]
 have hsz:¬ (3:Int)<=(n:Int):=by omega
 by_cases h1:n=1
 case pos =>
  subst h1
  clear q1 q2
  rw[if_neg (by omega)]
  go_enter Tryz.func136,Tryz.ntmps136
  go_wp2
  go_quiet (fail)
  go_wp2
  go_ret
  exact⟨by first|rfl|(simp;omega),by exact((T0.out.alloc _).drewN _)⟩
 have q1:=q1 (by omega)
 have g1:(1:Int) < (n:Int):=by omega
 have d0:decide ((1:Int) < (n:Int))=true:=by simp;omega
 by_cases hlo:x1 < 160
 case pos =>
  clear q2
  rw[if_pos (by omega)]
  have d1:decide ((x1:Int) < 160)=true:=by simp;omega
  go_enter Tryz.func136,Tryz.ntmps136
  go_wp2
  go_quiet (fail)
  go_wp2
  go_ret
  exact⟨by first|rfl|(simp;omega),by exact((T0.out.alloc _).drewN _)⟩
 by_cases hhi:191 < x1
 case pos =>
  clear q2
  rw[if_pos (by omega)]
  have d1:decide ((x1:Int) < 160)=false:=by simp;omega
  have d2:decide ((191:Int) < (x1:Int))=true:=by simp;omega
  go_enter Tryz.func136,Tryz.ntmps136
  go_wp2
  go_quiet (fail)
  go_wp2
  go_ret
  exact⟨by first|rfl|(simp;omega),by exact((T0.out.alloc _).drewN _)⟩
 rw[if_neg (by omega)]
 have d1:decide ((x1:Int) < 160)=false:=by simp;omega
 have d2:decide ((191:Int) < (x1:Int))=false:=by simp;omega
 by_cases h2:n=2
 case pos =>
  subst h2
  clear q2
  go_enter Tryz.func136,Tryz.ntmps136
  go_wp2
  go_quiet (fail)
  go_wp2
  go_ret
  exact⟨by first|rfl|(simp;omega),by exact((T0.out.alloc _).drewN _)⟩
 exact absurd (show n=2 by omega) h2
theorem fr_3(w:World)(g off cap n x0 x1 x2:Nat)(hn1:1<=n)(hmax:n<=1000000)(hcap:n<=cap)(hb:g < w.heap.size)(l0:x0 < 256)(l1:x1 < 256)(l2:x2 < 256)(c0:w.cell? ⟨g,off,none⟩=some (.int .u8 x0))(hc0:w.cell? ⟨0,x0,none⟩=some (.int .u8 3))
  (q1:1 < n->w.cell? ⟨g,off+1,none⟩=some (.int .u8 x1)) (q2:2 < n->w.cell? ⟨g,off+2,none⟩=some (.int .u8 x2)) (ha0:w.cell? ⟨1,0,none⟩=some (.int .u8 128)) (ha1:w.cell? ⟨1,1,none⟩=some (.int .u8 191)) (hX:Lib.firstT x0=3) :
  Calls Tryz.prog 136 #[.slice (some ⟨g,off,none⟩) n cap] w fun e w'=>e = .returned (.bool (cz n x0 x1 x2))/\New w w':=by
 have T0:=hqZ (Fr.refl (fun _=>False) w)
 unfold cz
 rw[if_neg (show ¬ n=0 by omega),hX,show Lib.accLo (3 / 16)=128 from rfl,show Lib.accHi (3 / 16)=191 from rfl]
 clear hX
 by_cases hs:3<=n
 case pos =>
  clear q1 q2 ha0 ha1
  rw[if_pos (show 3 % 8<=n by omega)]
  have hsz:(3:Int)<=(n:Int):=by omega
  go_enter Tryz.func136,Tryz.ntmps136
  go_wp2
  go_ret
  exact⟨by first|rfl|(simp;omega),by exact T0.out⟩
 rw[if_neg (show ¬ 3 % 8<=n by omega)]
 have hsz:¬ (3:Int)<=(n:Int):=by omega
 by_cases h1:n=1
 case pos =>
  subst h1
  clear q1 q2
  rw[if_neg (by omega)]
  go_enter Tryz.func136,Tryz.ntmps136
  go_wp2
  go_quiet (fail)
  go_wp2
  go_ret
  exact⟨by first|rfl|(simp;omega),by exact((T0.out.alloc _).drewN _)⟩
 have q1:=q1 (by omega)
 have g1:(1:Int) < (n:Int):=by omega
 have d0:decide ((1:Int) < (n:Int))=true:=by simp;omega
 by_cases hlo:x1 < 128
 case pos =>
  clear q2
  rw[if_pos (by omega)]
  have d1:decide ((x1:Int) < 128)=true:=by simp;omega
  go_enter Tryz.func136,Tryz.ntmps136
  go_wp2
  go_quiet (fail)
  go_wp2
  go_ret
  exact⟨by first|rfl|(simp;omega),by exact((T0.out.alloc _).drewN _)⟩
 by_cases hhi:191 < x1
 case pos =>
  clear q2
  rw[if_pos (by omega)]
  have d1:decide ((x1:Int) < 128)=false:=by simp;omega
  have d2:decide ((191:Int) < (x1:Int))=true:=by simp;omega
  go_enter Tryz.func136,Tryz.ntmps136
  go_wp2
  go_quiet (fail)
  go_wp2
  go_ret
  exact⟨by first|rfl|(simp;omega),by exact((T0.out.alloc _).drewN _)⟩
 rw[if_neg (by omega)]
 have d1:decide ((x1:Int) < 128)=false:=by simp;omega
 have d2:decide ((191:Int) < (x1:Int))=false:=by simp;omega
 by_cases h2:n=2
 case pos =>
  subst h2
  clear q2
  go_enter Tryz.func136,Tryz.ntmps136
  go_wp2
  go_quiet (fail)
  go_wp2
  go_ret
  exact⟨by first|rfl|(simp;omega),by exact((T0.out.alloc _).drewN _)⟩
 exact absurd (show n=2 by omega) h2
theorem fr_35(w:World)(g off cap n x0 x1 x2:Nat)(hn1:1<=n)(hmax:n<=1000000)(hcap:n<=cap)(hb:g < w.heap.size)(l0:x0 < 256)(l1:x1 < 256)(l2:x2 < 256)(c0:w.cell? ⟨g,off,none⟩=some (.int .u8 x0))(hc0:w.cell? ⟨0,x0,none⟩=some (.int .u8 35))
  (q1:1 < n->w.cell? ⟨g,off+1,none⟩=some (.int .u8 x1)) (q2:2 < n->w.cell? ⟨g,off+2,none⟩=some (.int .u8 x2)) (ha0:w.cell? ⟨1,4,none⟩=some (.int .u8 128)) (ha1:w.cell? ⟨1,5,none⟩=some (.int .u8 159)) (hX:Lib.firstT x0=35) :
  Calls Tryz.prog 136 #[.slice (some ⟨g,off,none⟩) n cap] w fun e w'=>e = .returned (.bool (cz n x0 x1 x2))/\New w w':=by
 have T0:=hqZ (Fr.refl (fun _=>False) w)
 unfold cz
 rw[if_neg (show ¬ n=0 by omega),hX,show Lib.accLo (35 / 16)=128 from rfl,show Lib.accHi (35 / 16)=159 from rfl]
 clear hX
 by_cases hs:3<=n
 case pos =>
  clear q1 q2 ha0 ha1
  rw[if_pos (show 35 % 8<=n by omega)]
  have hsz:(3:Int)<=(n:Int):=by omega
  go_enter Tryz.func136,Tryz.ntmps136
  go_wp2
  go_ret
  exact⟨by first|rfl|(simp;omega),by exact T0.out⟩
 rw[if_neg (show ¬ 35 % 8<=n by omega)]
 have hsz:¬ (3:Int)<=(n:Int):=by omega
 by_cases h1:n=1
 case pos =>
  subst h1
  clear q1 q2
  rw[if_neg (by omega)]
  go_enter Tryz.func136,Tryz.ntmps136
  go_wp2
  go_quiet (fail)
  go_wp2
  go_ret
  exact⟨by first|rfl|(simp;omega),by exact((T0.out.alloc _).drewN _)⟩
 have q1:=q1 (by omega)
 have g1:(1:Int) < (n:Int):=by omega
 have d0:decide ((1:Int) < (n:Int))=true:=by simp;omega
 by_cases hlo:x1 < 128
 case pos =>
  clear q2
  rw[if_pos (by omega)]
  have d1:decide ((x1:Int) < 128)=true:=by simp;omega
  go_enter Tryz.func136,Tryz.ntmps136
  go_wp2
  go_quiet (fail)
  go_wp2
  go_ret
  exact⟨by first|rfl|(simp;omega),by exact((T0.out.alloc _).drewN _)⟩
 by_cases hhi:159 < x1
 case pos =>
  clear q2
  rw[if_pos (by omega)]
  have d1:decide ((x1:Int) < 128)=false:=by simp;omega
  have d2:decide ((159:Int) < (x1:Int))=true:=by simp;omega
  go_enter Tryz.func136,Tryz.ntmps136
  go_wp2
  go_quiet (fail)
  go_wp2
  go_ret
  exact⟨by first|rfl|(simp;omega),by exact((T0.out.alloc _).drewN _)⟩
 rw[if_neg (by omega)]
 have d1:decide ((x1:Int) < 128)=false:=by simp;omega
 have d2:decide ((159:Int) < (x1:Int))=false:=by simp;omega
 by_cases h2:n=2
 case pos =>
  subst h2
  clear q2
  go_enter Tryz.func136,Tryz.ntmps136
  go_wp2
  go_quiet (fail)
  go_wp2
  go_ret
  exact⟨by first|rfl|(simp;omega),by exact((T0.out.alloc _).drewN _)⟩
 exact absurd (show n=2 by omega) h2
theorem fr_52(w:World)(g off cap n x0 x1 x2:Nat)(hn1:1<=n)(hmax:n<=1000000)(hcap:n<=cap)(hb:g < w.heap.size)(l0:x0 < 256)(l1:x1 < 256)(l2:x2 < 256)(c0:w.cell? ⟨g,off,none⟩=some (.int .u8 x0))(hc0:w.cell? ⟨0,x0,none⟩=some (.int .u8 52))
  (q1:1 < n->w.cell? ⟨g,off+1,none⟩=some (.int .u8 x1)) (q2:2 < n->w.cell? ⟨g,off+2,none⟩=some (.int .u8 x2)) (ha0:w.cell? ⟨1,6,none⟩=some (.int .u8 144)) (ha1:w.cell? ⟨1,7,none⟩=some (.int .u8 191)) (hX:Lib.firstT x0=52) :
  Calls Tryz.prog 136 #[.slice (some ⟨g,off,none⟩) n cap] w fun e w'=>e = .returned (.bool (cz n x0 x1 x2))/\New w w':=by
 have T0:=hqZ (Fr.refl (fun _=>False) w)
 unfold cz
 rw[if_neg (show ¬ n=0 by omega),hX,show Lib.accLo (52 / 16)=144 from rfl,show Lib.accHi (52 / 16)=191 from rfl]
 clear hX
 by_cases hs:4<=n
 case pos =>
  clear q1 q2 ha0 ha1
  rw[if_pos (show 52 % 8<=n by omega)]
  have hsz:(4:Int)<=(n:Int):=by omega
  go_enter Tryz.func136,Tryz.ntmps136
  go_wp2
  go_ret
  exact⟨by first|rfl|(simp;omega),by exact T0.out⟩
 rw[if_neg (show ¬ 52 % 8<=n by omega)]
 have hsz:¬ (4:Int)<=(n:Int):=by omega
 by_cases h1:n=1
 case pos =>
  subst h1
  clear q1 q2
  rw[if_neg (by omega)]
  go_enter Tryz.func136,Tryz.ntmps136
  go_wp2
  go_quiet (fail)
  go_wp2
  go_ret
  exact⟨by first|rfl|(simp;omega),by exact((T0.out.alloc _).drewN _)⟩
 have q1:=q1 (by omega)
 have g1:(1:Int) < (n:Int):=by omega
 have d0:decide ((1:Int) < (n:Int))=true:=by simp;omega
 by_cases hlo:x1 < 144
 case pos =>
  clear q2
  rw[if_pos (by omega)]
  have d1:decide ((x1:Int) < 144)=true:=by simp;omega
  go_enter Tryz.func136,Tryz.ntmps136
  go_wp2
  go_quiet (fail)
  go_wp2
  go_ret
  exact⟨by first|rfl|(simp;omega),by exact((T0.out.alloc _).drewN _)⟩
 by_cases hhi:191 < x1
 case pos =>
  clear q2
  rw[if_pos (by omega)]
  have d1:decide ((x1:Int) < 144)=false:=by simp;omega
  have d2:decide ((191:Int) < (x1:Int))=true:=by simp;omega
  go_enter Tryz.func136,Tryz.ntmps136
  go_wp2
  go_quiet (fail)
  go_wp2
  go_ret
  exact⟨by first|rfl|(simp;omega),by exact((T0.out.alloc _).drewN _)⟩
 rw[if_neg (by omega)]
 have d1:decide ((x1:Int) < 144)=false:=by simp;omega
 have d2:decide ((191:Int) < (x1:Int))=false:=by simp;omega
 by_cases h2:n=2
 case pos =>
  subst h2
  clear q2
  go_enter Tryz.func136,Tryz.ntmps136
  go_wp2
  go_quiet (fail)
  go_wp2
  go_ret
  exact⟨by first|rfl|(simp;omega),by exact((T0.out.alloc _).drewN _)⟩
 have q2:=q2 (by omega)
 have h3:n=3:=by omega
 subst h3
 by_cases e1:x2 < 128
 case pos =>
  have d3:decide ((x2:Int) < 128)=true:=by simp;omega
  go_enter Tryz.func136,Tryz.ntmps136
  go_wp2
  go_quiet (fail)
  go_wp2
  go_ret
  exact⟨by first|rfl|(simp;omega),by exact((T0.out.alloc _).drewN _)⟩
 have d3:decide ((x2:Int) < 128)=false:=by simp;omega
 by_cases e2:191 < x2
 case pos =>
  have d4:decide ((191:Int) < (x2:Int))=true:=by simp;omega
  go_enter Tryz.func136,Tryz.ntmps136
  go_wp2
  go_quiet (fail)
  go_wp2
  go_ret
  exact⟨by first|rfl|(simp;omega),by exact((T0.out.alloc _).drewN _)⟩
 have d4:decide ((191:Int) < (x2:Int))=false:=by simp;omega
 go_enter Tryz.func136,Tryz.ntmps136
 go_wp2
 go_quiet (fail)
 go_wp2
 go_ret
 exact⟨by first|rfl|(simp;omega),by exact((T0.out.alloc _).drewN _)⟩
theorem fr_4(w:World)(g off cap n x0 x1 x2:Nat)(hn1:1<=n)(hmax:n<=1000000)(hcap:n<=cap)(hb:g < w.heap.size)(l0:x0 < 256)(l1:x1 < 256)(l2:x2 < 256)(c0:w.cell? ⟨g,off,none⟩=some (.int .u8 x0))(hc0:w.cell? ⟨0,x0,none⟩=some (.int .u8 4))
  (q1:1 < n->w.cell? ⟨g,off+1,none⟩=some (.int .u8 x1)) (q2:2 < n->w.cell? ⟨g,off+2,none⟩=some (.int .u8 x2)) (ha0:w.cell? ⟨1,0,none⟩=some (.int .u8 128)) (ha1:w.cell? ⟨1,1,none⟩=some (.int .u8 191)) (hX:Lib.firstT x0=4) :
  Calls Tryz.prog 136 #[.slice (some ⟨g,off,none⟩) n cap] w fun e w'=>e = .returned (.bool (cz n x0 x1 x2))/\New w w':=by
 have T0:=hqZ (Fr.refl (fun _=>False) w)
 unfold cz
 rw[if_neg (show ¬ n=0 by omega),hX,show Lib.accLo (4 / 16)=128 from rfl,show Lib.accHi (4 / 16)=191 from rfl]
 clear hX
 by_cases hs:4<=n
 case pos =>
  clear q1 q2 ha0 ha1
  rw[if_pos (show 4 % 8<=n by omega)]
  have hsz:(4:Int)<=(n:Int):=by omega
  go_enter Tryz.func136,Tryz.ntmps136
  go_wp2
  go_ret
  exact⟨by first|rfl|(simp;omega),by exact T0.out⟩
 rw[if_neg (show ¬ 4 % 8<=n by omega)]
 have hsz:¬ (4:Int)<=(n:Int):=by omega
 by_cases h1:n=1
 case pos =>
  subst h1
  clear q1 q2
  rw[if_neg (by omega)]
  go_enter Tryz.func136,Tryz.ntmps136
  go_wp2
  go_quiet (fail)
  go_wp2
  go_ret
  exact⟨by first|rfl|(simp;omega),by exact((T0.out.alloc _).drewN _)⟩
 have q1:=q1 (by omega)
 have g1:(1:Int) < (n:Int):=by omega
 have d0:decide ((1:Int) < (n:Int))=true:=by simp;omega
 by_cases hlo:x1 < 128
 case pos =>
  clear q2
  rw[if_pos (by omega)]
  have d1:decide ((x1:Int) < 128)=true:=by simp;omega
  go_enter Tryz.func136,Tryz.ntmps136
  go_wp2
  go_quiet (fail)
  go_wp2
  go_ret
  exact⟨by first|rfl|(simp;omega),by exact((T0.out.alloc _).drewN _)⟩
 by_cases hhi:191 < x1
 case pos =>
  clear q2
  rw[if_pos (by omega)]
  have d1:decide ((x1:Int) < 128)=false:=by simp;omega
  have d2:decide ((191:Int) < (x1:Int))=true:=by simp;omega
  go_enter Tryz.func136,Tryz.ntmps136
  go_wp2
  go_quiet (fail)
  go_wp2
  go_ret
  exact⟨by first|rfl|(simp;omega),by exact((T0.out.alloc _).drewN _)⟩
 rw[if_neg (by omega)]
 have d1:decide ((x1:Int) < 128)=false:=by simp;omega
 have d2:decide ((191:Int) < (x1:Int))=false:=by simp;omega
 by_cases h2:n=2
 case pos =>
  subst h2
  clear q2
  go_enter Tryz.func136,Tryz.ntmps136
  go_wp2
  go_quiet (fail)
  go_wp2
  go_ret
  exact⟨by first|rfl|(simp;omega),by exact((T0.out.alloc _).drewN _)⟩
 have q2:=q2 (by omega)
 have h3:n=3:=by omega
 subst h3
 by_cases e1:x2 < 128
 case pos =>
  have d3:decide ((x2:Int) < 128)=true:=by simp;omega
  go_enter Tryz.func136,Tryz.ntmps136
  go_wp2
  go_quiet (fail)
  go_wp2
  go_ret
  exact⟨by first|rfl|(simp;omega),by exact((T0.out.alloc _).drewN _)⟩
 have d3:decide ((x2:Int) < 128)=false:=by simp;omega
 by_cases e2:191 < x2
 case pos =>
  have d4:decide ((191:Int) < (x2:Int))=true:=by simp;omega
  go_enter Tryz.func136,Tryz.ntmps136
  go_wp2
  go_quiet (fail)
  go_wp2
  go_ret
  exact⟨by first|rfl|(simp;omega),by exact((T0.out.alloc _).drewN _)⟩
 have d4:decide ((191:Int) < (x2:Int))=false:=by simp;omega
 go_enter Tryz.func136,Tryz.ntmps136
 go_wp2
 go_quiet (fail)
 go_wp2
 go_ret
 exact⟨by first|rfl|(simp;omega),by exact((T0.out.alloc _).drewN _)⟩
theorem fr_68(w:World)(g off cap n x0 x1 x2:Nat)(hn1:1<=n)(hmax:n<=1000000)(hcap:n<=cap)(hb:g < w.heap.size)(l0:x0 < 256)(l1:x1 < 256)(l2:x2 < 256)(c0:w.cell? ⟨g,off,none⟩=some (.int .u8 x0))(hc0:w.cell? ⟨0,x0,none⟩=some (.int .u8 68))
  (q1:1 < n->w.cell? ⟨g,off+1,none⟩=some (.int .u8 x1)) (q2:2 < n->w.cell? ⟨g,off+2,none⟩=some (.int .u8 x2)) (ha0:w.cell? ⟨1,8,none⟩=some (.int .u8 128)) (ha1:w.cell? ⟨1,9,none⟩=some (.int .u8 143)) (hX:Lib.firstT x0=68) :
  Calls Tryz.prog 136 #[.slice (some ⟨g,off,none⟩) n cap] w fun e w'=>e = .returned (.bool (cz n x0 x1 x2))/\New w w':=by
 have T0:=hqZ (Fr.refl (fun _=>False) w)
 unfold cz
 rw[if_neg (show ¬ n=0 by omega),hX,show Lib.accLo (68 / 16)=128 from rfl,show Lib.accHi (68 / 16)=143 from rfl]
 clear hX
 by_cases hs:4<=n
 case pos =>
  clear q1 q2 ha0 ha1
  rw[if_pos (show 68 % 8<=n by omega)]
  have hsz:(4:Int)<=(n:Int):=by omega
  go_enter Tryz.func136,Tryz.ntmps136
  go_wp2
  go_ret
  exact⟨by first|rfl|(simp;omega),by exact T0.out⟩
 rw[if_neg (show ¬ 68 % 8<=n by omega)]
 have hsz:¬ (4:Int)<=(n:Int):=by omega
 by_cases h1:n=1
 case pos =>
  subst h1
  clear q1 q2
  rw[if_neg (by omega)]
  go_enter Tryz.func136,Tryz.ntmps136
  go_wp2
  go_quiet (fail)
  go_wp2
  go_ret
  exact⟨by first|rfl|(simp;omega),by exact((T0.out.alloc _).drewN _)⟩
 have q1:=q1 (by omega)
 have g1:(1:Int) < (n:Int):=by omega
 have d0:decide ((1:Int) < (n:Int))=true:=by simp;omega
 by_cases hlo:x1 < 128
 case pos =>
  clear q2
  rw[if_pos (by omega)]
  have d1:decide ((x1:Int) < 128)=true:=by simp;omega
  go_enter Tryz.func136,Tryz.ntmps136
  go_wp2
  go_quiet (fail)
  go_wp2
  go_ret
  exact⟨by first|rfl|(simp;omega),by exact((T0.out.alloc _).drewN _)⟩
 by_cases hhi:143 < x1
 case pos =>
  clear q2
  rw[if_pos (by omega)]
  have d1:decide ((x1:Int) < 128)=false:=by simp;omega
  have d2:decide ((143:Int) < (x1:Int))=true:=by simp;omega
  go_enter Tryz.func136,Tryz.ntmps136
  go_wp2
  go_quiet (fail)
  go_wp2
  go_ret
  exact⟨by first|rfl|(simp;omega),by exact((T0.out.alloc _).drewN _)⟩
 rw[if_neg (by omega)]
 have d1:decide ((x1:Int) < 128)=false:=by simp;omega
 have d2:decide ((143:Int) < (x1:Int))=false:=by simp;omega
 by_cases h2:n=2
 case pos =>
  subst h2
  clear q2
  go_enter Tryz.func136,Tryz.ntmps136
  go_wp2
  go_quiet (fail)
  go_wp2
  go_ret
  exact⟨by first|rfl|(simp;omega),by exact((T0.out.alloc _).drewN _)⟩
 have q2:=q2 (by omega)
 have h3:n=3:=by omega
 subst h3
 by_cases e1:x2 < 128
 case pos =>
  have d3:decide ((x2:Int) < 128)=true:=by simp;omega
  go_enter Tryz.func136,Tryz.ntmps136
  go_wp2
  go_quiet (fail)
  go_wp2
  go_ret
  exact⟨by first|rfl|(simp;omega),by exact((T0.out.alloc _).drewN _)⟩
 have d3:decide ((x2:Int) < 128)=false:=by simp;omega
 by_cases e2:191 < x2
 case pos =>
  have d4:decide ((191:Int) < (x2:Int))=true:=by simp;omega
  go_enter Tryz.func136,Tryz.ntmps136
  go_wp2
  go_quiet (fail)
  go_wp2
  go_ret
  exact⟨by first|rfl|(simp;omega),by exact((T0.out.alloc _).drewN _)⟩
 have d4:decide ((191:Int) < (x2:Int))=false:=by simp;omega
 go_enter Tryz.func136,Tryz.ntmps136
 go_wp2
 go_quiet (fail)
 go_wp2
 go_ret
 exact⟨by first|rfl|(simp;omega),by exact((T0.out.alloc _).drewN _)⟩
theorem lG(w:World)(g off cap:Nat)(A:List UInt8)(hp:∀ j b,A[j]? = some b->w.cell? ⟨g,off+j,none⟩=some (.int .u8 b.toNat))(hg:Glob w)(hmax:A.length<=1000000)(hcap:A.length<=cap) :
  Calls Tryz.prog 136 #[.slice (some ⟨g,off,none⟩) A.length cap] w fun e w'=>e = .returned (.bool (jt A))/\New w w':=by
 have T0:=hqZ (Fr.refl (fun _=>False) w)
 cases A with
 | nil =>
  clear hp hg
  go_enter Tryz.func136,Tryz.ntmps136
  go_wp2
  go_ret
  exact⟨rfl,by exact T0.out⟩
 | cons b0 r =>
  have hT:=hg.1
  have c0:w.cell? ⟨g,off,none⟩=some (.int .u8 b0.toNat):=hp 0 b0 rfl
  have hb:=World.block_lt_of_cell? w _ c0
  have l0:=b0.toNat_lt
  have hc0:=hT.1 b0.toNat (by omega)
  have HP:∀ j,j < (b0::r).length->w.cell? ⟨g,off+j,none⟩=some (.int .u8 ((b0::r).getD j 0).toNat):=fun j hj=>by
   refine hp j _ ?_
   rw[List.getElem?_eq_getElem hj,List.getD_eq_getElem?_getD,List.getElem?_eq_getElem hj];rfl
  have q1:=HP 1
  have q2:=HP 2
  have l1:=((b0::r).getD 1 0).toNat_lt
  have l2:=((b0::r).getD 2 0).toNat_lt
  have hn1:1<=(b0::r).length:=by simp
  have hB:jt (b0::r)=cz (b0::r).length b0.toNat ((b0::r).getD 1 0).toNat ((b0::r).getD 2 0).toNat:=rfl
  rw[hB]
  have A0:=fun i hi=>(hT.2 i hi).1
  have A1:=fun i hi=>(hT.2 i hi).2
  rcases Lib.firstT_cases b0.toNat with hX|hX|hX|hX|hX|hX|hX|hX|hX <;> rw[hX]at hc0
  .exact fr_240 _ _ _ _ _ _ _ _ hn1 hmax hcap hb l0 l1 l2 c0 hc0 q1 q2 (A0 15 (by omega)) (A1 15 (by omega)) hX
  .exact fr_241 _ _ _ _ _ _ _ _ hn1 hmax hcap hb l0 l1 l2 c0 hc0 q1 q2 (A0 15 (by omega)) (A1 15 (by omega)) hX
  .exact fr_2 _ _ _ _ _ _ _ _ hn1 hmax hcap hb l0 l1 l2 c0 hc0 q1 q2 (A0 0 (by omega)) (A1 0 (by omega)) hX
  .exact fr_19 _ _ _ _ _ _ _ _ hn1 hmax hcap hb l0 l1 l2 c0 hc0 q1 q2 (A0 1 (by omega)) (A1 1 (by omega)) hX
  .exact fr_3 _ _ _ _ _ _ _ _ hn1 hmax hcap hb l0 l1 l2 c0 hc0 q1 q2 (A0 0 (by omega)) (A1 0 (by omega)) hX
  .exact fr_35 _ _ _ _ _ _ _ _ hn1 hmax hcap hb l0 l1 l2 c0 hc0 q1 q2 (A0 2 (by omega)) (A1 2 (by omega)) hX
  .exact fr_52 _ _ _ _ _ _ _ _ hn1 hmax hcap hb l0 l1 l2 c0 hc0 q1 q2 (A0 3 (by omega)) (A1 3 (by omega)) hX
  .exact fr_4 _ _ _ _ _ _ _ _ hn1 hmax hcap hb l0 l1 l2 c0 hc0 q1 q2 (A0 0 (by omega)) (A1 0 (by omega)) hX
  .exact fr_68 _ _ _ _ _ _ _ _ hn1 hmax hcap hb l0 l1 l2 c0 hc0 q1 q2 (A0 4 (by omega)) (A1 4 (by omega)) hX
end Go.Proofs.YtbdhlpeckennjaaGreatDoor
