/- Whole numbers (bigall/int. -/
import Derived.Test.YtcpjclakdpjjfaaGreatDoorC11
import Derived.Test.YtcpjclakdpjjfaaGreatDoorC09
import Derived.Test.YtcpjclakdpjjfaaGreatDoorC14
set_option maxHeartbeats 1600000
set_option maxRecDepth 10000
namespace Go.Proofs.YtcpjclakdpjjfaaGreatDoor
open Go.RowKit Wd
def sgnI (n:Int):Int:=if n<0 then -1 else if n=0 then 0 else 1
theorem int_sign (b:Nat) (s:Option Int) (n:Int) (v:Value) (w:World) (h:IA w b s n v):
 Calls Tryz.prog 111 #[.pointer (some ⟨b,0,none⟩)] w fun e w'=>e=.returned (.int .i64 (sgnI n))∧w=w':=by
 obtain⟨a,l,c,rfl,hl,_⟩:=h.nv.len
 have c1:=h.abs
 have c0:=h.neg
 by_cases h0:n=0
 ·have t:((l:Int)==0)=true:=by simp;omega
  have e0:sgnI n=0:=by simp[sgnI,h0]
  rw[e0]
  clear hl h0 e0 h
  go_enter Tryz.func111,Tryz.ntmps111
  go_wp2_with fail
  go_ret
  exact⟨rfl,rfl⟩
 ·have t:((l:Int)==0)=false:=by simp;omega
  by_cases hn:n<0
  ·have e0:sgnI n=-1:=by simp[sgnI,hn]
   rw[show decide (n<0)=true by simpa using hn] at c0
   rw[e0]
   clear hl h0 e0 h hn
   go_enter Tryz.func111,Tryz.ntmps111
   go_wp2_with fail
   go_ret
   exact⟨rfl,rfl⟩
  ·have e0:sgnI n=1:=by simp[sgnI,hn,h0]
   rw[show decide (n<0)=false by simpa using hn] at c0
   rw[e0]
   clear hl h0 e0 h hn
   go_enter Tryz.func111,Tryz.ntmps111
   go_wp2_with fail
   go_ret
   exact⟨rfl,rfl⟩
theorem low_word {l:Nat} {ws:List Nat} (h0:0<l) (hl:l≤ws.length) (hw:WL ws):val (ws.take l)%B=wat ws 0:=by
 cases ws with
 |nil=>simp at hl;omega
 |cons x r=>
  obtain⟨k,rfl⟩:∃k,l=k+1:=⟨l-1,by omega⟩
  rw[List.take_succ_cons,val_cons]
  have hx:=hw x (List.mem_cons_self ..)
  rw[Nat.add_mul_mod_self_left,Nat.mod_eq_of_lt hx];rfl
theorem low64_calls (v:Value) (n:Nat) (w:World) (h:Nv w v n):
 Calls Tryz.prog 135 #[v] w fun e w'=>e=.returned (.int .u64 ((n%B:Nat):Int))∧w=w':=by
 have zero:∀(a:Option Addr) (c:Nat),Calls Tryz.prog 135 #[.slice a 0 c] w fun e w'=>e=.returned (.int .u64 0)∧w=w':=fun a c=>by
  go_enter Tryz.func135,Tryz.ntmps135
  go_wp2_with fail
  go_ret
  exact⟨rfl,rfl⟩
 rcases h with ⟨rfl,rfl⟩|⟨b,l,ws,rfl,h2,h3,h4,h5⟩
 ·rw[Nat.zero_mod];exact zero none 0
 ·rcases Nat.eq_zero_or_pos l with rfl|hl
  ·have:n=0:=(Nv.eq_zero h4 h5 h3).2 rfl
   rw[this,Nat.zero_mod];exact zero _ _
  ·have e:=low_word hl h3 h2.wl
   rw[h5] at e
   rw[e]
   have c:=h2.cell (i:=0) (by omega)
   have t:((l:Int)==0)=false:=by simp;omega
   clear h4 h5 e h2
   go_enter Tryz.func135,Tryz.ntmps135
   go_wp2_with fail
   go_ret
   exact⟨rfl,rfl⟩
theorem int64_word (n:Int):wrap64 ((n.natAbs%B:Nat):Int)=wrap64 (n.natAbs:Int):=by
 rw[B_eq];unfold wrap64;omega
theorem int64_neg (n:Int) (h:n<0):wrap64 (-wrap64 (n.natAbs:Int))=wrap64 n:=by
 unfold wrap64;omega
theorem int_int64 (b:Nat) (s:Option Int) (n:Int) (v:Value) (w:World) (h:IA w b s n v):
 Calls Tryz.prog 113 #[.pointer (some ⟨b,0,none⟩)] w fun e w'=>e=.returned (.int .i64 (wrap64 n))∧w=w':=by
 obtain⟨a,l,c,rfl,hl,_⟩:=h.nv.len
 have c1:=h.abs
 have c0:=h.neg
 have HL:=Lh (low64_calls _ _ _ h.nv)
 have W1:=Lh (int64_word n)
 have W2:=Lh (int64_neg n)
 by_cases hn:n<0
 ·rw[show decide (n<0)=true by simpa using hn] at c0
  clear h hl
  go_enter Tryz.func113,Tryz.ntmps113
  go_wp2_with fail
  refine HL.out.mono ?_
  rintro e w1 ⟨rfl,rfl⟩
  go_wp2_with fail
  go_ret
  exact⟨by rw[←W2.out hn,←W1.out];rfl,rfl⟩
 ·rw[show decide (n<0)=false by simpa using hn] at c0
  clear h hl
  go_enter Tryz.func113,Tryz.ntmps113
  go_wp2_with fail
  refine HL.out.mono ?_
  rintro e w1 ⟨rfl,rfl⟩
  go_wp2_with fail
  go_ret
  exact⟨by rw[show wrap64 n=wrap64 (n.natAbs:Int) by rw[show (n.natAbs:Int)=n by omega],←W1.out];rfl,rfl⟩
theorem neg_word {x:Int} (h1:-9223372036854775808≤x) (h:x<0):IntKind.u64.wrap (wrap64 (-x))=(x.natAbs:Int):=by
 rw[IntKind.wrap_u64];unfold wrap64;omega
theorem pos_word {x:Int} (h1:x≤9223372036854775807) (h:0≤x):IntKind.u64.wrap x=(x.natAbs:Int):=by
 rw[IntKind.wrap_u64];omega
theorem int_setInt64 (b:Nat) (s:Option Int) (n:Int) (v:Value) (x:Int) (w:World) (h:IA w b s n v) (h1:-9223372036854775808≤x) (h2:x≤9223372036854775807):
 Calls Tryz.prog 114 #[.pointer (some ⟨b,0,none⟩),.int .i64 x] w (IntRet w b v s x):=by
 have c1:=h.abs
 have hB:x.natAbs<B:=by rw[B_eq];omega
 have HS:=Lh (setUint64_calls v x.natAbs w h.nv.zs hB)
 by_cases hx:x<0
 ·have e:=neg_word h1 hx
  have NB:=Lh (show true=decide (x<0) by simp[hx])
  clear hB h1 h2
  generalize hq:wrap64 (-x)=q at*
  go_enter Tryz.func114,Tryz.ntmps114
  go_wp2_with fail
  refine HS.out.mono ?_
  rintro e w2 ⟨v',rfl,hres⟩
  obtain⟨a1,l1,c1,rfl,hl0,hl1⟩:=hres.nv.len
  obtain⟨z2,f1,z3,f0⟩:=h.z (k:=0) hres
  have FIN:=Lh (int_fin h (k:=0) (n':=x) hres)
  clear hres hl0
  go_wp2_with fail
  go_ret
  exact⟨rfl,_,NB.out▸FIN.out⟩
 ·have e:=pos_word h2 (by omega)
  have NB:=Lh (show false=decide (x<0) by simp;omega)
  clear hB h1 h2
  go_enter Tryz.func114,Tryz.ntmps114
  go_wp2_with fail
  refine HS.out.mono ?_
  rintro e w2 ⟨v',rfl,hres⟩
  obtain⟨a1,l1,c1,rfl,hl0,hl1⟩:=hres.nv.len
  obtain⟨z2,f1,z3,f0⟩:=h.z (k:=0) hres
  have FIN:=Lh (int_fin h (k:=0) (n':=x) hres)
  clear hres hl0
  go_wp2_with fail
  go_ret
  exact⟨rfl,_,NB.out▸FIN.out⟩
structure NewRes (w:World) (s:Option Int) (n:Int) (b:Nat) (v:Value) (w':World):Prop where
 ia:IA w' b s n v
 mod:Mod [] w w'
 own:w.heap.size≤b∧∀k,k∈sb v→w.heap.size≤k
def NewRet (w:World) (s:Option Int) (n:Int) (e:Ending) (w':World):Prop:=∃b v,e=.returned (.pointer (some ⟨b,0,none⟩))∧NewRes w s n b v w'
theorem NewRes.apart {w w':World} {s:Option Int} {n:Int} {b:Nat} {v:Value} (h:NewRes w s n b v w') {c:Nat} {s2:Option Int} {n2:Int} {u:Value} (k:IA w c s2 n2 u):c≠b∧(∀j,j∈sb u→j∉sb v)∧IA w' c s2 n2 u:=
 ⟨by have:=k.lt;have:=h.own.1;omega,fun j hj hv=>by have:=k.nv.zs.lt j hj;have:=h.own.2 j hv;omega,k.mod h.mod (by simp) (by simp)⟩
theorem new_zero (w:World) (hw:19≤w.heap.size):NewRes w none 0 w.heap.size (.slice none 0 0) (w.alloc (.cells #[.bool false,.slice none 0 0] 120)):=
 ⟨⟨Hd.new w 120 _,Nv.nil _,hw,by simp[sb]⟩,(Mod.refl [] w).alloc _,Nat.le_refl _,by simp[sb]⟩
theorem new_one (w:World) (hw:19≤w.heap.size) {x:Int} (h0:x≠0) (hB:x.natAbs<B):
 NewRes w none x (w.heap.size+1) (.slice (some ⟨w.heap.size,0,none⟩) 1 1) ((w.alloc (.cells #[.int .u64 (x.natAbs:Nat)] 177)).alloc (.cells #[.bool (decide (x<0)),.slice (some ⟨w.heap.size,0,none⟩) 1 1] 120)):=by
 have hb:Blk (w.alloc (.cells #[.int .u64 (x.natAbs:Nat)] 177)) w.heap.size [x.natAbs]:=by
  refine⟨?_,by intro y hy;rw[List.mem_singleton.1 hy];exact hB,by simp⟩
  show (w.heap.push _)[w.heap.size]?=_
  simp[wc]
 have hsz:(w.alloc (.cells #[.int .u64 (x.natAbs:Nat)] 177)).heap.size=w.heap.size+1:=by simp
 refine⟨⟨?_,?_,by omega,?_⟩,((Mod.refl [] w).alloc _).alloc _,by omega,by simp[sb]⟩
 ·have:=Hd.new (w.alloc (.cells #[.int .u64 (x.natAbs:Nat)] 177)) 120 #[.bool (decide (x<0)),.slice (some ⟨w.heap.size,0,none⟩) 1 1]
  rw[hsz] at this;exact this
 ·refine .inr ⟨w.heap.size,1,[x.natAbs],rfl,hb.alloc _,by simp,?_,by simp[val]⟩
  simp[Nrm];omega
 ·simp[sb];exact hw
theorem newInt_calls (x:Int) (w:World) (hw:19≤w.heap.size) (h1:-9223372036854775807≤x) (h2:x≤9223372036854775807):
 Calls Tryz.prog 68 #[.int .i64 x] w (NewRet w none x):=by
 have hB:x.natAbs<B:=by rw[B_eq];omega
 by_cases h0:x=0
 ·subst h0
  have F:=Lh (new_zero w hw)
  clear hB h1 h2 hw
  go_enter Tryz.func68,Tryz.ntmps68
  go_wp2_with fail
  go_ret
  exact⟨_,_,rfl,F.out⟩
 ·have F:=new_one w hw h0 hB
  have t0:(x==0)=false:=by simpa using h0
  by_cases hx:x<0
  ·have e:IntKind.u64.wrap (-(IntKind.u64.wrap x))=(x.natAbs:Int):=by rw[IntKind.wrap_u64,IntKind.wrap_u64];omega
   rw[←e,show decide (x<0)=true by simpa using hx] at F
   have FF:=Lh F
   clear hB h1 h2 hw e F
   go_enter Tryz.func68,Tryz.ntmps68
   go_wp2_with fail
   go_ret
   exact⟨_,_,rfl,FF.out⟩
  ·have e:=pos_word h2 (by omega)
   rw[←e,show decide (x<0)=false by simpa using hx] at F
   have FF:=Lh F
   clear hB h1 h2 hw e F
   go_enter Tryz.func68,Tryz.ntmps68
   go_wp2_with fail
   go_ret
   exact⟨_,_,rfl,FF.out⟩
def BoolRet (w:World) (e:Ending) (w':World):Prop:=(∃r:Bool,e=.returned (.bool r))∧w=w'
theorem BoolRet.mk {w:World} (r:Bool):BoolRet w (.returned (.bool r)) w:=⟨⟨r,rfl⟩,rfl⟩
theorem int_isInt64 (b:Nat) (s:Option Int) (n:Int) (v:Value) (w:World) (h:IA w b s n v):
 Calls Tryz.prog 94 #[.pointer (some ⟨b,0,none⟩)] w (BoolRet w):=by
 obtain⟨a,l,c,rfl,hl,_⟩:=h.nv.len
 have c1:=h.abs
 have c0:=h.neg
 have HL:=Lh (low64_calls _ _ _ h.nv)
 clear h hl
 generalize n.natAbs%B=q at*
 generalize decide (n<0)=p at*
 obtain⟨u,hu⟩:∃u,wrap64 (q:Int)=u:=⟨_,rfl⟩
 obtain⟨u2,hu2⟩:∃u2,wrap64 (-u)=u2:=⟨_,rfl⟩
 by_cases h1:l≤1
 ·by_cases h2:0≤u
  ·go_enter Tryz.func94,Tryz.ntmps94
   go_wp2_with fail
   refine HL.out.mono ?_
   rintro e w1 ⟨rfl,rfl⟩
   go_wp2_with fail
   go_ret
   exact BoolRet.mk _
  ·cases p
   all_goals
    go_enter Tryz.func94,Tryz.ntmps94
    go_wp2_with fail
    refine HL.out.mono ?_
    rintro e w1 ⟨rfl,rfl⟩
    go_wp2_with fail
    go_ret
    exact BoolRet.mk _
 ·go_enter Tryz.func94,Tryz.ntmps94
  go_wp2_with fail
  go_ret
  exact BoolRet.mk _
end Go.Proofs.YtcpjclakdpjjfaaGreatDoor
namespace Go.Proofs.YtcpjclakdpjjfaaGreatDoor
open Go.RowKit Wd
def cmpZI (a b:Int):Int:=if a<b then -1 else if b<a then 1 else 0
def CmpRet (r:Int) (w:World) (e:Ending) (w':World):Prop:=e=.returned (.int .i64 r)∧∃m,w'=w.drewN m
theorem int_cmp (bx bY:Nat) (sx sy:Option Int) (nx ny:Int) (vx vy:Value) (w:World) (hx:IA w bx sx nx vx) (hy:IA w bY sy ny vy) (hne:bx≠bY) (hXb:nx.natAbs<Big) (hYb:ny.natAbs<Big):
 Calls Tryz.prog 115 #[.pointer (some ⟨bx,0,none⟩),.pointer (some ⟨bY,0,none⟩)] w (CmpRet (cmpZI nx ny) w):=by
 have hp:=iptr_eql hx hy
 rw[show decide (bx=bY)=false by simp[hne]] at hp
 have x0:=hx.neg
 have x1:=hx.abs
 have y0:=hy.neg
 have y1:=hy.abs
 have HC:=Lh (fun k=>cmp_calls vx vy nx.natAbs ny.natAbs (w.drewN k) (hx.nv.drewN k) (hy.nv.drewN k) hXb hYb)
 have hr:(if decide (nx<0)=decide (ny<0) then (if decide (nx<0) then -(cmpI nx.natAbs ny.natAbs) else cmpI nx.natAbs ny.natAbs) else if decide (nx<0) then -1 else 1)=cmpZI nx ny:=by
  unfold cmpZI cmpI
  by_cases h1:nx<0<;>by_cases h2:ny<0<;>simp only[h1,h2,decide_true,decide_false,if_true]<;>(repeat' split)<;>first|omega|(simp_all;done)|(simp_all;omega)
 have hci:-1≤cmpI nx.natAbs ny.natAbs∧cmpI nx.natAbs ny.natAbs≤1:=by unfold cmpI;split<;>(try split)<;>omega
 generalize cmpI nx.natAbs ny.natAbs=ci at*
 generalize decide (nx<0)=p at*
 generalize decide (ny<0)=q at*
 clear hXb hYb
 cases p<;>cases q
 all_goals
  have HR:=Lh hr
  clear hr
  go_enter Tryz.func115,Tryz.ntmps115
  go_wp2_with fail
  go_quiet (fail)
  go_wp2_with fail
  try go_quiet ((go_at_call 156;exact quiet_add (HC.out _)))
  try go_wp2_with fail
  go_ret
  exact⟨by first|rw[←HR.out];rfl,_,rfl⟩
theorem IntRes.negate {w w1:World} {b:Nat} {v:Value} {s:Option Int} {n:Int} {v':Value} (h:IntRes w b v s n v' w1):
 IntRes w b v s (-n) v' (w1.setCell ⟨b,0,none⟩ (.bool (decide (-n<0)))):=by
 have h1:=h.ia.hd.set 0 (.bool (decide (-n<0)))
 rw[hdr_set0] at h1
 have hb':b∉sb v':=h.ia.not_sb h.ia.nv.zs
 refine⟨⟨h1,?_,h.ia.lo,h.ia.vlo⟩,h.mod.setCell _ (.inl (by simp)),h.own⟩
 rw[Int.natAbs_neg]
 exact h.ia.nv.mod ((Mod.refl [b] w1).setCell (p:=⟨b,0,none⟩) _ (.inl (by simp))) (fun j hj hb=>hb' (List.mem_singleton.1 hb▸hj))
theorem int_set_same (bz:Nat) (sz:Option Int) (nz:Int) (vz:Value) (w:World) (hz:IA w bz sz nz vz):
 Calls Tryz.prog 109 #[.pointer (some ⟨bz,0,none⟩),.pointer (some ⟨bz,0,none⟩)] w fun e w'=>e=.returned (.pointer (some ⟨bz,0,none⟩))∧w=w':=by
 have hp:=iptr_neq hz hz
 rw[show (!decide (bz=bz))=false by simp] at hp
 go_enter Tryz.func109,Tryz.ntmps109
 go_wp2_with fail
 go_ret
 exact⟨rfl,rfl⟩
theorem int_neg_any (bz bx:Nat) (sz:Option Int) (n:Int) (vz:Value) (w:World) (hset:Calls Tryz.prog 109 #[.pointer (some ⟨bz,0,none⟩),.pointer (some ⟨bx,0,none⟩)] w (IntRet w bz vz sz n)):
 Calls Tryz.prog 112 #[.pointer (some ⟨bz,0,none⟩),.pointer (some ⟨bx,0,none⟩)] w (IntRet w bz vz sz (-n)):=by
 have HS:=Lh hset
 clear hset
 go_enter Tryz.func112,Tryz.ntmps112
 go_wp2_with fail
 refine HS.out.mono ?_
 rintro e w1 ⟨rfl,v',hres⟩
 obtain⟨a1,l1,c1,rfl,hl0,hl1⟩:=hres.ia.nv.len
 have z1:=hres.ia.abs
 have z0:=hres.ia.neg
 have f0:=hres.ia.free 0
 have FIN:=Lh hres.negate
 clear hres
 by_cases hn:n=0
 ·have t:decide (0<l1)=false:=by simp;omega
  have NB:=Lh (show false=decide (-n<0) by simp;omega)
  clear hl0 hn
  go_wp2_with fail
  go_ret
  exact⟨rfl,_,NB.out▸FIN.out⟩
 ·have t:decide (0<l1)=true:=by simp;omega
  have NB:=Lh (show (!decide (n<0))=decide (-n<0) by rw[Bool.eq_iff_iff];simp;omega)
  generalize decide (n<0)=p at*
  clear hl0 hn
  go_wp2_with fail
  go_ret
  exact⟨rfl,_,NB.out▸FIN.out⟩
theorem int_neg (bz:Nat) (sz:Option Int) (nz:Int) (vz:Value) (w:World) (hz:IA w bz sz nz vz):
 Calls Tryz.prog 112 #[.pointer (some ⟨bz,0,none⟩),.pointer (some ⟨bz,0,none⟩)] w (IntRet w bz vz sz (-nz)):=
 int_neg_any bz bz sz nz vz w ((int_set_same bz sz nz vz w hz).mono fun _ _ ⟨h1,h2⟩=>⟨h1,vz,h2▸IntRes.refl hz 0⟩)
theorem int_lsh (bz bx:Nat) (sz sx:Option Int) (nz nx:Int) (vz vx:Value) (s:Nat) (w:World) (hz:IA w bz sz nz vz) (hx:IA w bx sx nx vx) (hpos:0<nx) (hne:bz≠bx) (hd:∀j,j∈sb vx→j∉sb vz) (hXb:nx.natAbs<Big) (hs0:0<s) (hs:s<64):
 Calls Tryz.prog 69 #[.pointer (some ⟨bz,0,none⟩),.pointer (some ⟨bx,0,none⟩),.int .u64 s] w (IntRet w bz vz sz (nx*(2^s:Nat))):=by
 have z1:=hz.abs
 have x1:=hx.abs
 have hlsh:Calls Tryz.prog 108 #[vz,vx,.int .u64 s] w.drew (NRet w.drew vz (nx*(2^s:Nat)).natAbs):=by
  rw[Int.natAbs_mul,Int.natAbs_natCast]
  rcases (hx.nv.drewN 1) with ⟨_,h⟩|⟨b,l,ws,rfl,h2,h3,h4,h5⟩
  ·omega
  ·have hl:0<l:=by rcases Nat.eq_zero_or_pos l with rfl|h;(have:=(Nv.eq_zero h4 h5 h3).2 rfl;omega);exact h
   have:=lsh_pos vz b l s ws (w.drewN 1) (hz.nv.zs.drewN 1) h2 h3 hl (by have:=length_le_of_val h4 (k:=64) (by rw[h5];rw[Big_eq] at hXb;exact hXb);rw[List.length_take,Nat.min_eq_left h3] at this;omega) hs0 hs (hd b (by simp[sb]))
   rw[h5] at this
   exact this
 have HS:=Lh hlsh
 have hn:decide (nx<0)=decide (nx*(2^s:Nat)<0):=by
  have hp:(0:Int)<(2^s:Nat):=by have:=Nat.pow_pos (n:=s) (show 0<2 by decide);omega
  have:=Int.mul_pos hpos hp
  generalize nx*((2^s:Nat):Int)=q at*
  rw[show decide (nx<0)=false from decide_eq_false (by omega),show decide (q<0)=false from decide_eq_false (by omega)]
 have NB:=Lh hn
 have hne2:¬bx=bz:=fun h=>hne h.symm
 clear hlsh hn hXb hd hpos
 go_enter Tryz.func69,Tryz.ntmps69
 go_wp2_with fail
 go_region_law (first|(go_simp;go_at_call 108;refine HS.out.mono ?_;rintro e w2 ⟨v',rfl,hres⟩;obtain⟨a1,l1,c1,rfl,hl1⟩:=hres.nv.len;obtain⟨z2,f1,z0,f0⟩:=hz.z (k:=1) hres;have x0:=hx.x hz (k:=1) hres;have FIN:=Lh (int_fin hz (k:=1) (n':=nx*(2^s:Nat)) hres);clear hres hl1))
 all_goals
  go_wp2_with fail
  go_ret
  exact⟨rfl,_,NB.out▸FIN.out⟩
end Go.Proofs.YtcpjclakdpjjfaaGreatDoor
namespace Go.Proofs.YtcpjclakdpjjfaaGreatDoor
open Go.RowKit Wd
theorem IntRes.trans {w w1 w2:World} {b:Nat} {v v1 v2:Value} {s1 s2:Option Int} {n1 n2:Int} (h:IntRes w b v s1 n1 v1 w1) (k:IntRes w1 b v1 s2 n2 v2 w2):IntRes w b v s2 n2 v2 w2:=
 ⟨k.ia,h.mod.step k.mod (fun x hx=>by
  rcases List.mem_cons.1 hx with rfl|hx
  ·exact .inl (by simp)
  ·exact(h.own x hx).imp (fun h'=>by simp[h']) id),fun j hj=>(k.own j hj).elim (h.own j) (fun hs=>.inr (Nat.le_trans h.mod.size hs))⟩
theorem NewRes.step {w w1 w2:World} {b:Nat} {v v2:Value} {s s2:Option Int} {n n2:Int} (h:NewRes w s n b v w1) (k:IntRes w1 b v s2 n2 v2 w2):NewRes w s2 n2 b v2 w2:=
 ⟨k.ia,h.mod.step k.mod (fun x hx=>by
  rcases List.mem_cons.1 hx with rfl|hx
  ·exact .inr h.own.1
  ·exact .inr (h.own.2 x hx)),h.own.1,fun j hj=>(k.own j hj).elim (h.own.2 j) (fun hs=>Nat.le_trans h.mod.size hs)⟩
theorem IA.setScale {w:World} {b:Nat} {s:Int} {n:Int} {v:Value} (h:IA w b (some s) n v) (c:Int):IntRes w b v (some c) n v (w.setCell ⟨b,2,none⟩ (.int .i32 c)):=by
 have h1:=h.hd.set 2 (.int .i32 c)
 have hb:=h.not_sb h.nv.zs
 exact⟨⟨h1,h.nv.mod ((Mod.refl [b] w).setCell (p:=⟨b,2,none⟩) _ (.inl (by simp))) (fun j hj hx=>hb (List.mem_singleton.1 hx▸hj)),h.lo,h.vlo⟩,(Mod.refl _ w).setCell _ (.inl (by simp)),fun j hj=>.inl hj⟩
theorem new_dec (w:World) (hw:19≤w.heap.size):NewRes w (some 0) 0 w.heap.size (.slice none 0 0) (w.alloc (.cells #[.bool false,.slice none 0 0,.int .i32 0] 123)):=
 ⟨⟨Hd.new w 123 _,Nv.nil _,hw,by simp[sb]⟩,(Mod.refl [] w).alloc _,Nat.le_refl _,by simp[sb]⟩
theorem dec_setScale (b:Nat) (s c:Int) (n:Int) (v:Value) (w:World) (h:IA w b (some s) n v):
 Calls Tryz.prog 65 #[.pointer (some ⟨b,0,none⟩),.int .i32 c] w (IntRet w b v (some c) n):=by
 have c2:=h.scale
 have f2:=h.free 2
 have F:=Lh (h.setScale c)
 clear h
 go_enter Tryz.func65,Tryz.ntmps65
 go_wp2_with fail
 go_ret
 exact⟨rfl,_,F.out⟩
theorem dec_scale (b:Nat) (s:Int) (n:Int) (v:Value) (w:World) (h:IA w b (some s) n v):
 Calls Tryz.prog 66 #[.pointer (some ⟨b,0,none⟩)] w fun e w'=>e=.returned (.int .i32 s)∧w=w':=by
 have c2:=h.scale
 clear h
 go_enter Tryz.func66,Tryz.ntmps66
 go_wp2_with fail
 go_ret
 exact⟨rfl,rfl⟩
theorem dec_unscaledBig (b:Nat) (w:World):
 Calls Tryz.prog 70 #[.pointer (some ⟨b,0,none⟩)] w fun e w'=>e=.returned (.pointer (some ⟨b,0,none⟩))∧w=w':=by
 go_enter Tryz.func70,Tryz.ntmps70
 go_wp2_with fail
 go_ret
 exact⟨rfl,rfl⟩
theorem dec_sign (b:Nat) (s:Option Int) (n:Int) (v:Value) (w:World) (h:IA w b s n v):
 Calls Tryz.prog 73 #[.pointer (some ⟨b,0,none⟩)] w fun e w'=>e=.returned (.int .i64 (sgnI n))∧w=w':=by
 have H:=Lh (int_sign b s n v w h)
 clear h
 go_enter Tryz.func73,Tryz.ntmps73
 go_wp2_with fail
 refine(dec_unscaledBig b w).mono ?_
 rintro e w1 ⟨rfl,rfl⟩
 go_wp2_with fail
 refine H.out.mono ?_
 rintro e w1 ⟨rfl,rfl⟩
 go_wp2_with fail
 go_ret
 exact⟨rfl,rfl⟩
theorem dec_setUnscaledBig (bz bx:Nat) (sz:Option Int) (n:Int) (vz:Value) (w:World) (hset:Calls Tryz.prog 109 #[.pointer (some ⟨bz,0,none⟩),.pointer (some ⟨bx,0,none⟩)] w (IntRet w bz vz sz n)):
 Calls Tryz.prog 71 #[.pointer (some ⟨bz,0,none⟩),.pointer (some ⟨bx,0,none⟩)] w (IntRet w bz vz sz n):=by
 have H:=Lh hset
 clear hset
 go_enter Tryz.func71,Tryz.ntmps71
 go_wp2_with fail
 refine H.out.mono ?_
 rintro e w1 ⟨rfl,v',hr⟩
 have HR:=Lh hr
 clear hr
 go_wp2_with fail
 go_ret
 exact⟨rfl,_,HR.out⟩
theorem dec_setUnscaled (b:Nat) (s:Option Int) (n:Int) (v:Value) (x:Int) (w:World) (h:IA w b s n v) (h1:-9223372036854775808≤x) (h2:x≤9223372036854775807):
 Calls Tryz.prog 121 #[.pointer (some ⟨b,0,none⟩),.int .i64 x] w (IntRet w b v s x):=by
 have H:=Lh (int_setInt64 b s n v x w h h1 h2)
 clear h h1 h2
 go_enter Tryz.func121,Tryz.ntmps121
 go_wp2_with fail
 refine H.out.mono ?_
 rintro e w1 ⟨rfl,v',hr⟩
 have HR:=Lh hr
 clear hr
 go_wp2_with fail
 go_ret
 exact⟨rfl,_,HR.out⟩
theorem info123:∃j,Tryz.prog.info? 123=some j∧j.size≠0:=by
 obtain⟨j,hj,hs⟩:=Option.map_eq_some_iff.1 (show (Tryz.prog.info? 123).map (·.size)=some 3 by kernel_rfl)
 exact⟨j,hj,by rw[hs];decide⟩
theorem dptr_neq {w:World} {b b':Nat} {s s':Option Int} {n n':Int} {v v':Value} (h:IA w b s n v) (h':IA w b' s' n' v'):
 (binOp .neq 65 (.pointer (some ⟨b,0,none⟩)) (.pointer (some ⟨b',0,none⟩))).run Tryz.prog w=.ok (.bool (!decide (b=b'))) w:=by
 obtain⟨j,hj,hs⟩:=info123
 have e:=ptr_neq w (a:=⟨b,0,none⟩) (b:=⟨b',0,none⟩) Tryz.underlying65 hj hs h.hd h'.hd
 rw[e]
 simp
theorem dec_set (bz bx:Nat) (sz sx:Int) (nz nx:Int) (vz vx:Value) (w:World) (hz:IA w bz (some sz) nz vz) (hx:IA w bx (some sx) nx vx) (hne:bz≠bx) (hd:∀j,j∈sb vx→j∉sb vz) (hXb:nx.natAbs<Big):
 Calls Tryz.prog 80 #[.pointer (some ⟨bz,0,none⟩),.pointer (some ⟨bx,0,none⟩)] w (IntRet w bz vz (some sx) nx):=by
 have hp:=dptr_neq hz hx
 rw[show (!decide (bz=bx))=true by simp[hne]] at hp
 have H:=Lh (dec_setUnscaledBig bz bx (some sz) nx vz w (int_set bz bx (some sz) (some sx) nz nx vz vx w hz hx hne hXb))
 go_enter Tryz.func80,Tryz.ntmps80
 go_wp2_with fail
 refine(dec_unscaledBig bx w).mono ?_
 rintro e w1 ⟨rfl,rfl⟩
 go_wp2_with fail
 refine H.out.mono ?_
 rintro e w1 ⟨rfl,v',hr⟩
 have hx1:=hr.other hx hz hne.symm hd
 have HS:=Lh (dec_scale bx sx nx vx w1 hx1)
 have HT:=Lh (dec_setScale bz sz sx nx v' w1 hr.ia)
 have HR:=Lh hr
 clear hr hx1
 go_wp2_with fail
 refine HS.out.mono ?_
 rintro e w1 ⟨rfl,rfl⟩
 go_wp2_with fail
 refine HT.out.mono ?_
 rintro e w3 ⟨rfl,v3,hr3⟩
 have HR3:=Lh hr3
 clear hr3
 go_wp2_with fail
 go_ret
 exact⟨rfl,_,HR.out.trans HR3.out⟩
theorem newDec_calls (x c:Int) (w:World) (hw:19≤w.heap.size) (h1:-9223372036854775808≤x) (h2:x≤9223372036854775807):
 Calls Tryz.prog 81 #[.int .i64 x,.int .i32 c] w (NewRet w (some c) x):=by
 have hn:=new_dec w hw
 have H1:=Lh (dec_setUnscaled _ _ _ _ x _ hn.ia h1 h2)
 have HN:=Lh hn
 clear hn hw h1 h2
 go_enter Tryz.func81,Tryz.ntmps81
 go_wp2_with fail
 refine H1.out.mono ?_
 rintro e w1 ⟨rfl,v',hr⟩
 have H2:=Lh (dec_setScale _ 0 c x v' w1 hr.ia)
 have HR:=Lh hr
 clear hr
 go_wp2_with fail
 refine H2.out.mono ?_
 rintro e w3 ⟨rfl,v3,hr3⟩
 have HR3:=Lh hr3
 clear hr3
 go_wp2_with fail
 go_ret
 exact⟨_,_,rfl,HN.out.step (HR.out.trans HR3.out)⟩
theorem newDecBig_calls (bx:Nat) (sx:Option Int) (nx c:Int) (vx:Value) (w:World) (hw:19≤w.heap.size) (hx:IA w bx sx nx vx) (hXb:nx.natAbs<Big):
 Calls Tryz.prog 193 #[.pointer (some ⟨bx,0,none⟩),.int .i32 c] w (NewRet w (some c) nx):=by
 have hn:=new_dec w hw
 have ha:=hn.apart hx
 have H1:=Lh (dec_setUnscaledBig _ bx _ nx _ _ (int_set _ bx _ sx 0 nx _ vx _ hn.ia ha.2.2 ha.1.symm hXb))
 have HN:=Lh hn
 clear hn hw ha
 go_enter Tryz.func193,Tryz.ntmps193
 go_wp2_with fail
 refine H1.out.mono ?_
 rintro e w1 ⟨rfl,v',hr⟩
 have H2:=Lh (dec_setScale _ 0 c nx v' w1 hr.ia)
 have HR:=Lh hr
 clear hr
 go_wp2_with fail
 refine H2.out.mono ?_
 rintro e w3 ⟨rfl,v3,hr3⟩
 have HR3:=Lh hr3
 clear hr3
 go_wp2_with fail
 go_ret
 exact⟨_,_,rfl,HN.out.step (HR.out.trans HR3.out)⟩
end Go.Proofs.YtcpjclakdpjjfaaGreatDoor
namespace Go.Proofs.YtcpjclakdpjjfaaGreatDoor
open Go.RowKit Wd
theorem xp_abs {v p r b H:Nat} (hH:0<H) (h:v*(p*2)=(r+p*b)*(2*H)) (hb:b=0∨b=1) (hr:r<p):
 (b=1→H≤v∧(v*2-2*H)*p=r*(2*H))∧(b=0→v<H∧v*2*p=r*(2*H)):=by
 have e:v*2*p=r*(2*H)+p*b*(2*H):=by rw[←Nat.add_mul,←h,Nat.mul_assoc,Nat.mul_comm 2 p]
 refine⟨fun h1=>?_,fun h0=>?_⟩
 ·subst h1
  rw[Nat.mul_one] at e
  have hv:2*H*p≤v*2*p:=by rw[e,Nat.mul_comm (2*H) p];exact Nat.le_add_left _ _
  have:=Nat.le_of_mul_le_mul_right hv (by omega)
  refine⟨by omega,?_⟩
  rw[Nat.mul_sub_right_distrib,e,Nat.mul_comm (2*H) p];omega
 ·subst h0
  rw[Nat.mul_zero,Nat.zero_mul,Nat.add_zero] at e
  refine⟨?_,e⟩
  rcases Nat.lt_or_ge v H with hv|hv
  ·exact hv
  ·have k1:2*H*p≤v*2*p:=Nat.mul_le_mul_right _ (by omega)
   have k2:r*(2*H)<p*(2*H):=Nat.mul_lt_mul_of_pos_right hr (by omega)
   rw[Nat.mul_comm (2*H) p] at k1;omega
structure XP (e k h v:Nat):Prop where
 head:h=e/2^k
 rest:v*2^k=e%2^k*2^64
 vB:v<2^64
theorem XP.step {e k h v:Nat} (X:XP e (k+1) h v):(2^63≤v→XP e k (2*h+1) (v*2-2^64))∧(v<2^63→XP e k (2*h) (v*2)):=by
 obtain⟨h1,h2,h3⟩:=X
 have e1:e/2^k=2*(e/2^(k+1))+e/2^k%2:=by
  have:e/2^(k+1)=e/2^k/2:=by rw[Nat.pow_succ,Nat.div_div_eq_div_mul]
  rw[this];omega
 have e2:e%2^(k+1)=e%2^k+2^k*(e/2^k%2):=by rw[Nat.pow_succ,Nat.mod_mul]
 have hp:0<2^k:=Nat.pow_pos (by decide)
 have hm:=Nat.mod_lt e hp
 rw[e2,Nat.pow_succ] at h2
 rw[←h1] at e1
 clear e2 h1
 have e64:(2:Nat)^64=2*9223372036854775808:=by decide
 rw[e64] at h2 h3
 generalize ha:e/2^k=a at*
 generalize hr:e%2^k=r at*
 generalize hq:(2:Nat)^k=p at*
 have hb:a%2=0∨a%2=1:=by omega
 have K:=xp_abs (H:=9223372036854775808) (by decide) h2 hb hm
 clear h2
 refine⟨fun hv=>?_,fun hv=>?_⟩
 ·rcases hb with h0|h1
  ·have:=(K.2 h0).1;omega
  ·exact⟨by rw[hq,ha];omega,by rw[hq,hr,e64];exact(K.1 h1).2,by rw[e64];omega⟩
 ·rcases hb with h0|h1
  ·exact⟨by rw[hq,ha];omega,by rw[hq,hr,e64];exact(K.2 h0).2,by rw[e64];omega⟩
  ·have:=(K.1 h1).1;omega
theorem exp_abs {e P T v a63 a64:Nat} (hT:P*T=a63) (h64:a64=2*a63) (h1:a63≤e*T) (h2:e*T<a64) (hTp:0<T) (hv:v+a64=e*(2*T)):
 1=e/P∧v*P=e%P*a64∧v<a64:=by
 have e1:P≤e:=by
  rw[←hT] at h1
  exact Nat.le_of_mul_le_mul_right h1 hTp
 have e2:e<2*P:=by
  rw[h64,←hT,←Nat.mul_assoc] at h2
  exact Nat.lt_of_mul_lt_mul_right h2
 have q:e/P=1:=Nat.div_eq_of_lt_le (by omega) (by omega)
 have r:e%P=e-P:=by have:=Nat.div_add_mod e P;rw[q] at this;omega
 have hv':v=e*(2*T)-a64:=by omega
 refine⟨q.symm,?_,?_⟩
 ·rw[r,hv',Nat.mul_sub_right_distrib,Nat.mul_sub_right_distrib]
  have:e*(2*T)*P=e*a64:=by
   rw[h64,←hT,Nat.mul_assoc,Nat.mul_assoc 2 T P,Nat.mul_comm T P]
  rw[this,Nat.mul_comm a64 P]
 ·have:e*(2*T)=2*(e*T):=by rw[Nat.mul_left_comm]
  omega
theorem exp_word {e T:Nat} {g:Int} (hg:g=e*(2*T)) (h1:9223372036854775808≤e*T) (h2:e*T<18446744073709551616):∃v:Nat,IntKind.u64.wrap g=(v:Int)∧v+18446744073709551616=e*(2*T):=by
 have:e*(2*T)=2*(e*T):=by rw[Nat.mul_left_comm]
 refine⟨e*(2*T)-18446744073709551616,?_,by omega⟩
 rw[IntKind.wrap_u64,hg]
 have hc:(e:Int)*(2*(T:Int))=((e*(2*T):Nat):Int):=rfl
 rw[hc]
 generalize e*(2*T)=q at*
 omega
theorem exp_small {e sh:Nat} (h2:2≤e) (h:e*2^sh<18446744073709551616):sh≤62:=by
 rcases Nat.lt_or_ge sh 63 with k|k
 ·omega
 ·have k1:2^63≤2^sh:=Nat.pow_le_pow_right (by decide) k
  rw[show (2:Nat)^63=9223372036854775808 by decide] at k1
  have:2*2^sh≤e*2^sh:=Nat.mul_le_mul_right _ h2
  generalize 2^sh=T at*
  omega
theorem exp_f {sh:Nat} (h:sh≤62):IntKind.u64.wrap ((sh:Int)+1)=((sh+1:Nat):Int):=by rw[IntKind.wrap_u64];omega
theorem exp_L {sh:Nat} (h:sh≤62):wrap64 (64-wrap64 ((sh+1:Nat):Int))=((63-sh:Nat):Int):=by unfold wrap64;omega
theorem exp_pw (e sh:Nat) (h:sh≤62):(e:Int)*2^min (sh+1) 64=e*(2*((2^sh:Nat):Int)):=by
 rw[show min (sh+1) 64=sh+1 by omega,Int.natCast_pow,Int.pow_succ,Int.mul_comm (2^sh) 2];rfl
theorem exp_start {e sh:Nat} (h2:2≤e) (hsh:NlzOk e sh):∃f v0 L:Nat,IntKind.u64.wrap ((sh:Int)+1)=(f:Int)∧IntKind.u64.wrap ((e:Int)*2^min f 64)=(v0:Int)∧wrap64 (64-wrap64 (f:Int))=(L:Int)∧L≤64∧XP e L 1 v0:=by
 obtain⟨h1,h3,h4⟩:=hsh
 rw[show (2:Nat)^63=9223372036854775808 by decide] at h3
 rw[show (2:Nat)^64=18446744073709551616 by decide] at h4
 have hs62:=exp_small h2 h4
 have hPT:2^(63-sh)*2^sh=9223372036854775808:=by rw[←Nat.pow_add,Nat.sub_add_cancel (Nat.le_trans hs62 (by decide))]
 obtain⟨v,hv1,hv2⟩:=exp_word (exp_pw e sh hs62) h3 h4
 have K:=exp_abs hPT (show 18446744073709551616=2*9223372036854775808 by decide) h3 h4 (Nat.pow_pos (by decide)) hv2
 have e64:(2:Nat)^64=18446744073709551616:=by decide
 exact⟨sh+1,v,63-sh,exp_f hs62,hv1,exp_L hs62,Nat.le_trans (Nat.sub_le _ _) (by decide),⟨K.1,e64▸K.2.1,e64▸K.2.2⟩⟩
theorem and63 (v:Nat):v &&& 2^63=(v.testBit 63).toNat*2^63:=by
 apply Nat.eq_of_testBit_eq
 intro i
 rw[Nat.testBit_and,Nat.testBit_two_pow]
 by_cases h:63=i
 ·subst h
  cases v.testBit 63
  ·simp
  ·rw[Bool.toNat_true,Nat.one_mul,Nat.testBit_two_pow];simp
 ·simp only[h,decide_false,Bool.and_false]
  cases v.testBit 63
  ·simp
  ·rw[Bool.toNat_true,Nat.one_mul,Nat.testBit_two_pow];simp[h]
theorem and_top {v:Nat} (h:v<18446744073709551616):bits BinOp.and IntKind.u64 (v:Int) 9223372036854775808=((if 9223372036854775808≤v then 9223372036854775808 else 0:Nat):Int):=by
 have e:bits BinOp.and IntKind.u64 (v:Int) ((9223372036854775808:Nat):Int)=_:=bits_and_u64_nat v 9223372036854775808 h (by decide)
 refine Eq.trans e ?_
 have k:v &&& 9223372036854775808=(v.testBit 63).toNat*2^63:=by
  have:=and63 v
  rwa [show (2:Nat)^63=9223372036854775808 by decide] at this ⊢
 have t:v.testBit 63=decide (9223372036854775808≤v):=by
  rw[Nat.testBit_eq_decide_div_mod_eq,show (2:Nat)^63=9223372036854775808 by decide,Bool.eq_iff_iff]
  simp only[decide_eq_true_eq]
  omega
 rw[k,t,show (2:Nat)^63=9223372036854775808 by decide]
 by_cases hv:9223372036854775808≤v
 ·rw[if_pos hv,decide_eq_true hv];rfl
 ·rw[if_neg hv,decide_eq_false hv];rfl
end Go.Proofs.YtcpjclakdpjjfaaGreatDoor
namespace Go.Proofs.YtcpjclakdpjjfaaGreatDoor
open Go.RowKit Wd
structure XR (w:World) (e s k h v:Nat) (z zz:Value) (wr:World):Prop where
 xp:XP e k h v
 nz:Nv wr z (10^h)
 zs:Zs wr zz
 dj:∀i,i∈sb z→i∉sb zz
 oz:∀i,i∈sb z→w.heap.size≤i
 ozz:∀i,i∈sb zz→w.heap.size≤i
 stk:One wr s 302 (.pointer none)
 mod:Mod [] w wr
theorem pow10_lt (h n:Nat) (hh:4*h<64*n):10^h<B^n:=by
 have e1:10^h≤16^h:=Nat.pow_le_pow_left (by decide) h
 have e2:16^h=2^(4*h):=by rw[Nat.pow_mul]
 have e3:2^(4*h)<2^(64*n):=Nat.pow_lt_pow_right (by decide) hh
 have e4:B=2^64:=by rw[B_eq]
 rw[e4,←Nat.pow_mul]
 omega
theorem B39_Big:B^39<Big:=by rw[Big_eq];exact Nat.pow_lt_pow_right B_one (by omega)
theorem XP.h_le {e k h v:Nat} (X:XP e (k+1) h v):2*h+1≤e+1:=by
 have h1:=X.head
 have:e/2^(k+1)≤e/2:=Nat.div_le_div_left (by rw[Nat.pow_succ];have:=Nat.pow_pos (n:=k) (show 0<2 by decide);omega) (by decide)
 omega
theorem XR.sq {w wr w1:World} {e s k h v:Nat} {z zz v1:Value} (X:XR w e s (k+1) h v z zz wr) (r:NRes wr zz (10^h*10^h) v1 w1):
 Nv w1 v1 (10^(2*h))∧Nv w1 z (10^h)∧(∀i,i∈sb v1→i∉sb z)∧(∀i,i∈sb v1→w.heap.size≤i)∧One w1 s 302 (.pointer none)∧Mod [] w w1:=by
 refine⟨?_,X.nz.mod r.mod X.dj,fun i hi hz=>?_,fun i hi=>?_,X.stk.mod r.mod ?_,?_⟩
 ·rw[show 10^(2*h)=10^h*10^h by rw[←Nat.pow_add];congr 1;omega];exact r.nv
 ·rcases r.own i hi with h1|h1
  ·exact X.dj i hz h1
  ·have:=X.nz.zs.lt i hz;omega
 ·rcases r.own i hi with h1|h1
  ·exact X.ozz i h1
  ·have:=X.mod.size;omega
 ·intro hm
  rcases X.zs with rfl|⟨b,l,ws,rfl,h2,_⟩
  ·simp[sb] at hm
  ·exact X.stk.ne_blk h2 (by decide) (List.mem_singleton.1 hm)
 ·exact X.mod.step r.mod (fun i hi=>.inr (X.ozz i hi))
theorem XR.next0 {w wr w1:World} {e s k h v v':Nat} {z zz v1:Value} (X:XR w e s (k+1) h v z zz wr) (r:NRes wr zz (10^h*10^h) v1 w1) (hv:v<9223372036854775808) (hv':v'=v*2):
 XR w e s k (2*h) v' v1 z w1:=by
 obtain⟨h1,h2,h3,h4,h5,h6⟩:=X.sq r
 have e63:(2:Nat)^63=9223372036854775808:=by decide
 exact⟨hv'▸X.xp.step.2 (e63▸hv),h1,h2.zs,h3,h4,X.oz,h5,h6⟩
theorem XR.next1 {w wr w1 w2:World} {e s k h v v':Nat} {z zz v1 v2:Value} (X:XR w e s (k+1) h v z zz wr) (r:NRes wr zz (10^h*10^h) v1 w1) (r2:NRes w1 z (10^(2*h)*10) v2 w2) (hv:9223372036854775808≤v) (hv':v'=v*2-18446744073709551616):
 XR w e s k (2*h+1) v' v2 v1 w2:=by
 obtain⟨h1,h2,h3,h4,h5,h6⟩:=X.sq r
 have e63:(2:Nat)^63=9223372036854775808:=by decide
 have e64:(2:Nat)^64=18446744073709551616:=by decide
 have hx:=X.xp.step.1 (e63▸hv)
 rw[e64,←hv'] at hx
 refine⟨hx,by rw[Nat.pow_succ];exact r2.nv,(h1.mod r2.mod h3).zs,fun i hi hv1=>?_,fun i hi=>?_,h4,h5.mod r2.mod ?_,h6.step r2.mod (fun i hi=>.inr (X.oz i hi))⟩
 ·rcases r2.own i hi with k1|k1
  ·exact h3 i hv1 k1
  ·have:=h1.zs.lt i hv1;omega
 ·rcases r2.own i hi with k1|k1
  ·exact X.oz i k1
  ·have:=h6.size;omega
 ·intro hm
  rcases h2.zs with rfl|⟨b,l,ws,rfl,k2,_⟩
  ·simp[sb] at hm
  ·exact h5.ne_blk k2 (by decide) (List.mem_singleton.1 hm)
theorem norm_same (z:Value) (n:Nat) (w:World) (h:Nv w z n) (h0:n≠0) (hb:n<Big):Calls Tryz.prog 152 #[z] w fun e w'=>e=.returned z∧w=w':=by
 rcases h.split hb with ⟨rfl,rfl⟩|⟨b,l,ws,rfl,h2,h3,h4,h5,h6⟩
 ·exact(h0 rfl).elim
 ·have hl:0<l:=by
   rcases Nat.eq_zero_or_pos l with rfl|k
   ·exact(h0 ((Nv.eq_zero h4 h5 h3).2 rfl)).elim
   ·exact k
  have e:nlen ws l=l:=by
   obtain⟨p,rfl⟩:∃p,l=p+1:=⟨l-1,by omega⟩
   rw[List.take_succ_eq_append_getElem (by omega),←wat_eq (by omega)] at h4
   simp only[nlen]
   rw[if_neg (Nrm_snoc.1 h4)]
  have:=norm_calls b l ws.length ws w h2 h3 h3 (by omega)
  rw[e] at this
  exact this
theorem shl_word {v:Nat} (h:v<18446744073709551616):∃v':Nat,IntKind.u64.wrap ((v:Int)*2)=(v':Int)∧(v<9223372036854775808→v'=v*2)∧(9223372036854775808≤v→v'=v*2-18446744073709551616):=by
 rcases Nat.lt_or_ge v 9223372036854775808 with k|k
 ·exact⟨v*2,by rw[IntKind.wrap_u64];omega,fun _=>rfl,fun h=>by omega⟩
 ·exact⟨v*2-18446744073709551616,by rw[IntKind.wrap_u64];omega,fun h=>by omega,fun _=>rfl⟩
theorem expNN_walk (w:World) (bx bY e:Nat) (xs ys:List Nat) (he:Env w) (hx:Blk w bx xs) (hy:Blk w bY ys) (hxl:1≤xs.length) (hyl:1≤ys.length) (hx10:wat xs 0=10) (hye:wat ys 0=e) (h2:2≤e) (hB:e≤350):
 Calls Tryz.prog 256 #[.slice none 0 0,.pointer none,.slice (some ⟨bx,0,none⟩) 1 xs.length,.slice (some ⟨bY,0,none⟩) 1 ys.length,.slice none 0 0,.bool false] w (NRet w (.slice none 0 0) (10^e)):=by
 have zx:Zs w (.slice (some ⟨bx,0,none⟩) 1 xs.length):=.inr ⟨bx,1,xs,rfl,hx,hxl⟩
 have zy:∀k,Zs (w.drewN k) (.slice (some ⟨bY,0,none⟩) 1 ys.length):=fun k=>.inr ⟨bY,1,ys,rfl,hy.drewN k,hyl⟩
 have ha1:=alias_calls (.slice none 0 0) _ w (Zs.nil _) zx
 have ha2:=fun k=>alias_calls (.slice none 0 0) _ (w.drewN k) (Zs.nil _) (zy k)
 rw[show aliasB (.slice none 0 0) (.slice (some ⟨bx,0,none⟩) 1 xs.length)=false from rfl] at ha1
 have ha2':∀k,Calls Tryz.prog 148 #[.slice none 0 0,.slice (some ⟨bY,0,none⟩) 1 ys.length] (w.drewN k) (QRet false (w.drewN k)):=ha2
 have rx:=fun k=>(hx.drewN k).cell (i:=0) hxl
 have ry:=fun k=>(hy.drewN k).cell (i:=0) hyl
 rw[hx10] at rx
 rw[hye] at ry
 have HA:=Lh (Aj ha1 ha2')
 have t1:((10:Int)==1)=false:=by decide
 have t2:((e:Int)==1)=false:=by simp;omega
 clear ha1 ha2 ha2' zx zy
 go_enter_defers Tryz.func256,Tryz.ntmps256
 go_wp2_with fail
 refine HA.out.1.mono ?_
 rintro e' w1 ⟨rfl,k1,rfl⟩
 go_wp2_with fail
 refine(HA.out.2 k1).mono ?_
 rintro e' w1 ⟨rfl,k2,rfl⟩
 have rx1:=rx (k1+k2)
 have ry1:=ry (k1+k2)
 go_wp2_with fail
 refine(getStack_calls _).mono ?_
 rintro e' w2 ⟨s,rfl,hst,hm2,hsz⟩
 have md:=((Mod.refl [] w).drewN (k1+k2)).trans hm2
 have hx2:=hx.mod md (by simp)
 have hy2:=hy.mod md (by simp)
 have ry2:=hy2.cell (i:=0) hyl
 rw[hye] at ry2
 have nx:Nv w2 (.slice (some ⟨bx,0,none⟩) 1 xs.length) 10:=.inr ⟨bx,1,xs,rfl,hx2,hxl,by
  have:xs.take 1=[10]:=by
   rw[List.take_succ_eq_append_getElem (by omega),←wat_eq (by omega),hx10];simp
  rw[this];simp[Nrm],by
  rw[val_take_succ xs 0 (by omega),←wat_eq (by omega),hx10];simp⟩
 have hset:=set_calls (.slice none 0 0) _ 10 w2 (Zs.nil _) nx (by rw[Big_eq];exact Nat.lt_of_lt_of_le (show 10<B by rw[B_eq];decide) (Nat.le_self_pow (by decide) B))
 have HSET:=Lh hset
 have H2:=Lh (Aj md (Aj hst (Aj hsz (Aj hx2 hy2))))
 clear hset hst hm2 hsz md nx rx ry rx1 ry1 HA hx2
 go_wp2_with fail
 refine HSET.out.mono ?_
 rintro e' w3 ⟨v,rfl,hres⟩
 have hy3:=hy2.mod hres.mod (by simp[sb])
 have ry3:=hy3.cell (i:=0) hyl
 rw[hye] at ry3
 have H3:=Lh hres
 have hnz:=nlz_calls e w3 (by rw[B_eq];omega) (by omega)
 have HNZ:=Lh hnz
 clear hres hy3 hnz hy2
 go_wp2_with fail
 refine HNZ.out.mono ?_
 rintro e' w' ⟨sh,rfl,rfl,hsh⟩
 obtain⟨f,v0,L,q1,q2,q3,hL,hX⟩:=exp_start h2 hsh
 have HX:=Lh hX
 clear hX hsh h2
 go_wp2_with fail
 have hres:=H3.out
 obtain⟨md,hst,hsz,hx2,hy2⟩:=H2.out
 have hs0:One w2 s 302 (.pointer none):=by
  rcases hst with ⟨h,_⟩|⟨i,ws,_,_,_,_,h⟩
  ·exact h
  ·simp at h
 have hX0:XR w e s L 1 v0 v (.slice none 0 0) w3:=by
  refine⟨HX.out,by simpa using hres.nv,.inl rfl,by simp[sb],fun i hi=>?_,by simp[sb],hs0.mod hres.mod (by simp[sb]),md.step hres.mod (by simp[sb])⟩
  rcases hres.own i hi with h|h
  ·simp[sb] at h
  ·have:=md.size;omega
 have nx0:Nv w (.slice (some ⟨bx,0,none⟩) 1 xs.length) 10:=.inr ⟨bx,1,xs,rfl,hx,hxl,by
  have:xs.take 1=[10]:=by
   rw[List.take_succ_eq_append_getElem (by omega),←wat_eq (by omega),hx10];simp
  rw[this];simp[Nrm],by
  rw[val_take_succ xs 0 (by omega),←wat_eq (by omega),hx10];simp⟩
 have HX0:=Lh hX0
 have HN:=Lh (Aj nx0 he)
 have HS2:=Lh he.big
 have HSZ:=Lh hsz
 clear hX0 nx0 hres md hst hsz hx2 hy2 hs0 hx hy hx10 hye he H3 H2
 rw[q3]
 go_loopw [0,15,19,21] (fun z0 vv zz0 j wr=>∃(k h v:Nat) (z zz:Value),k≤L∧j=.int .i64 ((L-k:Nat):Int)∧vv=.int .u64 (v:Int)∧z=z0∧zz=zz0∧XR w e s k h v z zz wr) (fun _ _ _ j _=>64-(intOf j).toNat)
 case atStart=>exact⟨L,1,v0,_,_,Nat.le_refl _,by rw[Nat.sub_self];rfl,rfl,rfl,rfl,HX0.out⟩
 case round=>
  obtain⟨k,h,v,z,zz,hk,rfl,rfl,rfl,rfl,hXR⟩:=hrel
  obtain⟨nx0,he⟩:=HN.out
  have hsq:=fun(hk:0<k) (hh:h≤175)=>sqr_calls zz (.pointer (some ⟨s,0,none⟩)) z (10^h) wr (he.mod hXR.mod (by simp)) hXR.zs hXR.nz (pow10_lt h 11 (by omega))
  by_cases hlt:0<k
  ·obtain⟨k,rfl⟩:∃k',k=k'+1:=⟨k-1,by omega⟩
   have hh:=hXR.xp.h_le
   have HS:=Lh (hsq (by omega) (by omega))
   have hv:=hXR.xp.vB
   rw[show (2:Nat)^64=18446744073709551616 by decide] at hv
   have t1:decide (L-(k+1)<L)=true:=by simp;omega
   obtain⟨v',hv',hv0,hv1⟩:=shl_word hv
   have hb:=and_top hv
   have nxr:=nx0.mod hXR.mod (by simp)
   have her:=he.mod hXR.mod (by simp)
   clear hsq
   rcases Nat.lt_or_ge v 9223372036854775808 with hvc|hvc
   ·rw[if_neg (by omega)] at hb
    have HV:=Lh (Aj hXR (Aj hvc (hv0 hvc)))
    clear hXR hv hv0 hv1 hvc hh nx0 he nxr her
    go_wp2_with fail
    refine HS.out.mono ?_
    rintro e1 w4 ⟨v1,rfl,hr1⟩
    have HR:=Lh hr1
    clear hr1
    go_wp2_with fail
    go_roundw
    case rel=>exact⟨k,2*h,v',_,_,by omega,by go_num,rfl,rfl,rfl,HV.out.1.next0 HR.out HV.out.2.1 HV.out.2.2⟩
    case measure=>simp[intOf];omega
   ·rw[if_pos hvc] at hb
    have HV:=Lh (Aj hXR (Aj hvc (hv1 hvc)))
    have HE:=Lh (Aj nxr (Aj her hh))
    clear hXR hv hv0 hv1 hvc hh nx0 he nxr her
    go_wp2_with fail
    refine HS.out.mono ?_
    rintro e1 w4 ⟨v1,rfl,hr1⟩
    obtain⟨m1,m2,m3,m4,m5,m6⟩:=HV.out.1.sq hr1
    have hmul:=mul_calls z (.pointer (some ⟨s,0,none⟩)) v1 _ (10^(2*h)) 10 w4 (HE.out.2.1.mod hr1.mod (fun i hi=>by have:=HV.out.1.ozz i hi;have:=HS2.out;omega)) m2.zs m1 (HE.out.1.mod hr1.mod (fun i hi hz=>by have h1:=HV.out.1.ozz i hz;have h2:=HN.out.1.zs.lt i hi;omega)) (Nat.lt_trans (pow10_lt (2*h) 39 (by have:=HE.out.2.2;omega)) B39_Big) (Nat.lt_of_lt_of_le (show 10<B by rw[B_eq];decide) (Nat.le_self_pow (by decide) B))
    have HM:=Lh hmul
    have HR:=Lh hr1
    clear hr1 hmul m1 m2 m3 m4 m5 m6
    go_wp2_with fail
    refine HM.out.mono ?_
    rintro e2 w5 ⟨v2,rfl,hr2⟩
    have HR2:=Lh hr2
    clear hr2
    go_wp2_with fail
    go_roundw
    case rel=>exact⟨k,2*h+1,v',_,_,by omega,by go_num,rfl,rfl,rfl,HV.out.1.next1 HR.out HR2.out HV.out.2.1 HV.out.2.2⟩
    case measure=>simp[intOf];omega
  ·obtain rfl:k=0:=by omega
   have hp:h=e:=by have:=hXR.xp.head;simpa using this
   have t1:decide (L-0<L)=false:=by simp
   clear hsq
   have hnz:=hXR.nz
   rw[hp] at hnz
   have hnorm:=norm_same z (10^e) wr hnz (by have:=Nat.pow_pos (n:=e) (show 0<10 by decide);omega) (Nat.lt_trans (pow10_lt e 39 (by omega)) B39_Big)
   have HNM:=Lh hnorm
   have HF:=Lh (Aj hXR hnz)
   clear hXR hnz hnorm hp nx0 he
   go_wp2_with fail
   refine wp_loop_rounds 1 ?_
   rw[rounds_succ]
   go_wp2_with fail
   refine HNM.out.mono ?_
   rintro e1 w4 ⟨rfl,rfl⟩
   go_wp2_with fail
   obtain⟨hXR,hnz⟩:=HF.out
   refine leaves_cons (f:=177) (args:=#[.pointer (some ⟨s,0,none⟩)]) (by simp) (by simp[go_sem]) ?_
   refine(free_calls wr s 0 s [s] (.inl ⟨hXR.stk,rfl,rfl,rfl⟩) .returning).mono ?_
   rintro e u' w5 ⟨rfl,rfl,hm4⟩
   have hs':w.heap.size≤s:=by simpa using HSZ.out
   refine⟨_,results_tmp rfl _ _ _,z,rfl,hnz.mod hm4 (fun i hi hs=>?_),hXR.mod.step hm4 (fun i hi=>.inr (by rw[List.mem_singleton.1 hi];exact hs')),fun i hi=>.inr (hXR.oz i hi)⟩
   rcases hnz.zs with rfl|⟨b,l,ws,rfl,k2,_⟩
   ·simp[sb] at hi
   ·exact hXR.stk.ne_blk k2 (by decide) ((List.mem_singleton.1 hs).symm.trans (List.mem_singleton.1 hi))
theorem expNN_one (w:World) (bx bY:Nat) (xs ys:List Nat) (hx:Blk w bx xs) (hy:Blk w bY ys) (hxl:1≤xs.length) (hyl:1≤ys.length) (hx10:wat xs 0=10) (hye:wat ys 0=1):
 Calls Tryz.prog 256 #[.slice none 0 0,.pointer none,.slice (some ⟨bx,0,none⟩) 1 xs.length,.slice (some ⟨bY,0,none⟩) 1 ys.length,.slice none 0 0,.bool false] w (NRet w (.slice none 0 0) (10^1)):=by
 have zx:Zs w (.slice (some ⟨bx,0,none⟩) 1 xs.length):=.inr ⟨bx,1,xs,rfl,hx,hxl⟩
 have zy:∀k,Zs (w.drewN k) (.slice (some ⟨bY,0,none⟩) 1 ys.length):=fun k=>.inr ⟨bY,1,ys,rfl,hy.drewN k,hyl⟩
 have ha1:=alias_calls (.slice none 0 0) _ w (Zs.nil _) zx
 have ha2:=fun k=>alias_calls (.slice none 0 0) _ (w.drewN k) (Zs.nil _) (zy k)
 rw[show aliasB (.slice none 0 0) (.slice (some ⟨bx,0,none⟩) 1 xs.length)=false from rfl] at ha1
 have ha2':∀k,Calls Tryz.prog 148 #[.slice none 0 0,.slice (some ⟨bY,0,none⟩) 1 ys.length] (w.drewN k) (QRet false (w.drewN k)):=ha2
 have rx:=fun k=>(hx.drewN k).cell (i:=0) hxl
 have ry:=fun k=>(hy.drewN k).cell (i:=0) hyl
 rw[hx10] at rx
 rw[hye] at ry
 have HA:=Lh (Aj ha1 ha2')
 have nx:∀k,Nv (w.drewN k) (.slice (some ⟨bx,0,none⟩) 1 xs.length) 10:=fun k=>.inr ⟨bx,1,xs,rfl,hx.drewN k,hxl,by
  have:xs.take 1=[10]:=by
   rw[List.take_succ_eq_append_getElem (by omega),←wat_eq (by omega),hx10];simp
  rw[this];simp[Nrm],by
  rw[val_take_succ xs 0 (by omega),←wat_eq (by omega),hx10];simp⟩
 have HSET:=Lh (fun k=>set_calls (.slice none 0 0) _ 10 (w.drewN k) (Zs.nil _) (nx k) (by rw[Big_eq];exact Nat.lt_of_lt_of_le (show 10<B by rw[B_eq];decide) (Nat.le_self_pow (by decide) B)))
 have t1:((10:Int)==1)=false:=by decide
 clear ha1 ha2 ha2' zx zy nx
 go_enter_defers Tryz.func256,Tryz.ntmps256
 go_wp2_with fail
 refine HA.out.1.mono ?_
 rintro e' w1 ⟨rfl,k1,rfl⟩
 go_wp2_with fail
 refine(HA.out.2 k1).mono ?_
 rintro e' w1 ⟨rfl,k2,rfl⟩
 have rx1:=rx (k1+k2)
 have ry1:=ry (k1+k2)
 go_wp2_with fail
 refine(HSET.out _).mono ?_
 rintro e' w3 ⟨v,rfl,hres⟩
 have H3:=Lh hres
 clear hres
 go_wp2_with fail
 have hr:=H3.out
 refine⟨_,results_tmp rfl _ _ _,v,rfl,hr.nv,((Mod.refl _ w).drewN (k1+k2)).trans hr.mod,fun k hk=>(hr.own k hk).imp id (fun h=>by simpa using h)⟩
end Go.Proofs.YtcpjclakdpjjfaaGreatDoor
namespace Go.Proofs.YtcpjclakdpjjfaaGreatDoor
open Go.RowKit Wd
theorem Nv.word {w:World} {v:Value} {n:Nat} (h:Nv w v n) (h0:n≠0) (hB:n<B):∃(b:Nat) (ws:List Nat),v=.slice (some ⟨b,0,none⟩) 1 ws.length∧Blk w b ws∧1≤ws.length∧wat ws 0=n:=by
 rcases h with ⟨_,rfl⟩|⟨b,l,ws,rfl,h2,h3,h4,h5⟩
 ·exact(h0 rfl).elim
 ·have h6:=length_le_of_val h4 (k:=1) (by rw[h5,Nat.pow_one];exact hB)
  rw[List.length_take,Nat.min_eq_left h3] at h6
  have h7:l≠0:=fun e=>h0 ((Nv.eq_zero h4 h5 h3).2 e)
  obtain rfl:l=1:=by omega
  have h8:=low_word (l:=1) (by omega) h3 h2.wl
  rw[h5,Nat.mod_eq_of_lt hB] at h8
  exact⟨b,ws,rfl,h2,h3,h8.symm⟩
theorem expNN_calls (w:World) (vx vy:Value) (e:Nat) (he:Env w) (hx:Nv w vx 10) (hy:Nv w vy e) (h1:1≤e) (hB:e≤350):
 Calls Tryz.prog 256 #[.slice none 0 0,.pointer none,vx,vy,.slice none 0 0,.bool false] w (NRet w (.slice none 0 0) (10^e)):=by
 obtain⟨bx,xs,rfl,hbx,hxl,hx10⟩:=hx.word (by decide) (by rw[B_eq];decide)
 obtain⟨bY,ys,rfl,hby,hyl,hye⟩:=hy.word (by omega) (by rw[B_eq];omega)
 rcases Nat.lt_or_ge e 2 with h|h
 ·obtain rfl:e=1:=by omega
  exact expNN_one w bx bY xs ys hbx hby hxl hyl hx10 hye
 ·exact expNN_walk w bx bY e xs ys he hbx hby hxl hyl hx10 hye h hB
theorem int_exp_raw (bz bx bY e:Nat) (sz sx sy:Option Int) (vx vy:Value) (w:World) (he:Env w) (hz:IA w bz sz 0 (.slice none 0 0)) (hx:IA w bx sx 10 vx) (hy:IA w bY sy e vy) (h1:1≤e) (hB:e≤350):
 Calls Tryz.prog 238 #[.pointer (some ⟨bz,0,none⟩),.pointer (some ⟨bx,0,none⟩),.pointer (some ⟨bY,0,none⟩),.pointer none,.bool false] w (IntRet w bz (.slice none 0 0) sz ((10^e:Nat):Int)):=by
 have z1:=hz.abs
 have x1:=hx.abs
 have x0:=hx.neg
 have y1:=hy.abs
 have y0:=hy.neg
 rw[show decide ((10:Int)<0)=false by decide] at x0
 rw[show decide ((e:Int)<0)=false by simp] at y0
 have hexp:Calls Tryz.prog 256 #[.slice none 0 0,.pointer none,vx,vy,.slice none 0 0,.bool false] w (NRet w (.slice none 0 0) ((10^e:Nat):Int).natAbs):=by
  rw[Int.natAbs_natCast];exact expNN_calls w vx vy e he hx.nv hy.nv h1 hB
 have HE:=Lh hexp
 have NB:=Lh (show false=decide (((10^e:Nat):Int)<0) from (decide_eq_false (Int.not_lt.2 (Int.natCast_nonneg _))).symm)
 generalize hn:((10^e:Nat):Int)=n at*
 have hn0:n.natAbs≠0:=by rw[←hn,Int.natAbs_natCast];have:=Nat.pow_pos (n:=e) (show 0<10 by decide);omega
 have HN:=Lh hn0
 clear hexp hn hn0
 go_enter Tryz.func238,Tryz.ntmps238
 go_wp2_with fail
 refine HE.out.mono ?_
 rintro e w2 ⟨v',rfl,hres⟩
 obtain⟨a1,l1,c1,rfl,hl0,hl1⟩:=hres.nv.len
 have hl2:0<l1:=by have:=HN.out;omega
 obtain⟨z2,f1,z3,f0⟩:=hz.z (k:=0) hres
 have x3:=hx.x hz (k:=0) hres
 rw[show decide ((10:Int)<0)=false by decide] at x3
 have FIN:=Lh (int_fin hz (k:=0) (n':=n) hres)
 clear hres hl0
 go_wp2_with fail
 go_ret
 exact⟨rfl,_,NB.out▸FIN.out⟩
theorem int_exp (bz bx bY e:Nat) (sz sx sy:Option Int) (vx vy:Value) (w:World) (he:Env w) (hz:IA w bz sz 0 (.slice none 0 0)) (hx:IA w bx sx 10 vx) (hy:IA w bY sy e vy) (h1:1≤e) (hB:e≤350):
 Calls Tryz.prog 213 #[.pointer (some ⟨bz,0,none⟩),.pointer (some ⟨bx,0,none⟩),.pointer (some ⟨bY,0,none⟩),.pointer none] w (IntRet w bz (.slice none 0 0) sz ((10^e:Nat):Int)):=by
 have HC:=Lh (int_exp_raw bz bx bY e sz sx sy vx vy w he hz hx hy h1 hB)
 go_enter Tryz.func213,Tryz.ntmps213
 go_wp2_with fail
 refine HC.out.mono ?_
 rintro e w1 ⟨rfl,v',hres⟩
 have H:=Lh hres
 clear hres
 go_wp2_with fail
 go_ret
 exact⟨rfl,_,H.out⟩
theorem exp10_calls (e:Nat) (w:World) (he:Env w) (h1:1≤e) (hB:e≤350):
 Calls Tryz.prog 192 #[.int .i32 e] w (NewRet w none ((10^e:Nat):Int)):=by
 have hz:=new_zero w he.big
 have HZ:=Lh hz
 have hw1:Env (w.alloc (.cells #[.bool false,.slice none 0 0] 120)):=he.mod hz.mod (by simp)
 have HN1:=Lh (newInt_calls 10 (w.alloc (.cells #[.bool false,.slice none 0 0] 120)) hw1.big (by omega) (by omega))
 have HE:=Lh (Aj hw1 h1)
 have hb2:(e:Int)≤350:=by omega
 clear hz hw1 h1
 go_enter Tryz.func192,Tryz.ntmps192
 go_wp2_with fail
 refine HN1.out.mono ?_
 rintro e1 w1 ⟨bx,vx,rfl,hx⟩
 have he1:Env w1:=HE.out.1.mod hx.mod (by simp)
 have HX:=Lh (Aj hx he1)
 have HN2:=Lh (newInt_calls e w1 he1.big (by omega) (by omega))
 clear hx he1
 go_wp2_with fail
 refine HN2.out.mono ?_
 rintro e1 w2 ⟨bY,vy,rfl,hy⟩
 obtain⟨hx,he1⟩:=HX.out
 have k1:=hx.apart HZ.out.ia
 have k2:=hy.apart k1.2.2
 have k3:=hy.apart hx.ia
 have HX2:=Lh (int_exp w.heap.size bx bY e none none none vx vy w2 (he1.mod hy.mod (by simp)) k2.2.2 k3.2.2 hy.ia HE.out.2 hB)
 have HM:=Lh ((HZ.out.mod.trans hx.mod).trans hy.mod)
 clear hx he1 hy k1 k2 k3
 go_wp2_with fail
 refine HX2.out.mono ?_
 rintro e1 w3 ⟨rfl,v',hr⟩
 have HR:=Lh hr
 clear hr
 go_wp2_with fail
 go_ret
 have hr:=HR.out
 exact⟨_,v',rfl,hr.ia,HM.out.step hr.mod (fun x hx=>by simp[sb] at hx;omega),Nat.le_refl _,fun k hk=>(hr.own k hk).elim (fun h=>by simp[sb] at h) (fun h=>Nat.le_trans HM.out.size h)⟩
end Go.Proofs.YtcpjclakdpjjfaaGreatDoor
namespace Go.Proofs.YtcpjclakdpjjfaaGreatDoor
open Go.RowKit Wd
theorem NewRes.env {w w':World} {s:Option Int} {n:Int} {b:Nat} {v:Value} (h:NewRes w s n b v w') (he:Env w):Env w':=he.mod h.mod (by simp)
theorem dec_rescale (b:Nat) (s n:Int) (k:Nat) (v:Value) (w:World) (he:Env w) (h:IA w b (some s) n v) (h1:1≤k) (hk:k≤350) (hXb:n.natAbs<Big) (hR:(n*(10^k:Nat)).natAbs<Big):
 Calls Tryz.prog 160 #[.pointer (some ⟨b,0,none⟩),.int .i32 (s+k)] w (NewRet w (some (s+k)) (n*(10^k:Nat))):=by
 have HS:=Lh (dec_scale b s n v w h)
 have HE:=Lh (exp10_calls k w he h1 hk)
 have t1:IntKind.i32.wrap (s+k-s)=k:=by rw[IntKind.wrap_i32];omega
 have t2:decide ((k:Int)<0)=false:=by simp
 have t3:decide (0<k)=true:=by simp;omega
 have H0:=Lh (Aj he (Aj h (Aj hXb hR)))
 have HK:=Lh (pow10_lt k 39 (by omega))
 clear he h hXb hR
 go_enter Tryz.func160,Tryz.ntmps160
 go_wp2_with fail
 refine HS.out.mono ?_
 rintro e w1 ⟨rfl,rfl⟩
 go_wp2_with fail
 refine HE.out.mono ?_
 rintro e w1 ⟨be,ve,rfl,hne⟩
 have H1:=Lh hne
 clear hne
 have hz:=new_zero w1 (H1.out.env H0.out.1).big
 have HZ:=Lh hz
 have k1:=H1.out.apart H0.out.2.1
 have k2:=hz.apart k1.2.2
 have k3:=hz.apart H1.out.ia
 have HM:=Lh (int_mul w1.heap.size b be none (some s) none 0 n _ _ v ve _ hz.ia k2.2.2 k3.2.2 (hz.env (H1.out.env H0.out.1)) k1.1 H0.out.2.2.1 (by rw[Int.natAbs_natCast];exact HK.out))
 clear hz k1 k2 k3
 go_wp2_with fail
 refine(dec_unscaledBig b _).mono ?_
 rintro e w2 ⟨rfl,rfl⟩
 go_wp2_with fail
 refine HM.out.mono ?_
 rintro e w2 ⟨rfl,v',hr⟩
 have h2:=HZ.out.step hr
 have HB:=Lh (newDecBig_calls w1.heap.size none _ (s+k) v' w2 (h2.env (H1.out.env H0.out.1)).big h2.ia H0.out.2.2.2)
 have H2:=Lh h2
 clear h2 hr
 go_wp2_with fail
 refine HB.out.mono ?_
 rintro e w3 ⟨b3,v3,rfl,h3⟩
 have H3:=Lh h3
 clear h3
 go_wp2_with fail
 go_ret
 have m:=H1.out.mod.trans H2.out.mod
 have s1:=m.size
 exact⟨b3,v3,rfl,H3.out.ia,m.trans H3.out.mod,Nat.le_trans s1 H3.out.own.1,fun j hj=>Nat.le_trans s1 (H3.out.own.2 j hj)⟩
structure UpRes (w:World) (a b:Nat) (sa sb' na nb:Int) (ba bb:Nat) (va vb:Value) (c na' nb':Int) (w':World):Prop where
 ra:IA w' ba (some c) na' va
 rb:IA w' bb (some c) nb' vb
 mod:Mod [] w w'
 wa:ba=a∨w.heap.size≤ba
 wb:bb=b∨w.heap.size≤bb
 ne:ba≠bb
 val:∃ka kb:Nat,c=sa+ka∧c=sb'+kb∧na'=na*(10^ka:Nat)∧nb'=nb*(10^kb:Nat)∧(ka=0∨kb=0)
def UpRet (w:World) (a b:Nat) (sa sb' na nb:Int) (e:Ending) (w':World):Prop:=
 ∃ba bb va vb c na' nb',e=.returned (.tuple #[.pointer (some ⟨ba,0,none⟩),.pointer (some ⟨bb,0,none⟩)])∧UpRes w a b sa sb' na nb ba bb va vb c na' nb' w'
theorem dec_upscale (a b:Nat) (sa sb' na nb:Int) (va vb:Value) (w:World) (he:Env w) (ha:IA w a (some sa) na va) (hb:IA w b (some sb') nb vb) (hne:a≠b)
 (h1:-300≤sa) (h2:sa≤300) (h3:-300≤sb') (h4:sb'≤300) (h5:sa-sb'≤350) (h6:sb'-sa≤350) (hA:na.natAbs<Big) (hB:nb.natAbs<Big)
 (hA':∀k:Nat,sb'=sa+k→(na*(10^k:Nat)).natAbs<Big) (hB':∀k:Nat,sa=sb'+k→(nb*(10^k:Nat)).natAbs<Big):
 Calls Tryz.prog 120 #[.pointer (some ⟨a,0,none⟩),.pointer (some ⟨b,0,none⟩)] w (UpRet w a b sa sb' na nb):=by
 have HA:=Lh (dec_scale a sa na va w ha)
 have HB:=Lh (dec_scale b sb' nb vb w hb)
 rcases Int.lt_trichotomy sa sb' with hlt|heq|hgt
 ·obtain⟨k,hk⟩:=Int.eq_ofNat_of_zero_le (show 0≤sb'-sa by omega)
  obtain rfl:sb'=sa+k:=by omega
  have HR:=Lh (dec_rescale a sa na k va w he ha (by omega) (by omega) hA (hA' k rfl))
  have t1:(sa==sa+(k:Int))=false:=by simp;omega
  have t2:decide (sa+(k:Int)<sa)=false:=by simp;omega
  have H0:=Lh (Aj ha (Aj hb hne))
  clear hA' hB' ha hb he hne hA hB h1 h2 h3 h4 h5 h6 hk
  go_enter Tryz.func120,Tryz.ntmps120
  go_wp2_with fail
  refine HA.out.mono ?_
  rintro e w1 ⟨rfl,rfl⟩
  go_wp2_with fail
  refine HB.out.mono ?_
  rintro e w1 ⟨rfl,rfl⟩
  go_wp2_with fail
  refine HA.out.mono ?_
  rintro e w1 ⟨rfl,rfl⟩
  go_wp2_with fail
  refine HB.out.mono ?_
  rintro e w1 ⟨rfl,rfl⟩
  go_wp2_with fail
  refine HB.out.mono ?_
  rintro e w1 ⟨rfl,rfl⟩
  go_wp2_with fail
  refine HR.out.mono ?_
  rintro e w1 ⟨b3,v3,rfl,h3⟩
  have H3:=Lh h3
  clear h3
  go_wp2_with fail
  go_ret2
  have k2:=H3.out.apart H0.out.2.1
  exact⟨_,_,_,_,_,_,_,rfl,H3.out.ia,k2.2.2,H3.out.mod,.inr H3.out.own.1,.inl rfl,k2.1.symm,k,0,rfl,by omega,rfl,by simp,.inr rfl⟩
 ·subst heq
  have t1:(sa==sa)=true:=by simp
  have H0:=Lh (Aj ha (Aj hb hne))
  clear hA' hB' ha hb he hne hA hB h1 h2 h3 h4 h5 h6
  go_enter Tryz.func120,Tryz.ntmps120
  go_wp2_with fail
  refine HA.out.mono ?_
  rintro e w1 ⟨rfl,rfl⟩
  go_wp2_with fail
  refine HB.out.mono ?_
  rintro e w1 ⟨rfl,rfl⟩
  go_wp2_with fail
  go_ret2
  exact⟨_,_,_,_,_,_,_,rfl,H0.out.1,H0.out.2.1,Mod.refl _ _,.inl rfl,.inl rfl,H0.out.2.2,0,0,by omega,by omega,by simp,by simp,.inr rfl⟩
 ·obtain⟨k,hk⟩:=Int.eq_ofNat_of_zero_le (show 0≤sa-sb' by omega)
  obtain rfl:sa=sb'+k:=by omega
  have HR:=Lh (dec_rescale b sb' nb k vb w he hb (by omega) (by omega) hB (hB' k rfl))
  have t1:(sb'+(k:Int)==sb')=false:=by simp;omega
  have t2:decide (sb'<sb'+(k:Int))=true:=by simp;omega
  have H0:=Lh (Aj ha (Aj hb hne))
  clear hA' hB' ha hb he hne hA hB h1 h2 h3 h4 h5 h6 hk
  go_enter Tryz.func120,Tryz.ntmps120
  go_wp2_with fail
  refine HA.out.mono ?_
  rintro e w1 ⟨rfl,rfl⟩
  go_wp2_with fail
  refine HB.out.mono ?_
  rintro e w1 ⟨rfl,rfl⟩
  go_wp2_with fail
  refine HA.out.mono ?_
  rintro e w1 ⟨rfl,rfl⟩
  go_wp2_with fail
  refine HB.out.mono ?_
  rintro e w1 ⟨rfl,rfl⟩
  go_wp2_with fail
  refine HA.out.mono ?_
  rintro e w1 ⟨rfl,rfl⟩
  go_wp2_with fail
  refine HR.out.mono ?_
  rintro e w1 ⟨b3,v3,rfl,h3⟩
  have H3:=Lh h3
  clear h3
  go_wp2_with fail
  go_ret2
  have k2:=H3.out.apart H0.out.1
  exact⟨_,_,_,_,_,_,_,rfl,k2.2.2,H3.out.ia,H3.out.mod,.inl rfl,.inr H3.out.own.1,k2.1,0,k,by omega,rfl,by simp,rfl,.inl rfl⟩
end Go.Proofs.YtcpjclakdpjjfaaGreatDoor
