/- Contracts of the words' arithmetic (math/bits, bigall/arith. -/
import Derived.Test.YtcpjclakdpjjfaaGreatDoorC01
import Derived.Test.YtcpjclakdpjjfaaGreatDoorC02
import Derived.Deep.DeepCutAuto
import Derived.Deep.CutBlock
set_option maxHeartbeats 2000000
namespace Go.Proofs.YtcpjclakdpjjfaaGreatDoor
open Go.RowKit Wd
def sub64Entry:Array Value→Sem Value:=fun args=>do
 let (x,y,b) ←Extern.MathBitsCarry.three "Sub64" args
 pure (Extern.MathBitsCarry.pair ((x+Extern.MathBitsCarry.m64-y-b)%Extern.MathBitsCarry.m64) (if x<y+b then 1 else 0))
def AddOk (x y c s r:Nat):Prop:=s<B∧r≤1∧s+B*r=x+y+c
def SubOk (x y c s r:Nat):Prop:=s<B∧r≤1∧s+y+c=x+B*r
theorem run235 (x y c:Nat) (hx:x<B) (hy:y<B) (hc:c≤1):∃s r:Nat,(∀w:World,(callFunc 235 #[.int .u64 x,.int .u64 y,.int .u64 c]).run Tryz.prog w=
 .ok (.value (.tuple #[.int .u64 s,.int .u64 r])) w)∧AddOk x y c s r:=by
 refine⟨(x+y+c)%B,(x+y+c)/B,fun w=>?_,Nat.mod_lt _ B_pos,?_,?_⟩
 ·rw[run_callFunc_extern (e:=add64Entry) Tryz.func235 (by kernel_rfl) (by kernel_rfl) (by kernel_rfl) (by kernel_rfl),
   run_add64 _ _ _ (by omega) (by omega) (by omega) (by omega),B_eq]
  rfl
 ·rw[B_eq] at*;omega
 ·rw[Nat.add_comm,Nat.div_add_mod]
theorem run237 (x y c:Nat) (hx:x<B) (hy:y<B) (hc:c≤1):∃s r:Nat,(∀w:World,(callFunc 237 #[.int .u64 x,.int .u64 y,.int .u64 c]).run Tryz.prog w=
 .ok (.value (.tuple #[.int .u64 s,.int .u64 r])) w)∧SubOk x y c s r:=by
 refine⟨(x+B-y-c)%B,if x<y+c then 1 else 0,fun w=>?_,Nat.mod_lt _ B_pos,?_,?_⟩
 ·rw[run_callFunc_extern (e:=sub64Entry) Tryz.func237 (by kernel_rfl) (by kernel_rfl) (by kernel_rfl) (by kernel_rfl),B_eq]
  have:c=0∨c=1:=by omega
  rcases this with rfl|rfl<;>rfl
 ·split<;>omega
 ·rw[B_eq] at*;split<;>omega
theorem Add_calls (x y c:Nat) (w:World) (hx:x<B) (hy:y<B) (hc:c≤1):
 Calls Tryz.prog 210 #[.int .u64 x,.int .u64 y,.int .u64 c] w fun e w'=>∃s r:Nat,e=.returned (.tuple #[.int .u64 s,.int .u64 r])∧w=w'∧AddOk x y c s r:=by
 obtain⟨s,r,H,hok⟩:=run235 x y c hx hy hc
 go_enter Tryz.func210,Tryz.ntmps210
 go_wp2
 go_ret2
 exact⟨s,r,rfl,rfl,hok⟩
theorem Sub_calls (x y c:Nat) (w:World) (hx:x<B) (hy:y<B) (hc:c≤1):
 Calls Tryz.prog 212 #[.int .u64 x,.int .u64 y,.int .u64 c] w fun e w'=>∃s r:Nat,e=.returned (.tuple #[.int .u64 s,.int .u64 r])∧w=w'∧SubOk x y c s r:=by
 obtain⟨s,r,H,hok⟩:=run237 x y c hx hy hc
 go_enter Tryz.func212,Tryz.ntmps212
 go_wp2
 go_ret2
 exact⟨s,r,rfl,rfl,hok⟩
def MulOk (x y c h l:Nat):Prop:=h<B∧l<B∧h*B+l=x*y+c
theorem Mul_calls (x y:Nat) (w:World) (hx:x<B) (hy:y<B):
 Calls Tryz.prog 201 #[.int .u64 x,.int .u64 y] w fun e w'=>∃h l:Nat,e=.returned (.tuple #[.int .u64 h,.int .u64 l])∧w=w'∧MulOk x y 0 h l:=by
 refine(Tryz.bits_Mul x y (by rw[B_eq] at hx;exact hx) (by rw[B_eq] at hy;exact hy) w).mono ?_
 rintro e w' ⟨he,hw⟩
 rw[←B_eq] at he
 refine⟨_,_,he,hw.symm,?_,Nat.mod_lt _ B_pos,?_⟩
 ·rw[Nat.div_lt_iff_lt_mul B_pos]
  exact Nat.mul_lt_mul'' hx hy
 ·rw[Nat.mul_comm (x*y/B),Nat.div_add_mod];rfl
theorem mulWW_calls (x y:Nat) (w:World) (hx:x<B) (hy:y<B):
 Calls Tryz.prog 174 #[.int .u64 x,.int .u64 y] w fun e w'=>∃h l:Nat,e=.returned (.tuple #[.int .u64 h,.int .u64 l])∧w=w'∧MulOk x y 0 h l:=by
 go_enter Tryz.func174,Tryz.ntmps174
 go_wp2_with (go_at_call 201;refine(Mul_calls _ _ _ hx hy).mono ?_;rintro e w' ⟨h,l,rfl,rfl,hok⟩)
 go_ret2
 exact⟨h,l,rfl,rfl,hok⟩
theorem mulAdd_word {x y c h l s r:Nat} (hx:x<B) (hy:y<B) (hc:c<B) (hm:MulOk x y 0 h l) (ha:AddOk l c 0 s r):h+r<B∧MulOk x y c (h+r) s:=by
 obtain⟨h1,h2,h3⟩:=hm
 obtain⟨a1,a2,a3⟩:=ha
 have e:(h+r)*B+s=x*y+c:=by rw[Nat.add_mul,Nat.mul_comm r];omega
 have hlt:h+r<B:=by
  have k1:x*y≤(B-1)*(B-1):=Nat.mul_le_mul (by omega) (by omega)
  have k2:(h+r)*B≤(B-1)*(B-1)+(B-1):=by omega
  have k3:(B-1)*(B-1)+(B-1)=(B-1)*B:=by
   have:=B_pos
   generalize B=b at*
   obtain⟨d,rfl⟩:∃d,b=d+1:=⟨b-1,by omega⟩
   rw[Nat.add_sub_cancel,Nat.mul_add];omega
  rw[k3] at k2
  have:=Nat.le_of_mul_le_mul_right k2 B_pos
  have:=B_pos
  omega
 exact⟨hlt,hlt,a1,e⟩
theorem mulAddWWW_calls (x y c:Nat) (w:World) (hx:x<B) (hy:y<B) (hc:c<B):
 Calls Tryz.prog 254 #[.int .u64 x,.int .u64 y,.int .u64 c] w fun e w'=>∃h l:Nat,e=.returned (.tuple #[.int .u64 h,.int .u64 l])∧w=w'∧MulOk x y c h l:=by
 go_enter Tryz.func254,Tryz.ntmps254
 go_wp2_with fail
 refine(Mul_calls _ _ _ hx hy).mono ?_
 rintro e w' ⟨h,l,rfl,rfl,hm⟩
 go_wp2_with fail
 refine(Add_calls _ _ 0 _ hm.2.1 hc (by omega)).mono ?_
 rintro e w' ⟨s,r,rfl,rfl,ha⟩
 obtain⟨hlt,hok⟩:=mulAdd_word hx hy hc hm ha
 go_wp2
 go_ret2
 exact⟨h+r,s,by rw[←u64_nat hlt];rfl,rfl,hok⟩
theorem bitLen_log2 {x:Nat} (h0:x≠0) (hx:x<B):Lib.bitLen x=Nat.log2 x+1:=by
 have h1:2^Nat.log2 x≤x:=Nat.log2_self_le h0
 have h3:x<2^64:=by rw[B_eq] at hx;exact hx
 rw[Lib.bitLen_shift _ _ h1 h3]
 have h2:x<2^(Nat.log2 x+1):=Nat.lt_log2_self
 have e:x/2^Nat.log2 x=1:=by
  have hp:0<2^Nat.log2 x:=Nat.pow_pos (by omega)
  refine Nat.div_eq_of_lt_le ?_ ?_
  ·rw[Nat.one_mul];exact h1
  ·rw[Nat.pow_succ] at h2;omega
 rw[e];rfl
def NlzOk (x n:Nat):Prop:=n<64∧2^63≤x*2^n∧x*2^n<2^64
theorem nlz_calls (x:Nat) (w:World) (hx:x<B) (h0:x≠0):
 Calls Tryz.prog 258 #[.int .u64 x] w fun e w'=>∃n:Nat,e=.returned (.int .u64 n)∧w=w'∧NlzOk x n:=by
 go_enter Tryz.func258,Tryz.ntmps258
 go_wp2_with fail
 refine(Tryz.bits_LeadingZeros _ _ (by omega) (by rw[B_eq] at hx;omega)).mono ?_
 rintro e w' ⟨rfl,hw⟩
 subst hw
 have hl:Nat.log2 x<64:=(Nat.log2_lt h0).2 (by rw[B_eq] at hx;exact hx)
 have e:(x:Int).toNat=x:=Int.toNat_natCast x
 rw[e,bitLen_log2 h0 hx]
 have h1:2^Nat.log2 x≤x:=Nat.log2_self_le h0
 have h2:x<2^(Nat.log2 x+1):=Nat.lt_log2_self
 have hok:NlzOk x (63-Nat.log2 x):=by
  refine⟨by omega,?_,?_⟩
  ·have:2^63=2^Nat.log2 x*2^(63-Nat.log2 x):=by rw[←Nat.pow_add];congr 1;omega
   rw[this];exact Nat.mul_le_mul_right _ h1
  ·have:2^64=2^(Nat.log2 x+1)*2^(63-Nat.log2 x):=by rw[←Nat.pow_add];congr 1;omega
   rw[this];exact Nat.mul_lt_mul_of_pos_right h2 (Nat.pow_pos (by omega))
 have e2:(64:Int)-((Nat.log2 x+1:Nat):Int)=((63-Nat.log2 x:Nat):Int):=by omega
 rw[e2]
 generalize 63-Nat.log2 x=n at*
 clear e2 h1 h2 hl e
 have hu:IntKind.u64.wrap (n:Int)=n:=u64_nat (by have:=hok.1;rw[B_eq];omega)
 go_wp2
 go_ret
 exact⟨n,rfl,rfl,hok⟩
structure Guess (u d1 q g r:Nat):Prop where
 rem:r+g*d1=u
 low:q≤g
 high:g≤4294967297
 small:r<4294967296
theorem Guess.step {u d1 d0 n0 q g r:Nat} (h:Guess u d1 q g r) (hq:q=(u*4294967296+n0)/(d1*4294967296+d0)) (hqb:q<4294967296)
 (hc:4294967296≤g∨4294967296*r+n0<g*d0):r+d1+(g-1)*d1=u∧q≤g-1∧0<g:=by
 have hlow:=h.low
 have hg:q<g:=by
  rcases hc with hc|hc
  ·omega
  ·have:=guess_dec h.rem hc
   rcases Nat.lt_or_ge q g with h'|h'
   ·exact h'
   ·have e:g=q:=by omega
    subst e
    have h3:=Nat.div_mul_le_self (u*4294967296+n0) (d1*4294967296+d0)
    rw[←hq] at h3
    omega
 refine⟨?_,by omega,by omega⟩
 obtain⟨p,rfl⟩:∃p,g=p+1:=⟨g-1,by omega⟩
 have:=h.rem
 rw[Nat.add_mul,Nat.one_mul] at this
 rw[Nat.add_sub_cancel];omega
theorem Guess.stop {u d1 d0 n0 q g r:Nat} (hr:r+g*d1=u) (hlow:q≤g) (hq:q=(u*4294967296+n0)/(d1*4294967296+d0)) (hd:0<d1*4294967296+d0)
 (hc:g*d0≤4294967296*r+n0):g=q:=by
 have h1:=guess_ok hr hc
 have h2:g≤q:=by rw[hq,Nat.le_div_iff_mul_le hd];exact h1
 omega
theorem div_two {b y h u1 u0:Nat} (hy:0<y):
 (h*b*b+u1*b+u0)/y=(h*b+u1)/y*b+((h*b+u1)%y*b+u0)/y∧(h*b*b+u1*b+u0)%y=((h*b+u1)%y*b+u0)%y:=by
 have h1:=Nat.div_add_mod (h*b+u1) y
 generalize hq:(h*b+u1)/y=q at*
 generalize hr:(h*b+u1)%y=r at*
 have e:h*b*b+u1*b+u0=(r*b+u0)+y*(q*b):=by
  have:(y*q+r)*b=(h*b+u1)*b:=by rw[h1]
  rw[Nat.add_mul,Nat.add_mul,Nat.mul_assoc] at this
  omega
 rw[e,Nat.add_mul_div_left _ _ hy,Nat.add_mul_mod_self_left,Nat.add_comm]
 exact⟨rfl,rfl⟩
theorem w_add {a b:Nat} (h:a+b<B):IntKind.u64.wrap ((a:Int)+(b:Int))=((a+b:Nat):Int):=u64_nat h
theorem w_mul {a b:Nat} (h:a*b<B):IntKind.u64.wrap ((a:Int)*(b:Int))=((a*b:Nat):Int):=u64_nat h
theorem w_sub {a b:Nat} (h:b≤a) (ha:a<B):IntKind.u64.wrap ((a:Int)-(b:Int))=((a-b:Nat):Int):=by
 have e:(a:Int)-(b:Int)=((a-b:Nat):Int):=by omega
 rw[e];exact u64_nat (by omega)
theorem w_mod3 (x u z:Int):IntKind.u64.wrap (IntKind.u64.wrap (IntKind.u64.wrap x+u)-IntKind.u64.wrap z)=IntKind.u64.wrap (x+u-z):=by
 simp only[IntKind.wrap_u64];omega
theorem cast_dm {y q u h b u1:Nat} (hd:y*q+u=h*b+u1) (bi:Int) (hb:bi=b):(h:Int)*bi+u1-(q:Int)*y=u:=by
 have:((y*q+u:Nat):Int)=((h*b+u1:Nat):Int):=by rw[hd]
 push_cast at this
 rw[hb,Int.mul_comm (q:Int)]
 omega
theorem div64_long (hi d1 d0 u1 u0:Nat) (w:World) (hh:0<hi) (hy:hi<d1*4294967296+d0) (hn:2147483648≤d1) (hd1:d1<4294967296) (hd0:d0<4294967296) (hu1:u1<4294967296) (hu0:u0<4294967296):
 Calls Tryz.prog 290 #[.int .u64 hi,.int .u64 (u1*4294967296+u0:Nat),.int .u64 (d1*4294967296+d0:Nat)] w fun e w'=>∃q r:Nat,e=.returned (.tuple #[.int .u64 q,.int .u64 r])∧w=w'∧
  q=(hi*B+(u1*4294967296+u0))/(d1*4294967296+d0)∧r=(hi*B+(u1*4294967296+u0))%(d1*4294967296+d0):=by
 obtain⟨y,hY⟩:∃y,y=d1*4294967296+d0:=⟨_,rfl⟩
 obtain⟨lo,hL⟩:∃y,y=u1*4294967296+u0:=⟨_,rfl⟩
 rw[←hY,←hL]
 rw[←hY] at hy
 have hyn:9223372036854775808≤y:=by omega
 have hyB:y<18446744073709551616:=by omega
 have hlB:lo<18446744073709551616:=by omega
 have h1:((y:Int)==0)=false:=by simp;omega
 have h2:decide (y≤hi)=false:=by simp;omega
 have h3:((hi:Int)==0)=false:=by simp;omega
 have e1:(y:Int)/4294967296=d1:=by omega
 have e2:bits BinOp.and IntKind.u64 (y:Int) 4294967295=d0:=by rw[and_low32 _ (by omega) (by omega)];omega
 have e3:bits BinOp.or IntKind.u64 (hi:Int) ((lo:Int)/18446744073709551616)=hi:=by
  have:(lo:Int)/18446744073709551616=0:=by omega
  rw[this]
  exact(bits_or_u64_nat hi 0 (by omega) (by omega)).trans (by simp)
 have e4:(lo:Int)/4294967296=u1:=by omega
 have e5:bits BinOp.and IntKind.u64 (lo:Int) 4294967295=u0:=by rw[and_low32 _ (by omega) (by omega)];omega
 obtain⟨g1,hg1⟩:∃g,g=hi/d1:=⟨_,rfl⟩
 have hd1p:0<d1:=by omega
 have hg1b:g1≤4294967297:=by rw[hg1];exact guess_high (b:=4294967296) (by omega) hd0 (by omega)
 have hgm:g1*d1≤hi:=by rw[hg1];exact Nat.div_mul_le_self _ _
 have hgr:hi-g1*d1<d1:=by
  have:=Nat.mod_lt hi hd1p
  have:=Nat.div_add_mod hi d1
  rw[Nat.mul_comm,←hg1] at this
  omega
 have e6:(hi:Int)/(d1:Int)=g1:=by rw[hg1];rfl
 have e6':IntKind.u64.wrap (g1:Int)=g1:=u64_nat (by rw[B_eq];omega)
 have e7:IntKind.u64.wrap ((g1:Int)*(d1:Int))=((g1*d1:Nat):Int):=w_mul (by rw[B_eq];omega)
 obtain⟨r1,hr1⟩:∃r,r=hi-g1*d1:=⟨_,rfl⟩
 have e8:IntKind.u64.wrap ((hi:Int)-((g1*d1:Nat):Int))=r1:=by rw[w_sub hgm (by rw[B_eq];omega),hr1]
 have hG:Guess hi d1 ((hi*4294967296+u1)/(d1*4294967296+d0)) g1 r1:=by
  refine⟨by omega,?_,hg1b,by omega⟩
  rw[hg1]
  exact guess_first hd1p hu1 (Nat.div_mul_le_self _ _)
 obtain⟨q1,hq1⟩:∃q,q=(hi*4294967296+u1)/(d1*4294967296+d0):=⟨_,rfl⟩
 rw[←hq1] at hG
 have hq1b:q1<4294967296:=by rw[hq1,Nat.div_lt_iff_lt_mul (by omega),←hY];omega
 have HQ1:=Lh hq1
 clear hq1
 generalize g1*d1=gd at*
 have E1:=Lh hY;have E2:=Lh hL;have E3:=Lh hg1;have E4:=Lh hr1
 have e0:Lib.bitLen y=64:=by
  rw[bitLen_log2 (by omega) (by rw[B_eq];exact hyB)]
  have:=(Nat.log2_lt (n:=y) (k:=64) (by omega)).2 hyB
  have:=(Nat.le_log2 (n:=y) (k:=63) (by omega)).2 hyn
  omega
 have wy:IntKind.u64.wrap (y:Int)=y:=u64_nat (by rw[B_eq];omega)
 have wl:IntKind.u64.wrap (lo:Int)=lo:=u64_nat (by rw[B_eq];omega)
 have wh:IntKind.u64.wrap (hi:Int)=hi:=u64_nat (by rw[B_eq];omega)
 have F:=Lh (Aj hyn (Aj hyB (Aj hlB (Aj hn (Aj hd1 (Aj hd0 (Aj hu1 (Aj hu0 (Aj hg1b hq1b)))))))))
 have hlz:=Tryz.bits_LeadingZeros64 (y:Int) w (by omega) (by omega)
 rw[Int.toNat_natCast,e0] at hlz
 clear hY hL hg1 hr1 hyn hyB hlB hn hd1 hd0 hu1 hu0 hg1b hq1b e0 hgm hgr hy hh
 go_enter Tryz.func290,Tryz.ntmps290
 go_wp2_with fail
 refine hlz.mono ?_
 rintro e w' ⟨rfl,hw⟩
 clear hlz
 subst hw
 go_upto_block 0 with fail
 go_cut [15] (fun s15 wx=>s15=.int .u64 (q1:Nat)∧w'=wx)
 case first=>
  go_wp2_with fail
  go_loop [15,16] (fun s r=>∃g k:Nat,s=.int .u64 g∧r=.int .u64 k∧Guess hi d1 q1 g k) (fun s _=>(intOf s).toNat)
  case atStart=>exact⟨g1,r1,rfl,rfl,hG⟩
  case round=>
   obtain⟨g,k,rfl,rfl,hgk⟩:=hrel
   obtain⟨hyn,hyB,hlB,hn,hd1,hd0,hu1,hu0,hg1b,hq1b⟩:=F.out
   have k1:=hgk.high
   have k2:=hgk.small
   have k3:=hgk.low
   by_cases hcont:4294967296≤g∨4294967296*k+u1<g*d0
   ·obtain⟨s1,s2,s3⟩:=hgk.step HQ1.out hq1b hcont
    obtain⟨p,hp⟩:∃p,p+1=g:=⟨g-1,by omega⟩
    have hp':g-1=p:=by omega
    rw[hp'] at s1 s2
    have t6:(g:Int)-1=p:=by omega
    have t6':IntKind.u64.wrap (p:Int)=p:=u64_nat (by rw[B_eq];omega)
    obtain⟨k',hk'⟩:∃k',k'=k+d1:=⟨_,rfl⟩
    have t7:IntKind.u64.wrap ((k:Int)+(d1:Int))=k':=by rw[hk'];exact w_add (by rw[B_eq];omega)
    rw[←hk'] at s1
    have HP:=Lh hp
    have fin:4294967296≤k'→p=q1:=fun h8=>by
     refine Guess.stop s1 s2 HQ1.out (by omega) ?_
     have:p*d0≤4294967296*4294967295:=Nat.mul_le_mul (by omega) (by omega)
     have:4294967296*4294967296≤4294967296*k':=Nat.mul_le_mul_left _ h8
     omega
    have hG':k'<4294967296→Guess hi d1 q1 p k':=fun h8=>⟨s1,s2,by omega,h8⟩
    have t8:decide (4294967296≤(k':Int))=decide (4294967296≤k'):=by rw[decide_eq_decide];omega
    rcases Nat.lt_or_ge g 4294967296 with hg|hg
    ·have hc:4294967296*k+u1<g*d0:=hcont.resolve_left (by omega)
     have t1:decide (4294967296≤(g:Int))=false:=by simp;omega
     have t2:IntKind.u64.wrap ((g:Int)*(d0:Int))=((g*d0:Nat):Int):=w_mul (by
      have:g*d0≤4294967295*4294967295:=Nat.mul_le_mul (by omega) (by omega)
      rw[B_eq];omega)
     have t3:IntKind.u64.wrap (4294967296*(k:Int))=((4294967296*k:Nat):Int):=w_mul (a:=4294967296) (by rw[B_eq];omega)
     have t4:IntKind.u64.wrap (((4294967296*k:Nat):Int)+(u1:Int))=((4294967296*k+u1:Nat):Int):=w_add (by rw[B_eq];omega)
     have t5:decide (4294967296*k+u1<g*d0)=true:=by simp;omega
     generalize 4294967296*k+u1=m1 at*
     generalize 4294967296*k=m0 at*
     generalize g*d0=m2 at*
     rcases Nat.lt_or_ge k' 4294967296 with h8|h8
     ·have t9:decide (4294967296≤(k':Int))=false:=by simp;omega
      have hG2:=hG' h8
      clear hc hyn hyB hlB hn hd1 hd0 hu1 hu0 hg1b hq1b k1 k2 k3 hg s1 s2 s3 hp hp' hk' h8 hgk t8 hcont fin hG'
      go_wp2_with fail
      exact⟨⟨p,k',rfl,rfl,hG2⟩,by simp[intOf];have:=HP.out;omega⟩
     ·have t9:decide (4294967296≤(k':Int))=true:=by simp;omega
      have hf:=fin h8
      subst hf
      clear hc hyn hyB hlB hn hd1 hd0 hu1 hu0 hg1b hq1b k1 k2 k3 hg s1 s2 s3 hp hp' hk' h8 hgk t8 hcont fin hG'
      go_wp2_with fail
      go_meet
      exact⟨rfl,rfl⟩
    ·have t1:decide (4294967296≤(g:Int))=true:=by simp;omega
     rcases Nat.lt_or_ge k' 4294967296 with h8|h8
     ·have t9:decide (4294967296≤(k':Int))=false:=by simp;omega
      have hG2:=hG' h8
      clear hyn hyB hlB hn hd1 hd0 hu1 hu0 hg1b hq1b k1 k2 k3 hg s1 s2 s3 hp hp' hk' h8 hgk t8 hcont fin hG'
      go_wp2_with fail
      exact⟨⟨p,k',rfl,rfl,hG2⟩,by simp[intOf];have:=HP.out;omega⟩
     ·have t9:decide (4294967296≤(k':Int))=true:=by simp;omega
      have hf:=fin h8
      subst hf
      clear hyn hyB hlB hn hd1 hd0 hu1 hu0 hg1b hq1b k1 k2 k3 hg s1 s2 s3 hp hp' hk' h8 hgk t8 hcont fin hG'
      go_wp2_with fail
      go_meet
      exact⟨rfl,rfl⟩
   ·have hg:g<4294967296:=by omega
    have hc:g*d0≤4294967296*k+u1:=by omega
    have t1:decide (4294967296≤(g:Int))=false:=by simp;omega
    have t2:IntKind.u64.wrap ((g:Int)*(d0:Int))=((g*d0:Nat):Int):=w_mul (by
     have:g*d0≤4294967295*4294967295:=Nat.mul_le_mul (by omega) (by omega)
     rw[B_eq];omega)
    have t3:IntKind.u64.wrap (4294967296*(k:Int))=((4294967296*k:Nat):Int):=w_mul (a:=4294967296) (by rw[B_eq];omega)
    have t4:IntKind.u64.wrap (((4294967296*k:Nat):Int)+(u1:Int))=((4294967296*k+u1:Nat):Int):=w_add (by rw[B_eq];omega)
    have hfin:=Guess.stop hgk.rem hgk.low HQ1.out (by omega) hc
    subst hfin
    have t5:decide (4294967296*k+u1<g*d0)=false:=by simp;omega
    generalize 4294967296*k+u1=m1 at*
    generalize 4294967296*k=m0 at*
    generalize g*d0=m2 at*
    clear hc hyn hyB hlB hn hd1 hd0 hu1 hu0 hg1b hq1b k1 k2 k3 hg hcont
    go_wp2_with fail
    go_meet
    exact⟨rfl,rfl⟩
 case rest=>
  obtain⟨rfl,rfl⟩:=hcut
  obtain⟨hyn,hyB,hlB,hn,hd1,hd0,hu1,hu0,hg1b,hq1b⟩:=F.out
  have hY:=E1.out
  have hL:=E2.out
  have hq1:=HQ1.out
  have hyp:0<y:=by omega
  obtain⟨un,hun⟩:∃u,u=(hi*4294967296+u1)%y:=⟨_,rfl⟩
  have hunlt:un<y:=by rw[hun];exact Nat.mod_lt _ hyp
  rw[←hY] at hq1
  have hdm:y*q1+un=hi*4294967296+u1:=by rw[hun,hq1];exact Nat.div_add_mod _ _
  have e9:IntKind.u64.wrap (IntKind.u64.wrap (IntKind.u64.wrap ((hi:Int)*4294967296)+(u1:Int))-IntKind.u64.wrap ((q1:Int)*(y:Int)))=un:=by
   rw[w_mod3]
   have e:(hi:Int)*4294967296+u1-(q1:Int)*y=un:=
    cast_dm hdm 4294967296 (by omega)
   rw[e];exact u64_nat (by rw[B_eq];omega)
  obtain⟨q0,hq0⟩:∃q,q=(un*4294967296+u0)/(d1*4294967296+d0):=⟨_,rfl⟩
  have hq0b:q0<4294967296:=by rw[hq0,Nat.div_lt_iff_lt_mul (by omega),←hY];omega
  obtain⟨g2,hg2⟩:∃g,g=un/d1:=⟨_,rfl⟩
  have hg2b:g2≤4294967297:=by rw[hg2];exact guess_high (b:=4294967296) (by omega) hd0 (by omega)
  have hgm:g2*d1≤un:=by rw[hg2];exact Nat.div_mul_le_self _ _
  have hgr:un-g2*d1<d1:=by
   have:=Nat.mod_lt un hd1p
   have:=Nat.div_add_mod un d1
   rw[Nat.mul_comm,←hg2] at this
   omega
  have f6:(un:Int)/(d1:Int)=g2:=by rw[hg2];rfl
  have f6':IntKind.u64.wrap (g2:Int)=g2:=u64_nat (by rw[B_eq];omega)
  have f7:IntKind.u64.wrap ((g2:Int)*(d1:Int))=((g2*d1:Nat):Int):=w_mul (by rw[B_eq];omega)
  obtain⟨r2,hr2⟩:∃r,r=un-g2*d1:=⟨_,rfl⟩
  have f8:IntKind.u64.wrap ((un:Int)-((g2*d1:Nat):Int))=r2:=by rw[w_sub hgm (by rw[B_eq];omega),hr2]
  have hG2:Guess un d1 q0 g2 r2:=by
   refine⟨by omega,?_,hg2b,by omega⟩
   rw[hg2,hq0]
   exact guess_first hd1p hu0 (Nat.div_mul_le_self _ _)
  obtain⟨rm,hrm⟩:∃r,r=(un*4294967296+u0)%y:=⟨_,rfl⟩
  have hrmlt:rm<y:=by rw[hrm];exact Nat.mod_lt _ hyp
  have hdm2:y*q0+rm=un*4294967296+u0:=by rw[hrm,hq0,←hY];exact Nat.div_add_mod _ _
  have f9:IntKind.u64.wrap (IntKind.u64.wrap (IntKind.u64.wrap ((un:Int)*4294967296)+(u0:Int))-IntKind.u64.wrap ((q0:Int)*(y:Int)))=rm:=by
   rw[w_mod3]
   have e:(un:Int)*4294967296+u0-(q0:Int)*y=rm:=
    cast_dm hdm2 4294967296 (by omega)
   rw[e];exact u64_nat (by rw[B_eq];omega)
  obtain⟨q,hq⟩:∃q,q=q1*4294967296+q0:=⟨_,rfl⟩
  have f10:IntKind.u64.wrap (IntKind.u64.wrap ((q1:Int)*4294967296)+(q0:Int))=q:=by
   have e:(q1:Int)*4294967296=((q1*4294967296:Nat):Int):=by omega
   rw[e,u64_nat (by rw[B_eq];omega),hq]
   exact w_add (by rw[B_eq];omega)
  have hres:=div_two (b:=4294967296) (h:=hi) (u1:=u1) (u0:=u0) hyp
  have hBB:hi*B+lo=hi*4294967296*4294967296+u1*4294967296+u0:=by rw[B_eq,hL];omega
  rw[←hBB,←hq1,←hun] at hres
  have hq0':=hq0
  rw[←hY] at hq0'
  rw[←hq0',←hrm,←hq] at hres
  have HR:=Lh hres
  have HQ0:=Lh hq0
  generalize g2*d1=gd2 at*
  have F2:=Lh (Aj hyn (Aj hyB (Aj hlB (Aj hn (Aj hd1 (Aj hd0 (Aj hu1 (Aj hu0 (Aj hg2b hq0b)))))))))
  clear hyn hyB hlB hn hd1 hd0 hu1 hu0 hg1b hq1b hY hL hq1 hyp hun hunlt hdm hq0 hq0b hg2 hg2b hgm hgr hr2 hrm hrmlt hdm2 hq hres hBB hq0' e1 e2 e3 e4 e5 e6 e6' e7 e8 HQ1 hG
  go_upto_block 2 with fail
  go_cut [18] (fun s18 wx=>s18=.int .u64 (q0:Nat)∧w'=wx)
  case first=>
   go_wp2_with fail
   go_loop [18,16] (fun s r=>∃g k:Nat,s=.int .u64 g∧r=.int .u64 k∧Guess un d1 q0 g k) (fun s _=>(intOf s).toNat)
   case atStart=>exact⟨g2,r2,rfl,rfl,hG2⟩
   case round=>
    obtain⟨g,k,rfl,rfl,hgk⟩:=hrel
    obtain⟨hyn,hyB,hlB,hn,hd1,hd0,hu1,hu0,hg2b,hq0b⟩:=F2.out
    have k1:=hgk.high
    have k2:=hgk.small
    have k3:=hgk.low
    by_cases hcont:4294967296≤g∨4294967296*k+u0<g*d0
    ·obtain⟨s1,s2,s3⟩:=hgk.step HQ0.out hq0b hcont
     obtain⟨p,hp⟩:∃p,p+1=g:=⟨g-1,by omega⟩
     have hp':g-1=p:=by omega
     rw[hp'] at s1 s2
     have t6:(g:Int)-1=p:=by omega
     have t6':IntKind.u64.wrap (p:Int)=p:=u64_nat (by rw[B_eq];omega)
     obtain⟨k',hk'⟩:∃k',k'=k+d1:=⟨_,rfl⟩
     have t7:IntKind.u64.wrap ((k:Int)+(d1:Int))=k':=by rw[hk'];exact w_add (by rw[B_eq];omega)
     rw[←hk'] at s1
     have HP:=Lh hp
     have fin:4294967296≤k'→p=q0:=fun h8=>by
      refine Guess.stop s1 s2 HQ0.out (by omega) ?_
      have:p*d0≤4294967296*4294967295:=Nat.mul_le_mul (by omega) (by omega)
      have:4294967296*4294967296≤4294967296*k':=Nat.mul_le_mul_left _ h8
      omega
     have hG':k'<4294967296→Guess un d1 q0 p k':=fun h8=>⟨s1,s2,by omega,h8⟩
     have t8:decide (4294967296≤(k':Int))=decide (4294967296≤k'):=by rw[decide_eq_decide];omega
     rcases Nat.lt_or_ge g 4294967296 with hg|hg
     ·have hc:4294967296*k+u0<g*d0:=hcont.resolve_left (by omega)
      have t1:decide (4294967296≤(g:Int))=false:=by simp;omega
      have t2:IntKind.u64.wrap ((g:Int)*(d0:Int))=((g*d0:Nat):Int):=w_mul (by
       have:g*d0≤4294967295*4294967295:=Nat.mul_le_mul (by omega) (by omega)
       rw[B_eq];omega)
      have t3:IntKind.u64.wrap (4294967296*(k:Int))=((4294967296*k:Nat):Int):=w_mul (a:=4294967296) (by rw[B_eq];omega)
      have t4:IntKind.u64.wrap (((4294967296*k:Nat):Int)+(u0:Int))=((4294967296*k+u0:Nat):Int):=w_add (by rw[B_eq];omega)
      have t5:decide (4294967296*k+u0<g*d0)=true:=by simp;omega
      generalize 4294967296*k+u0=m1 at*
      generalize 4294967296*k=m0 at*
      generalize g*d0=m2 at*
      rcases Nat.lt_or_ge k' 4294967296 with h8|h8
      ·have t9:decide (4294967296≤(k':Int))=false:=by simp;omega
       have hG3:=hG' h8
       clear hc hyn hyB hlB hn hd1 hd0 hu1 hu0 hg2b hq0b k1 k2 k3 hg s1 s2 s3 hp hp' hk' h8 hgk t8 hcont fin hG'
       go_wp2_with fail
       exact⟨⟨p,k',rfl,rfl,hG3⟩,by simp[intOf];have:=HP.out;omega⟩
      ·have t9:decide (4294967296≤(k':Int))=true:=by simp;omega
       have hf:=fin h8
       subst hf
       clear hc hyn hyB hlB hn hd1 hd0 hu1 hu0 hg2b hq0b k1 k2 k3 hg s1 s2 s3 hp hp' hk' h8 hgk t8 hcont fin hG'
       go_wp2_with fail
       go_meet
       exact⟨rfl,rfl⟩
     ·have t1:decide (4294967296≤(g:Int))=true:=by simp;omega
      rcases Nat.lt_or_ge k' 4294967296 with h8|h8
      ·have t9:decide (4294967296≤(k':Int))=false:=by simp;omega
       have hG3:=hG' h8
       clear hyn hyB hlB hn hd1 hd0 hu1 hu0 hg2b hq0b k1 k2 k3 hg s1 s2 s3 hp hp' hk' h8 hgk t8 hcont fin hG'
       go_wp2_with fail
       exact⟨⟨p,k',rfl,rfl,hG3⟩,by simp[intOf];have:=HP.out;omega⟩
      ·have t9:decide (4294967296≤(k':Int))=true:=by simp;omega
       have hf:=fin h8
       subst hf
       clear hyn hyB hlB hn hd1 hd0 hu1 hu0 hg2b hq0b k1 k2 k3 hg s1 s2 s3 hp hp' hk' h8 hgk t8 hcont fin hG'
       go_wp2_with fail
       go_meet
       exact⟨rfl,rfl⟩
    ·have hg:g<4294967296:=by omega
     have hc:g*d0≤4294967296*k+u0:=by omega
     have t1:decide (4294967296≤(g:Int))=false:=by simp;omega
     have t2:IntKind.u64.wrap ((g:Int)*(d0:Int))=((g*d0:Nat):Int):=w_mul (by
      have:g*d0≤4294967295*4294967295:=Nat.mul_le_mul (by omega) (by omega)
      rw[B_eq];omega)
     have t3:IntKind.u64.wrap (4294967296*(k:Int))=((4294967296*k:Nat):Int):=w_mul (a:=4294967296) (by rw[B_eq];omega)
     have t4:IntKind.u64.wrap (((4294967296*k:Nat):Int)+(u0:Int))=((4294967296*k+u0:Nat):Int):=w_add (by rw[B_eq];omega)
     have hfin:=Guess.stop hgk.rem hgk.low HQ0.out (by omega) hc
     subst hfin
     have t5:decide (4294967296*k+u0<g*d0)=false:=by simp;omega
     generalize 4294967296*k+u0=m1 at*
     generalize 4294967296*k=m0 at*
     generalize g*d0=m2 at*
     clear hc hyn hyB hlB hn hd1 hd0 hu1 hu0 hg2b hq0b k1 k2 k3 hg hcont
     go_wp2_with fail
     go_meet
     exact⟨rfl,rfl⟩
  case rest=>
   obtain⟨rfl,rfl⟩:=hcut
   go_wp2_with fail
   go_ret2
   exact⟨q,rm,rfl,rfl,HR.out.1.symm,HR.out.2.symm⟩
theorem div64_short (lo y:Nat) (w:World) (h0:0<y) (hl:lo<B):
 Calls Tryz.prog 290 #[.int .u64 0,.int .u64 lo,.int .u64 y] w fun e w'=>∃q r:Nat,e=.returned (.tuple #[.int .u64 q,.int .u64 r])∧(∃m,w'=w.drewN m)∧q=lo/y∧r=lo%y:=by
 have h1:((y:Int)==0)=false:=by simp;omega
 have h2:decide ((y:Int)≤0)=false:=by simp;omega
 obtain⟨q,hq⟩:∃q,q=lo/y:=⟨_,rfl⟩
 have e1:(lo:Int)/(y:Int)=q:=by rw[hq];rfl
 have e3:IntKind.u64.wrap (q:Int)=q:=u64_nat (by have:=Nat.div_le_self lo y;omega)
 have HQ:=Lh hq
 clear hq hl
 go_enter Tryz.func290,Tryz.ntmps290
 go_wp2
 go_quiet (fail)
 go_wp2
 go_ret2
 exact⟨q,lo%y,rfl,⟨nq,rfl⟩,HQ.out,rfl⟩
theorem div64_calls (hi lo y:Nat) (w:World) (hy:hi<y) (hn:hi=0∨B≤2*y) (hyB:y<B) (hl:lo<B):
 Calls Tryz.prog 290 #[.int .u64 hi,.int .u64 lo,.int .u64 y] w fun e w'=>∃q r:Nat,e=.returned (.tuple #[.int .u64 q,.int .u64 r])∧(∃m,w'=w.drewN m)∧q=(hi*B+lo)/y∧r=(hi*B+lo)%y:=by
 rcases Nat.eq_zero_or_pos hi with h|h
 ·subst h
  rw[Nat.zero_mul,Nat.zero_add]
  exact div64_short lo y w (by omega) hl
 ·have hn':B≤2*y:=hn.resolve_left (by omega)
  rw[B_eq] at hn' hyB hl
  have e1:y=(y/4294967296)*4294967296+y%4294967296:=by omega
  have e2:lo=(lo/4294967296)*4294967296+lo%4294967296:=by omega
  have key:=div64_long hi (y/4294967296) (y%4294967296) (lo/4294967296) (lo%4294967296) w h (by omega) (by omega) (by omega) (by omega) (by omega) (by omega)
  rw[←e1,←e2] at key
  refine key.mono ?_
  rintro e w' ⟨q,r,he,rfl,hq,hr⟩
  exact⟨q,r,he,⟨0,rfl⟩,hq,hr⟩
theorem bitsDiv_calls (hi lo y:Nat) (w:World) (hy:hi<y) (hn:hi=0∨B≤2*y) (hyB:y<B) (hl:lo<B):
 Calls Tryz.prog 272 #[.int .u64 hi,.int .u64 lo,.int .u64 y] w fun e w'=>∃q r:Nat,e=.returned (.tuple #[.int .u64 q,.int .u64 r])∧(∃m,w'=w.drewN m)∧q=(hi*B+lo)/y∧r=(hi*B+lo)%y:=by
 go_enter Tryz.func272,Tryz.ntmps272
 go_wp2_with fail
 refine(div64_calls hi lo y _ hy hn hyB hl).mono ?_
 rintro e w' ⟨q,r,rfl,⟨m,rfl⟩,hq,hr⟩
 have HQ:=Lh hq
 have HR:=Lh hr
 clear hq hr
 go_wp2
 go_ret2
 exact⟨q,r,rfl,⟨m,rfl⟩,HQ.out,HR.out⟩
theorem nlz_unique {x n k:Nat} (h:NlzOk x n) (h':NlzOk x k):n=k:=by
 obtain⟨a1,a2,a3⟩:=h
 obtain⟨b1,b2,b3⟩:=h'
 rcases Nat.lt_trichotomy n k with h|h|h
 ·have e:2^k=2^n*2^(k-n):=by rw[←Nat.pow_add];congr 1;omega
  have:2^(1:Nat)≤2^(k-n):=Nat.pow_le_pow_right (by omega) (by omega)
  have:x*2^n*2≤x*2^n*2^(k-n):=Nat.mul_le_mul_left _ this
  rw[Nat.mul_assoc x (2^n) (2^(k-n)),←e] at this
  omega
 ·exact h
 ·have e:2^n=2^k*2^(n-k):=by rw[←Nat.pow_add];congr 1;omega
  have:2^(1:Nat)≤2^(n-k):=Nat.pow_le_pow_right (by omega) (by omega)
  have:x*2^k*2≤x*2^k*2^(n-k):=Nat.mul_le_mul_left _ this
  rw[Nat.mul_assoc x (2^k) (2^(n-k)),←e] at this
  omega
theorem w_shl {x n u:Nat} (hn:n<64) (h:u<B) (hu:u=x*2^n):IntKind.u64.wrap ((x:Int)*2^min n 64)=u:=by
 have e:min n 64=n:=by omega
 have e2:(x:Int)*2^n=((x*2^n:Nat):Int):=by push_cast;rfl
 rw[e,e2,←hu];exact u64_nat h
theorem xor_max {u:Nat} (h:u<B):bits BinOp.xor IntKind.u64 IntKind.u64.max (u:Int)=((B-1-u:Nat):Int):=by
 have e:IntKind.u64.max=((18446744073709551615:Nat):Int):=by decide
 rw[e,bits_xor_u64_nat _ _ (by omega) (by rw[B_eq] at h;exact h)]
 congr 1
 have h1:(BitVec.allOnes 64^^^BitVec.ofNat 64 u).toNat=18446744073709551615^^^u:=by
  rw[BitVec.toNat_xor,BitVec.toNat_ofNat,BitVec.toNat_allOnes,Nat.mod_eq_of_lt (by rw[B_eq] at h;exact h)]
 rw[←h1,BitVec.allOnes_xor,BitVec.toNat_not,BitVec.toNat_ofNat,Nat.mod_eq_of_lt (by rw[B_eq] at h;exact h),B_eq]
def RecOk (u m:Nat):Prop:=m=(B*B-1)/u-B
theorem recip_calls (x n:Nat) (w:World) (hx:x<B) (h0:x≠0) (hn:NlzOk x n):
 Calls Tryz.prog 273 #[.int .u64 x] w fun e w'=>∃m:Nat,e=.returned (.int .u64 m)∧(∃k,w'=w.drewN k)∧RecOk (x*2^n) m∧m<B:=by
 obtain⟨u,hu⟩:∃u,u=x*2^n:=⟨_,rfl⟩
 rw[←hu]
 have hnn:=hn
 obtain⟨n1,n2,n3⟩:=hn
 rw[←hu] at n2 n3
 have e1:IntKind.u64.wrap ((x:Int)*2^min n 64)=u:=w_shl n1 (by rw[B_eq];omega) hu
 have e2:bits BinOp.xor IntKind.u64 IntKind.u64.max (u:Int)=((B-1-u:Nat):Int):=xor_max (by rw[B_eq];omega)
 obtain⟨v,hv⟩:∃v,v=B-1-u:=⟨_,rfl⟩
 rw[←hv] at e2
 have key:=fun wx=>bitsDiv_calls v 18446744073709551615 u wx (by rw[hv,B_eq];omega) (.inr (by rw[B_eq];omega)) (by rw[B_eq];omega) (by rw[B_eq];omega)
 have hfin:(v*B+18446744073709551615)/u=(B*B-1)/u-B:=by
  have e:v*B+18446744073709551615+u*B=B*B-1:=by
   have:v+1+u=B:=by rw[hv,B_eq];omega
   have e2:(v+1+u)*B=B*B:=by rw[this]
   rw[Nat.add_mul,Nat.add_mul,Nat.one_mul] at e2
   have:=B_eq
   omega
  have:=Nat.add_mul_div_left (v*B+18446744073709551615) B (show 0<u by omega)
  rw[e] at this
  exact Nat.eq_sub_of_add_eq this.symm
 have HF:=Lh hfin
 have hvB:(v*B+18446744073709551615)/u<B:=by
  rw[Nat.div_lt_iff_lt_mul (by omega),Nat.mul_comm B]
  have:(v+1)*B≤u*B:=Nat.mul_le_mul_right _ (by rw[hv,B_eq];omega)
  rw[Nat.add_mul,Nat.one_mul] at this
  have:=B_eq
  omega
 have HB:=Lh hvB
 have HU:=Lh hu
 clear hfin hvB hu hv n1 n2 n3
 go_enter Tryz.func273,Tryz.ntmps273
 go_wp2_with fail
 refine(nlz_calls x _ hx h0).mono ?_
 rintro e w' ⟨k,rfl,rfl,hk⟩
 obtain rfl:n=k:=nlz_unique hnn hk
 go_wp2_with fail
 refine(key _).mono ?_
 rintro e w' ⟨q,r,rfl,⟨m,rfl⟩,hq,_⟩
 have HQ:=Lh hq
 clear hq
 go_wp2
 go_ret
 exact⟨q,rfl,⟨m,rfl⟩,HQ.out.trans HF.out,by rw[HQ.out];exact HB.out⟩
theorem greater_calls (a b c d:Nat) (w:World) (hb:b<B) (hd:d<B):
 Calls Tryz.prog 276 #[.int .u64 a,.int .u64 b,.int .u64 c,.int .u64 d] w fun e w'=>e=.returned (.bool (decide (c*B+d<a*B+b)))∧w=w':=by
 rcases Nat.lt_trichotomy a c with h|h|h
 ·have key:decide (c*B+d<a*B+b)=false:=by
   have:(a+1)*B≤c*B:=Nat.mul_le_mul_right _ h
   rw[Nat.add_mul] at this
   simp;omega
  have h1:decide (c<a)=false:=by simp;omega
  have h2:((a:Int)==(c:Int))=false:=by simp;omega
  rw[key]
  clear key hb hd h
  go_enter Tryz.func276,Tryz.ntmps276
  go_wp2
  go_ret
  exact⟨rfl,rfl⟩
 ·subst h
  have key:decide (a*B+d<a*B+b)=decide (d<b):=by simp
  rw[key]
  clear key hb hd
  have h1:decide (a<a)=false:=by simp
  go_enter Tryz.func276,Tryz.ntmps276
  go_wp2
  go_ret
  exact⟨rfl,rfl⟩
 ·have key:decide (c*B+d<a*B+b)=true:=by
   have:(c+1)*B≤a*B:=Nat.mul_le_mul_right _ h
   rw[Nat.add_mul] at this
   simp;omega
  have h1:decide (c<a)=true:=by simp;omega
  rw[key]
  clear key hb hd
  go_enter Tryz.func276,Tryz.ntmps276
  go_wp2
  go_ret
  exact⟨rfl,rfl⟩
end Go.Proofs.YtcpjclakdpjjfaaGreatDoor
namespace Go.Proofs.YtcpjclakdpjjfaaGreatDoor
open Go.RowKit Wd
theorem Add_det (x y c:Nat) (hx:x<B) (hy:y<B) (hc:c≤1):
 ∃s r:Nat,(∀w,Calls Tryz.prog 210 #[.int .u64 x,.int .u64 y,.int .u64 c] w fun e w'=>e=.returned (.tuple #[.int .u64 s,.int .u64 r])∧w'=w)∧AddOk x y c s r:=by
 refine⟨(x+y+c)%B,(x+y+c)/B,fun w=>(Add_calls x y c w hx hy hc).mono ?_,Nat.mod_lt _ B_pos,?_,by rw[Nat.add_comm,Nat.div_add_mod]⟩
 ·rintro e w' ⟨s,r,rfl,rfl,h1,h2,h3⟩
  have e:=(Nat.div_mod_unique (a:=x+y+c) (b:=B) (c:=s) (d:=r) B_pos).2 ⟨by omega,h1⟩
  rw[e.1,e.2];exact⟨rfl,rfl⟩
 ·rw[B_eq] at*;omega
theorem Sub_det (x y c:Nat) (hx:x<B) (hy:y<B) (hc:c≤1):
 ∃s r:Nat,(∀w,Calls Tryz.prog 212 #[.int .u64 x,.int .u64 y,.int .u64 c] w fun e w'=>e=.returned (.tuple #[.int .u64 s,.int .u64 r])∧w'=w)∧SubOk x y c s r:=by
 obtain⟨s,r,H,hok⟩:=run237 x y c hx hy hc
 refine⟨s,r,fun w=>(Sub_calls x y c w hx hy hc).mono ?_,hok⟩
 rintro e w' ⟨s',r',rfl,rfl,h1,h2,h3⟩
 obtain⟨k1,k2,k3⟩:=hok
 have:r=r'∧s=s':=by
  rcases Nat.lt_trichotomy r r' with h|h|h
  ·have e1:r=0:=by omega
   have e2:r'=1:=by omega
   subst e1;subst e2;omega
  ·subst h;exact⟨rfl,by omega⟩
  ·have e1:r'=0:=by omega
   have e2:r=1:=by omega
   subst e1;subst e2;omega
 rw[this.1,this.2];exact⟨rfl,rfl⟩
structure VecPost (w w':World) (bz oz n:Nat) (zs rs:List Nat):Prop where
 len:rs.length=n
 wl:WL rs
 mod:Mod [bz] w w'
 blk:Blk w' bz (spl zs oz rs)
theorem carry_step {p v c X Y s c' x y:Nat} (h:v+p*c=X+Y) (ha:AddOk x y c s c'):(v+p*s)+p*B*c'=(X+p*x)+(Y+p*y):=by
 obtain⟨_,_,ha⟩:=ha
 have e:p*(s+B*c')=p*(x+y+c):=by rw[ha]
 simp only[Nat.mul_add] at e
 rw[Nat.mul_assoc];omega
theorem borrow_step {p v c X Y s c' x y:Nat} (h:v+Y=X+p*c) (ha:SubOk x y c s c'):(v+p*s)+(Y+p*y)=(X+p*x)+p*B*c':=by
 obtain⟨_,_,ha⟩:=ha
 have e:p*(s+y+c)=p*(x+B*c'):=by rw[ha]
 simp only[Nat.mul_add] at e
 rw[Nat.mul_assoc];omega
theorem VecPost.drewN {w wi:World} {bz oz n:Nat} {zs rs:List Nat} (h:VecPost w wi bz oz n zs rs) (m:Nat):VecPost w (wi.drewN m) bz oz n zs rs:=
 ⟨h.len,h.wl,h.mod.drewN m,h.blk.drewN m⟩
theorem VecPost.next {w wi:World} {bz oz n:Nat} {zs rs:List Nat} (h:VecPost w wi bz oz n zs rs) (hz:oz+n<zs.length) {s:Nat} (hs:s<B):
 VecPost w (wi.setCell ⟨bz,oz+n,none⟩ (.int .u64 (s:Int))) bz oz (n+1) zs (rs++[s]):=by
 refine⟨by simp[h.len],WL_append.2 ⟨h.wl,WL_cons.2 ⟨hs,WL_nil⟩⟩,?_,?_⟩
 ·exact h.mod.setCell _ (.inl (by simp))
 ·have:=h.blk.set (oz+n) hs
  rw[←h.len,spl_snoc (by rw[h.len];exact hz)] at this
  rw[←h.len]
  exact this
theorem addVVg_calls (bz oz cz bx ox cx bY oy cy n:Nat) (zs xs ys:List Nat) (w:World) (hz:Blk w bz zs) (hx:Blk w bx xs) (hy:Blk w bY ys)
 (hzl:oz+n≤zs.length) (hxl:ox+n≤xs.length) (hyl:oy+n≤ys.length) (hax:bx=bz→oz≤ox) (hay:bY=bz→oz≤oy) (hn:n≤1000000):
 Calls Tryz.prog 209 #[.slice (some ⟨bz,oz,none⟩) n cz,.slice (some ⟨bx,ox,none⟩) n cx,.slice (some ⟨bY,oy,none⟩) n cy] w fun e w'=>
  ∃(c:Nat) (rs:List Nat),e=.returned (.int .u64 c)∧VecPost w w' bz oz n zs rs∧c≤1∧val rs+B^n*c=val (seg xs ox n)+val (seg ys oy n):=by
 have h1:((n:Int) !=(n:Int))=false:=by simp
 go_enter Tryz.func209,Tryz.ntmps209
 go_wp2
 go_loopw [6,25] (fun c i wr=>∃(k c':Nat) (rs:List Nat),k≤n∧i=.int .i64 k∧c=.int .u64 c'∧c'≤1∧VecPost w wr bz oz k zs rs∧val rs+B^k*c'=val (seg xs ox k)+val (seg ys oy k))
  (fun _ i _=>n-(intOf i).toNat)
 case atStart=>exact⟨0,0,[],Nat.zero_le _,rfl,rfl,by omega,⟨rfl,WL_nil,Mod.refl _ _,by rw[spl_nil];exact hz⟩,by simp[seg_zero]⟩
 case round=>
  obtain⟨k,c,rs,hk,rfl,rfl,hc1,hv,hval⟩:=hrel
  rcases Nat.lt_or_ge k n with hlt|hge
  ·have rx:=read_after hx hz hv.mod hv.blk hax (i:=k) (by rw[hv.len];exact Nat.le_refl _) (by omega) (by rw[hv.len];omega)
   have ry:=read_after hy hz hv.mod hv.blk hay (i:=k) (by rw[hv.len];exact Nat.le_refl _) (by omega) (by rw[hv.len];omega)
   have hxk:=wat_lt hx.wl (ox+k)
   have hyk:=wat_lt hy.wl (oy+k)
   have HV:=Lh (Aj hv hval)
   have fz:=hv.blk.free (oz+k)
   have rz:=hv.blk.cell (i:=oz+k) (by rw[spl_length (by rw[hv.len];omega)];omega)
   have hlt':(k:Int)<n:=by omega
   obtain⟨s,r,HA,hok⟩:=Add_det _ _ c hxk hyk hc1
   clear hval hv
   go_wp2_with fail
   go_quiet ((go_at_call 210;exact Calls.quiet_of_same (HA _)))
   clear HA
   go_wp2_with fail
   refine⟨⟨k+1,r,rs++[s],by omega,by go_num,rfl,hok.2.1,(HV.out.1.drewN nq).next (by omega) hok.1,?_⟩,by simp[intOf];omega⟩
   rw[val_snoc,HV.out.1.len,val_seg_succ (by omega),val_seg_succ (by omega),Nat.pow_succ]
   exact carry_step HV.out.2 hok
  ·obtain rfl:k=n:=by omega
   have HV:=Lh (Aj hv hval)
   clear hval hv
   go_wp2_with fail
   go_ret
   exact⟨c,rs,rfl,HV.out.1,hc1,HV.out.2⟩
theorem subVVg_calls (bz oz cz bx ox cx bY oy cy n:Nat) (zs xs ys:List Nat) (w:World) (hz:Blk w bz zs) (hx:Blk w bx xs) (hy:Blk w bY ys)
 (hzl:oz+n≤zs.length) (hxl:ox+n≤xs.length) (hyl:oy+n≤ys.length) (hax:bx=bz→oz≤ox) (hay:bY=bz→oz≤oy) (hn:n≤1000000):
 Calls Tryz.prog 211 #[.slice (some ⟨bz,oz,none⟩) n cz,.slice (some ⟨bx,ox,none⟩) n cx,.slice (some ⟨bY,oy,none⟩) n cy] w fun e w'=>
  ∃(c:Nat) (rs:List Nat),e=.returned (.int .u64 c)∧VecPost w w' bz oz n zs rs∧c≤1∧val rs+val (seg ys oy n)=val (seg xs ox n)+B^n*c:=by
 have h1:((n:Int) !=(n:Int))=false:=by simp
 go_enter Tryz.func211,Tryz.ntmps211
 go_wp2
 go_loopw [6,25] (fun c i wr=>∃(k c':Nat) (rs:List Nat),k≤n∧i=.int .i64 k∧c=.int .u64 c'∧c'≤1∧VecPost w wr bz oz k zs rs∧val rs+val (seg ys oy k)=val (seg xs ox k)+B^k*c')
  (fun _ i _=>n-(intOf i).toNat)
 case atStart=>exact⟨0,0,[],Nat.zero_le _,rfl,rfl,by omega,⟨rfl,WL_nil,Mod.refl _ _,by rw[spl_nil];exact hz⟩,by simp[seg_zero]⟩
 case round=>
  obtain⟨k,c,rs,hk,rfl,rfl,hc1,hv,hval⟩:=hrel
  rcases Nat.lt_or_ge k n with hlt|hge
  ·have rx:=read_after hx hz hv.mod hv.blk hax (i:=k) (by rw[hv.len];exact Nat.le_refl _) (by omega) (by rw[hv.len];omega)
   have ry:=read_after hy hz hv.mod hv.blk hay (i:=k) (by rw[hv.len];exact Nat.le_refl _) (by omega) (by rw[hv.len];omega)
   have hxk:=wat_lt hx.wl (ox+k)
   have hyk:=wat_lt hy.wl (oy+k)
   have HV:=Lh (Aj hv hval)
   have fz:=hv.blk.free (oz+k)
   have rz:=hv.blk.cell (i:=oz+k) (by rw[spl_length (by rw[hv.len];omega)];omega)
   have hlt':(k:Int)<n:=by omega
   obtain⟨s,r,HA,hok⟩:=Sub_det _ _ c hxk hyk hc1
   clear hval hv
   go_wp2_with fail
   go_quiet ((go_at_call 212;exact Calls.quiet_of_same (HA _)))
   clear HA
   go_wp2_with fail
   refine⟨⟨k+1,r,rs++[s],by omega,by go_num,rfl,hok.2.1,(HV.out.1.drewN nq).next (by omega) hok.1,?_⟩,by simp[intOf];omega⟩
   rw[val_snoc,HV.out.1.len,val_seg_succ (by omega),val_seg_succ (by omega),Nat.pow_succ]
   exact borrow_step HV.out.2 hok
  ·obtain rfl:k=n:=by omega
   have HV:=Lh (Aj hv hval)
   clear hval hv
   go_wp2_with fail
   go_ret
   exact⟨c,rs,rfl,HV.out.1,hc1,HV.out.2⟩
theorem addVV_calls (bz oz cz bx ox cx bY oy cy n:Nat) (zs xs ys:List Nat) (w:World) (hz:Blk w bz zs) (hx:Blk w bx xs) (hy:Blk w bY ys)
 (hzl:oz+n≤zs.length) (hxl:ox+n≤xs.length) (hyl:oy+n≤ys.length) (hax:bx=bz→oz≤ox) (hay:bY=bz→oz≤oy) (hn:n≤1000000):
 Calls Tryz.prog 188 #[.slice (some ⟨bz,oz,none⟩) n cz,.slice (some ⟨bx,ox,none⟩) n cx,.slice (some ⟨bY,oy,none⟩) n cy] w fun e w'=>
  ∃(c:Nat) (rs:List Nat),e=.returned (.int .u64 c)∧VecPost w w' bz oz n zs rs∧c≤1∧val rs+B^n*c=val (seg xs ox n)+val (seg ys oy n):=by
 go_enter Tryz.func188,Tryz.ntmps188
 go_wp2_with fail
 refine(addVVg_calls bz oz cz bx ox cx bY oy cy n zs xs ys _ hz hx hy hzl hxl hyl hax hay hn).mono ?_
 rintro e w' ⟨c,rs,rfl,hv,hc,hval⟩
 have HV:=Lh (Aj hv hval)
 clear hv hval
 go_wp2
 go_ret
 exact⟨c,rs,rfl,HV.out.1,hc,HV.out.2⟩
theorem subVV_calls (bz oz cz bx ox cx bY oy cy n:Nat) (zs xs ys:List Nat) (w:World) (hz:Blk w bz zs) (hx:Blk w bx xs) (hy:Blk w bY ys)
 (hzl:oz+n≤zs.length) (hxl:ox+n≤xs.length) (hyl:oy+n≤ys.length) (hax:bx=bz→oz≤ox) (hay:bY=bz→oz≤oy) (hn:n≤1000000):
 Calls Tryz.prog 190 #[.slice (some ⟨bz,oz,none⟩) n cz,.slice (some ⟨bx,ox,none⟩) n cx,.slice (some ⟨bY,oy,none⟩) n cy] w fun e w'=>
  ∃(c:Nat) (rs:List Nat),e=.returned (.int .u64 c)∧VecPost w w' bz oz n zs rs∧c≤1∧val rs+val (seg ys oy n)=val (seg xs ox n)+B^n*c:=by
 go_enter Tryz.func190,Tryz.ntmps190
 go_wp2_with fail
 refine(subVVg_calls bz oz cz bx ox cx bY oy cy n zs xs ys _ hz hx hy hzl hxl hyl hax hay hn).mono ?_
 rintro e w' ⟨c,rs,rfl,hv,hc,hval⟩
 have HV:=Lh (Aj hv hval)
 clear hv hval
 go_wp2
 go_ret
 exact⟨c,rs,rfl,HV.out.1,hc,HV.out.2⟩
end Go.Proofs.YtcpjclakdpjjfaaGreatDoor
