/- Contracts of the vectors' products by a word (bigall/arith. -/
import Derived.Test.YtcpjclakdpjjfaaGreatDoorC03
set_option maxHeartbeats 1000000
set_option maxRecDepth 100000
namespace Go.Proofs.YtcpjclakdpjjfaaGreatDoor
open Go.RowKit Wd
theorem mul_step {p v c X r0 h l x y:Nat} (hv:v+p*c=X*y+r0) (hm:MulOk x y c h l):(v+p*l)+p*B*h=(X+p*x)*y+r0:=by
 obtain⟨_,_,hm⟩:=hm
 have e:p*(h*B+l)=p*(x*y+c):=by rw[hm]
 simp only[Nat.mul_add] at e
 rw[Nat.add_mul,Nat.mul_assoc p B,Nat.mul_comm B h,Nat.mul_assoc p x];omega
theorem addMul_step {p v c X Y m a z1 z0 x y lo cc:Nat} (hv:v+p*c=X+Y*m+a) (hm:MulOk y m x z1 z0) (ha:AddOk z0 c 0 lo cc):
 (v+p*lo)+p*B*(cc+z1)=(X+p*x)+(Y+p*y)*m+a:=by
 obtain⟨_,_,hm⟩:=hm
 obtain⟨_,_,ha⟩:=ha
 have e:p*(z1*B+z0)=p*(y*m+x):=by rw[hm]
 have e2:p*(lo+B*cc)=p*(z0+c+0):=by rw[ha]
 simp only[Nat.mul_add] at e e2
 rw[Nat.add_mul,Nat.mul_add,Nat.mul_assoc p B,Nat.mul_assoc p B,Nat.mul_comm B z1,Nat.mul_assoc p y];omega
theorem addMul_small {z1 z0 x y m c lo cc:Nat} (hy:y<B) (hmB:m<B) (hx:x<B) (hc:c<B) (hm:MulOk y m x z1 z0) (ha:AddOk z0 c 0 lo cc):cc+z1<B:=by
 obtain⟨_,_,hm⟩:=hm
 obtain⟨_,_,ha⟩:=ha
 have e:(cc+z1)*B+lo=y*m+x+c:=by rw[Nat.add_mul,Nat.mul_comm cc];omega
 have k1:y*m≤(B-1)*(B-1):=Nat.mul_le_mul (by omega) (by omega)
 have k3:(B-1)*(B-1)+(B-1)+(B-1)<B*B:=by
  have:=B_pos
  generalize B=b at*
  obtain⟨d,rfl⟩:∃d,b=d+1:=⟨b-1,by omega⟩
  rw[Nat.add_sub_cancel,Nat.mul_add,Nat.add_mul];omega
 have:(cc+z1)*B<B*B:=by omega
 exact Nat.lt_of_mul_lt_mul_right this
theorem mulAddVWWg_calls (bz oz cz bx ox cx n y r:Nat) (zs xs:List Nat) (w:World) (hz:Blk w bz zs) (hx:Blk w bx xs)
 (hzl:oz+n≤zs.length) (hxl:ox+n≤xs.length) (hax:bx=bz→oz≤ox∨ox+n≤oz) (hn:n≤1000000) (hy:y<B) (hr:r<B):
 Calls Tryz.prog 232 #[.slice (some ⟨bz,oz,none⟩) n cz,.slice (some ⟨bx,ox,none⟩) n cx,.int .u64 y,.int .u64 r] w fun e w'=>
  ∃(c:Nat) (rs:List Nat),e=.returned (.int .u64 c)∧VecPost w w' bz oz n zs rs∧c<B∧val rs+B^n*c=val (seg xs ox n)*y+r:=by
 have h1:((n:Int) !=(n:Int))=false:=by simp
 go_enter Tryz.func232,Tryz.ntmps232
 go_wp2
 go_loopw [8,19] (fun c i wr=>∃(k c':Nat) (rs:List Nat),k≤n∧i=.int .i64 k∧c=.int .u64 c'∧c'<B∧VecPost w wr bz oz k zs rs∧val rs+B^k*c'=val (seg xs ox k)*y+r)
  (fun _ i _=>n-(intOf i).toNat)
 case atStart=>exact⟨0,r,[],Nat.zero_le _,rfl,rfl,hr,⟨rfl,WL_nil,Mod.refl _ _,by rw[spl_nil];exact hz⟩,by simp[seg_zero]⟩
 case round=>
  obtain⟨k,c,rs,hk,rfl,rfl,hc1,hv,hval⟩:=hrel
  rcases Nat.lt_or_ge k n with hlt|hge
  ·have rx:=read_apart hx hz hv.mod hv.blk hax hlt (i:=k) (by rw[hv.len];exact Nat.le_refl _) (by omega) (by rw[hv.len];omega)
   have hxk:=wat_lt hx.wl (ox+k)
   have HV:=Lh (Aj hv hval)
   have fz:=hv.blk.free (oz+k)
   have rz:=hv.blk.cell (i:=oz+k) (by rw[spl_length (by rw[hv.len];omega)];omega)
   have hlt':(k:Int)<n:=by omega
   clear hval hv
   go_wp2_with fail
   refine(mulAddWWW_calls _ y c _ hxk hy hc1).mono ?_
   rintro e w' ⟨h,l,rfl,rfl,hok⟩
   go_wp2_with fail
   refine⟨⟨k+1,h,rs++[l],by omega,by go_num,rfl,hok.1,HV.out.1.next (by omega) hok.2.1,?_⟩,by simp[intOf];omega⟩
   rw[val_snoc,HV.out.1.len,val_seg_succ (by omega),Nat.pow_succ]
   exact mul_step HV.out.2 hok
  ·obtain rfl:k=n:=by omega
   have HV:=Lh (Aj hv hval)
   clear hval hv
   go_wp2_with fail
   go_ret
   exact⟨c,rs,rfl,HV.out.1,hc1,HV.out.2⟩
theorem mulAddVWW_calls (bz oz cz bx ox cx n y r:Nat) (zs xs:List Nat) (w:World) (hz:Blk w bz zs) (hx:Blk w bx xs)
 (hzl:oz+n≤zs.length) (hxl:ox+n≤xs.length) (hax:bx=bz→oz≤ox∨ox+n≤oz) (hn:n≤1000000) (hy:y<B) (hr:r<B):
 Calls Tryz.prog 204 #[.slice (some ⟨bz,oz,none⟩) n cz,.slice (some ⟨bx,ox,none⟩) n cx,.int .u64 y,.int .u64 r] w fun e w'=>
  ∃(c:Nat) (rs:List Nat),e=.returned (.int .u64 c)∧VecPost w w' bz oz n zs rs∧c<B∧val rs+B^n*c=val (seg xs ox n)*y+r:=by
 go_enter Tryz.func204,Tryz.ntmps204
 go_wp2_with fail
 refine(mulAddVWWg_calls bz oz cz bx ox cx n y r zs xs _ hz hx hzl hxl hax hn hy hr).mono ?_
 rintro e w' ⟨c,rs,rfl,hv,hc,hval⟩
 have HV:=Lh (Aj hv hval)
 clear hv hval
 go_wp2
 go_ret
 exact⟨c,rs,rfl,HV.out.1,hc,HV.out.2⟩
theorem mulAdd_det (x y c:Nat) (hx:x<B) (hy:y<B) (hc:c<B):
 ∃h l:Nat,(∀w,Calls Tryz.prog 254 #[.int .u64 x,.int .u64 y,.int .u64 c] w fun e w'=>e=.returned (.tuple #[.int .u64 h,.int .u64 l])∧w'=w)∧MulOk x y c h l:=by
 have key:∀h l,MulOk x y c h l→(x*y+c)/B=h∧(x*y+c)%B=l:=fun h l ⟨_,h2,h3⟩=>
  (Nat.div_mod_unique (a:=x*y+c) (b:=B) (c:=l) (d:=h) B_pos).2 ⟨by rw[Nat.mul_comm B];omega,h2⟩
 refine⟨(x*y+c)/B,(x*y+c)%B,fun w=>(mulAddWWW_calls x y c w hx hy hc).mono ?_,?_,Nat.mod_lt _ B_pos,?_⟩
 ·rintro e w' ⟨h,l,rfl,rfl,hok⟩
  rw[(key h l hok).1,(key h l hok).2];exact⟨rfl,rfl⟩
 ·rw[Nat.div_lt_iff_lt_mul B_pos]
  have k1:x*y≤(B-1)*(B-1):=Nat.mul_le_mul (by omega) (by omega)
  have:=B_pos
  generalize B=b at*
  obtain⟨d,rfl⟩:∃d,b=d+1:=⟨b-1,by omega⟩
  rw[Nat.add_sub_cancel] at k1
  rw[Nat.mul_add,Nat.add_mul];omega
 ·rw[Nat.mul_comm (_/B),Nat.div_add_mod]
theorem addMulVVWWg_calls (bz oz cz bx ox cx bY oy cy n m a:Nat) (zs xs ys:List Nat) (w:World) (hz:Blk w bz zs) (hx:Blk w bx xs) (hy:Blk w bY ys)
 (hzl:oz+n≤zs.length) (hxl:ox+n≤xs.length) (hyl:oy+n≤ys.length) (hax:bx=bz→oz≤ox) (hay:bY=bz→oz≤oy) (hn:n≤1000000) (hmB:m<B) (haB:a<B):
 Calls Tryz.prog 231 #[.slice (some ⟨bz,oz,none⟩) n cz,.slice (some ⟨bx,ox,none⟩) n cx,.slice (some ⟨bY,oy,none⟩) n cy,.int .u64 m,.int .u64 a] w fun e w'=>
  ∃(c:Nat) (rs:List Nat),e=.returned (.int .u64 c)∧VecPost w w' bz oz n zs rs∧c<B∧val rs+B^n*c=val (seg xs ox n)+val (seg ys oy n)*m+a:=by
 have h1:((n:Int) !=(n:Int))=false:=by simp
 go_enter Tryz.func231,Tryz.ntmps231
 go_wp2
 go_loopw [10,32] (fun c i wr=>∃(k c':Nat) (rs:List Nat),k≤n∧i=.int .i64 k∧c=.int .u64 c'∧c'<B∧VecPost w wr bz oz k zs rs∧val rs+B^k*c'=val (seg xs ox k)+val (seg ys oy k)*m+a)
  (fun _ i _=>n-(intOf i).toNat)
 case atStart=>exact⟨0,a,[],Nat.zero_le _,rfl,rfl,haB,⟨rfl,WL_nil,Mod.refl _ _,by rw[spl_nil];exact hz⟩,by simp[seg_zero]⟩
 case round=>
  obtain⟨k,c,rs,hk,rfl,rfl,hc1,hv,hval⟩:=hrel
  rcases Nat.lt_or_ge k n with hlt|hge
  ·have rx:=read_after hx hz hv.mod hv.blk hax (i:=k) (by rw[hv.len];exact Nat.le_refl _) (by omega) (by rw[hv.len];omega)
   have ry:=read_after hy hz hv.mod hv.blk hay (i:=k) (by rw[hv.len];exact Nat.le_refl _) (by omega) (by rw[hv.len];omega)
   have hxk:=wat_lt hx.wl (ox+k)
   have hyk:=wat_lt hy.wl (oy+k)
   have HV:=Lh (Aj hv hval)
   have fz:=hv.blk.free (oz+k)
   have rz:=hv.blk.cell (i:=oz+k) (by rw[spl_length (by rw[hv.len];omega)];omega)
   have hlt':(k:Int)<n:=by omega
   obtain⟨z1,z0,HA,hok⟩:=mulAdd_det _ m _ hyk hmB hxk
   clear hval hv
   go_wp2_with fail
   go_quiet ((go_at_call 254;exact Calls.quiet_of_same (HA _)))
   clear HA
   go_wp2_with fail
   refine(Add_calls z0 c 0 _ hok.2.1 hc1 (by omega)).mono ?_
   rintro e w' ⟨lo,cc,rfl,rfl,hadd⟩
   have hsm:=addMul_small hyk hmB hxk hc1 hok hadd
   have hw:=w_add hsm
   generalize hcz:cc+z1=c2 at*
   have HC:=Lh hcz
   clear hcz
   go_wp2_with fail
   refine⟨⟨k+1,c2,rs++[lo],by omega,by go_num,rfl,hsm,(HV.out.1.drewN nq).next (by omega) hadd.1,?_⟩,by simp[intOf];omega⟩
   rw[val_snoc,HV.out.1.len,val_seg_succ (by omega),val_seg_succ (by omega),Nat.pow_succ,←HC.out]
   exact addMul_step HV.out.2 hok hadd
  ·obtain rfl:k=n:=by omega
   have HV:=Lh (Aj hv hval)
   clear hval hv
   go_wp2_with fail
   go_ret
   exact⟨c,rs,rfl,HV.out.1,hc1,HV.out.2⟩
theorem addMulVVWW_calls (bz oz cz bx ox cx bY oy cy n m a:Nat) (zs xs ys:List Nat) (w:World) (hz:Blk w bz zs) (hx:Blk w bx xs) (hy:Blk w bY ys)
 (hzl:oz+n≤zs.length) (hxl:ox+n≤xs.length) (hyl:oy+n≤ys.length) (hax:bx=bz→oz≤ox) (hay:bY=bz→oz≤oy) (hn:n≤1000000) (hmB:m<B) (haB:a<B):
 Calls Tryz.prog 202 #[.slice (some ⟨bz,oz,none⟩) n cz,.slice (some ⟨bx,ox,none⟩) n cx,.slice (some ⟨bY,oy,none⟩) n cy,.int .u64 m,.int .u64 a] w fun e w'=>
  ∃(c:Nat) (rs:List Nat),e=.returned (.int .u64 c)∧VecPost w w' bz oz n zs rs∧c<B∧val rs+B^n*c=val (seg xs ox n)+val (seg ys oy n)*m+a:=by
 go_enter Tryz.func202,Tryz.ntmps202
 go_wp2_with fail
 refine(addMulVVWWg_calls bz oz cz bx ox cx bY oy cy n m a zs xs ys _ hz hx hy hzl hxl hyl hax hay hn hmB haB).mono ?_
 rintro e w' ⟨c,rs,rfl,hv,hc,hval⟩
 have HV:=Lh (Aj hv hval)
 clear hv hval
 go_wp2
 go_ret
 exact⟨c,rs,rfl,HV.out.1,hc,HV.out.2⟩
end Go.Proofs.YtcpjclakdpjjfaaGreatDoor
namespace Go.Proofs.YtcpjclakdpjjfaaGreatDoor
open Go.RowKit Wd
theorem shl_two {a b n y:Nat} (hn:0<n) (h64:n<64) (ha:a<y) (hb:b<B):
 ∃a' b':Nat,a'=a*2^n+b/2^(64-n)∧b'=(b*2^n)%B∧a'*B+b'=(a*B+b)*2^n∧a'<y*2^n∧b'<B∧b/2^(64-n)<2^n:=by
 refine⟨_,_,rfl,rfl,?_,?_,Nat.mod_lt _ B_pos,?_⟩
 ·have hB:B=2^n*2^(64-n):=by
   rw[←Nat.pow_add,B_eq];have:n+(64-n)=64:=by omega
   rw[this]
  have e1:b*2^n=B*(b/2^(64-n))+(b*2^n)%B:=by
   have h2:=Nat.div_add_mod (b*2^n) B
   have h3:b*2^n/B=b/2^(64-n):=by
    rw[hB,Nat.mul_comm b,Nat.mul_div_mul_left _ _ (Nat.pow_pos (by omega))]
   rw[h3] at h2
   exact h2.symm
  have e2:(a*B+b)*2^n=a*2^n*B+b*2^n:=by rw[Nat.add_mul,Nat.mul_right_comm]
  rw[e2,Nat.add_mul,Nat.mul_comm (b/_) B]
  omega
 ·have h1:(a+1)*2^n≤y*2^n:=Nat.mul_le_mul_right _ ha
  have h2:b/2^(64-n)<2^n:=by
   rw[Nat.div_lt_iff_lt_mul (Nat.pow_pos (by omega)),←Nat.pow_add]
   have:n+(64-n)=64:=by omega
   rw[this];rw[B_eq] at hb;exact hb
  rw[Nat.add_mul] at h1
  omega
 ·rw[Nat.div_lt_iff_lt_mul (Nat.pow_pos (by omega)),←Nat.pow_add]
  have:n+(64-n)=64:=by omega
  rw[this];rw[B_eq] at hb;exact hb
theorem divWW_fin {d N t r1 r0:Nat} (hd:d<B) (hn:B≤2*d) (hr0:r0<B) (hr:t*d+r1*B+r0=N) (hlt:N<t*d+B+d):
 (r1=0∨r1=1)∧
 (r1=0→r0<d→t=N/d∧r0=N%d)∧(r1=0→d≤r0→t+1=N/d∧r0-d=N%d)∧
 (r1=1→r0<d→r0+B-d<d→t+1=N/d∧r0+B-d=N%d)∧(r1=1→r0<d)∧
 (r1=1→d≤r0+B-d→t+2=N/d∧r0+B-d-d=N%d):=by
 have hd0:0<d:=by omega
 have key:∀q r,q*d+r=N→r<d→q=N/d∧r=N%d:=fun q r h1 h2=>by
  have:=(Nat.div_mod_unique (a:=N) (b:=d) (c:=r) (d:=q) hd0).2 ⟨by rw[Nat.mul_comm d];omega,h2⟩
  exact⟨this.1.symm,this.2.symm⟩
 have hr1:r1=0∨r1=1:=by
  rcases Nat.lt_or_ge r1 2 with h|h
  ·omega
  ·have:2*B≤r1*B:=Nat.mul_le_mul_right _ h
   omega
 refine⟨hr1,fun h h2=>key _ _ (by rw[h] at hr;omega) h2,fun h h2=>key _ _ ?_ (by rw[h] at hr;omega),fun h h2 h3=>key _ _ ?_ h3,fun h=>by rw[h] at hr;omega,fun h h2=>key _ _ ?_ ?_⟩
 ·rw[h] at hr;rw[Nat.add_mul];omega
 ·rw[h] at hr;rw[Nat.add_mul];omega
 ·rw[h] at hr;rw[Nat.add_mul];omega
 ·rw[h] at hr;omega
theorem or_add {a c n:Nat} (hc:c<2^n) (h:a*2^n<B) (hcB:c<B):bits BinOp.or IntKind.u64 ((a*2^n:Nat):Int) (c:Int)=((a*2^n+c:Nat):Int):=by
 rw[bits_or_u64_nat _ _ (by rw[B_eq] at h;exact h) (by rw[B_eq] at hcB;exact hcB),Nat.mul_comm a,Nat.two_pow_add_eq_or_of_lt hc]
theorem w_shl' {x n u:Nat} (h:u<B) (hu:u=x*2^n):IntKind.u64.wrap ((x:Int)*2^n)=u:=by
 have e2:(x:Int)*2^n=((x*2^n:Nat):Int):=by push_cast;rfl
 rw[e2,←hu];exact u64_nat h
theorem shr_cast (r n:Nat):((r/2^n:Nat):Int)=(r:Int)/2^n:=by push_cast;rfl
theorem divWW_small {q x1 x0 y:Nat} (h:x1<y) (h0:x0<B) (hq:q=(x1*B+x0)/y):q<B:=by
 rw[hq,Nat.div_lt_iff_lt_mul (by omega),Nat.mul_comm B]
 have:(x1+1)*B≤y*B:=Nat.mul_le_mul_right _ h
 rw[Nat.add_mul] at this;omega
theorem divWW_mid {d m x1 x0 h l s c t r dq1 dq0 r0 b r1 b2:Nat} (hd:d<B) (hn:B≤2*d) (hm:RecOk d m) (hx1:x1<d) (hx0:x0<B)
 (hmul:MulOk m x1 0 h l) (ha:AddOk l x0 0 s c) (ha2:AddOk h x1 c t r) (hm2:MulOk d t 0 dq1 dq0) (hs:SubOk x0 dq0 0 r0 b) (hs2:SubOk x1 dq1 b r1 b2):
 t*d+r1*B+r0=x1*B+x0∧x1*B+x0<t*d+B+d∧r0<B:=by
 obtain⟨_,hl,hmul⟩:=hmul
 obtain⟨hsB,hc1,ha⟩:=ha
 obtain⟨htB,hr1,ha2⟩:=ha2
 obtain⟨_,_,hm2⟩:=hm2
 obtain⟨hr0,hb1,hs⟩:=hs
 obtain⟨hr1B,hb2,hs2⟩:=hs2
 have law:=divWW_law hd hn hm hx1 hx0
 have hq:(m*x1+x0)/B=h+c:=by
  have e:m*x1+x0=s+B*(h+c):=by rw[Nat.mul_add,Nat.mul_comm B h];omega
  rw[e,Nat.add_mul_div_left _ _ B_pos,Nat.div_eq_of_lt hsB,Nat.zero_add]
 rw[hq] at law
 obtain⟨l1,l2⟩:=law
 have hN:x1*B+x0<d*B:=by
  have:(x1+1)*B≤d*B:=Nat.mul_le_mul_right _ hx1
  rw[Nat.add_mul] at this;omega
 have htt:x1+(h+c)<B:=by
  have h1:(x1+(h+c))*d<B*d:=by rw[Nat.mul_comm B];omega
  exact Nat.lt_of_mul_lt_mul_right h1
 have hr:r=0:=by
  rcases Nat.eq_zero_or_pos r with h|h
  ·exact h
  ·have:r=1:=by omega
   subst this;omega
 subst hr
 have ht:t=x1+(h+c):=by omega
 rw[←ht] at l1 l2
 have e2:dq1*B+dq0=t*d:=by rw[hm2,Nat.mul_comm];rfl
 have hb2':b2=0:=by
  rcases Nat.eq_zero_or_pos b2 with h|h
  ·exact h
  ·have:b2=1:=by omega
   subst this
   exfalso
   have k:(r1+dq1+b)*B=(x1+B*1)*B:=by rw[hs2]
   have k2:r1*B≤(B-1)*B:=Nat.mul_le_mul_right _ (by omega)
   have k3:(B-1)*B+B=B*B:=by
    have:=B_pos
    rw[←Nat.succ_mul];congr 1;omega
   simp only[Nat.add_mul,Nat.mul_one] at k
   rw[Nat.mul_comm B b] at hs
   omega
 subst hb2'
 have k:(r1+dq1+b)*B=(x1+B*0)*B:=by rw[hs2]
 simp only[Nat.add_mul,Nat.mul_zero,Nat.add_zero] at k
 rw[Nat.mul_comm B b] at hs
 exact⟨by omega,by omega,hr0⟩
theorem divWW_calls (x1 x0 y m n:Nat) (w:World) (hx1:x1<y) (hx0:x0<B) (hyB:y<B) (hn:NlzOk y n) (hm:RecOk (y*2^n) m) (hmB:m<B):
 Calls Tryz.prog 274 #[.int .u64 x1,.int .u64 x0,.int .u64 y,.int .u64 m] w fun e w'=>∃q r:Nat,e=.returned (.tuple #[.int .u64 q,.int .u64 r])∧w=w'∧q=(x1*B+x0)/y∧r=(x1*B+x0)%y:=by
 have hnn:=hn
 obtain⟨n1,n2,n3⟩:=hn
 obtain⟨d,hd⟩:∃d,d=y*2^n:=⟨_,rfl⟩
 rw[←hd] at hm n2 n3
 have hdB:d<B:=by rw[B_eq];exact n3
 have hdn:B≤2*d:=by rw[B_eq];omega
 have hy0:y≠0:=by omega
 obtain⟨X1,X0,hX1,hX0,hXX,hX1d⟩:∃X1 X0:Nat,(n=0→X1=x1∧X0=x0∧d=y)∧(0<n→X1=x1*2^n+x0/2^(64-n)∧X0=(x0*2^n)%B∧x0/2^(64-n)<2^n)∧X1*B+X0=(x1*B+x0)*2^n∧X1<d∧X0<B:=by
  rcases Nat.eq_zero_or_pos n with h|h
  ·subst h
   exact⟨x1,x0,fun _=>⟨rfl,rfl,by rw[hd,Nat.pow_zero,Nat.mul_one]⟩,fun h=>absurd h (by omega),by rw[Nat.pow_zero,Nat.mul_one],by rw[hd,Nat.pow_zero,Nat.mul_one];exact hx1,hx0⟩
  ·obtain⟨a',b',h1,h2,h3,h4,h5,h6⟩:=shl_two h n1 hx1 hx0
   exact⟨a',b',fun e=>absurd e (by omega),fun _=>⟨h1,h2,h6⟩,h3,by rw[hd];exact h4,h5⟩
 obtain⟨hX1d,hX0B⟩:=hX1d
 have hX1B:X1<B:=by omega
 have fin:∀Q R,Q=(X1*B+X0)/d→R=(X1*B+X0)%d→Q=(x1*B+x0)/y∧R/2^n=(x1*B+x0)%y:=fun Q R hQ hR=>by
  have hp:0<2^n:=Nat.pow_pos (by omega)
  rw[hXX,hd,Nat.mul_div_mul_right _ _ hp] at hQ
  rw[hXX,hd,Nat.mul_mod_mul_right,] at hR
  exact⟨hQ,by rw[hR,Nat.mul_div_cancel _ hp]⟩
 have FIN:=Lh fin
 have HN:=Lh (Aj n1 (Aj n2 n3))
 have HX1:=Lh hX1
 have HX0:=Lh hX0
 have HD:=Lh hd
 have HNN:=Lh hnn
 clear fin n1 n2 n3 hX1 hX0 hXX hd
 go_enter Tryz.func274,Tryz.ntmps274
 go_wp2_with fail
 refine(nlz_calls y _ hyB hy0).mono ?_
 rintro e w' ⟨k,rfl,rfl,hk⟩
 obtain rfl:n=k:=nlz_unique HNN.out hk
 clear hnn hk
 go_upto_if 26 with fail
 go_cut [0,1,2] (fun s0 s1 s2 wx=>s0=.int .u64 (X1:Nat)∧s1=.int .u64 (X0:Nat)∧s2=.int .u64 (d:Nat)∧w=wx)
 case first=>
  rcases Nat.eq_zero_or_pos n with h|h
  ·have t:((n:Int) !=0)=false:=by simp;omega
   obtain⟨e1,e2,e3⟩:=HX1.out h
   have G:=Lh (Aj e1 (Aj e2 e3))
   clear e1 e2 e3 h
   go_wp2_with fail
   go_meet
   exact⟨by rw[G.out.1],by rw[G.out.2.1],by rw[G.out.2.2],rfl⟩
  ·obtain⟨e1,e2,e3⟩:=HX0.out h
   have n1:=HN.out.1
   have t:((n:Int) !=0)=true:=by simp;omega
   have hx1n:x1*2^n<B:=by
    have:x1*2^n≤y*2^n:=Nat.mul_le_mul_right _ (by omega)
    rw[←HD.out] at this;omega
   have t4:bits BinOp.or IntKind.u64 (IntKind.u64.wrap ((x1:Int)*2^n)) ((x0:Int)/2^(64-n))=X1:=by
    have e4:(x0:Int)/2^(64-n)=((x0/2^(64-n):Nat):Int):=by push_cast;rfl
    rw[w_shl' hx1n rfl,e4,or_add e3 hx1n (Nat.lt_of_le_of_lt (Nat.div_le_self _ _) hx0),←e1]
   have t5:IntKind.u64.wrap ((x0:Int)*2^n)=X0:=by
    rw[u64_wrap,e2];push_cast;rfl
   have t6:IntKind.u64.wrap ((y:Int)*2^n)=d:=w_shl' hdB HD.out
   have T:=Lh (Aj t4 (Aj t5 t6))
   clear t4 t5 t6 e1 e2 e3 hx1n h
   go_wp2_with fail
   go_meet
   exact⟨by rw[←T.out.1]<;>rfl,by rw[←T.out.2.1]<;>rfl,by rw[←T.out.2.2]<;>rfl,rfl⟩
 case rest=>
  obtain⟨rfl,rfl,rfl,rfl⟩:=hcut
  have mid:=fun h l s c t r dq1 dq0 r0 b r1 b2=> @divWW_mid d m X1 X0 h l s c t r dq1 dq0 r0 b r1 b2 hdB hdn hm hX1d hX0B
  have MID:=Lh mid
  clear mid hm
  have HDN:=Lh hdn
  clear hdn
  go_wp2_with fail
  refine(Mul_calls m X1 _ hmB hX1B).mono ?_
  rintro e w' ⟨h,l,rfl,rfl,hmul⟩
  go_wp2_with fail
  refine(Add_calls l X0 0 _ hmul.2.1 hX0B (by omega)).mono ?_
  rintro e w' ⟨s,c,rfl,rfl,hadd⟩
  go_wp2_with fail
  refine(Add_calls h X1 c _ hmul.1 hX1B hadd.2.1).mono ?_
  rintro e w' ⟨t,r,rfl,rfl,hadd2⟩
  go_wp2_with fail
  refine(Mul_calls d t _ hdB hadd2.1).mono ?_
  rintro e w' ⟨dq1,dq0,rfl,rfl,hmul2⟩
  go_wp2_with fail
  refine(Sub_calls X0 dq0 0 _ hX0B hmul2.2.1 (by omega)).mono ?_
  rintro e w' ⟨r0,b,rfl,rfl,hsub⟩
  go_wp2_with fail
  refine(Sub_calls X1 dq1 b _ hX1B hmul2.1 hsub.2.1).mono ?_
  rintro e w' ⟨r1,b2,rfl,rfl,hsub2⟩
  obtain⟨m1,m2,m3⟩:=MID.out _ _ _ _ _ _ _ _ _ _ _ _ hmul hadd hadd2 hmul2 hsub hsub2
  obtain⟨f1,f2,f3,f4,f5,f6⟩:=divWW_fin hdB HDN.out m3 m1 m2
  clear hmul hadd hadd2 hmul2 hsub hsub2 MID m1 m2
  rcases f1 with h1|h1
  ·subst h1
   rcases Nat.lt_or_ge r0 d with h2|h2
   ·have g:=FIN.out _ _ (f2 rfl h2).1 (f2 rfl h2).2
    have g1:decide (d≤r0)=false:=by simp;omega
    have G:=Lh g
    clear g f2 f3 f4 f5 f6 h2
    have n1:=HN.out.1
    go_wp2_with fail
    go_ret2
    exact⟨t,r0/2^n,by rw[shr_cast]<;>rfl,rfl,G.out.1,G.out.2⟩
   ·have g:=FIN.out _ _ (f3 rfl h2).1 (f3 rfl h2).2
    have g1:decide (d≤r0)=true:=by simp;omega
    have g2:IntKind.u64.wrap ((r0:Int)-(d:Int))=((r0-d:Nat):Int):=w_sub h2 m3
    generalize r0-d=rr at*
    have G:=Lh g
    clear g f2 f3 f4 f5 f6 h2
    have n1:=HN.out.1
    go_wp2_with fail
    go_ret2
    exact⟨t+1,rr/2^n,by rw[shr_cast,←u64_nat (n:=t+1) (divWW_small hx1 hx0 G.out.1)]<;>rfl,rfl,G.out.1,G.out.2⟩
  ·subst h1
   have h2:=f5 rfl
   have g0:IntKind.u64.wrap ((r0:Int)-(d:Int))=((r0+B-d:Nat):Int):=by
    have e:(r0:Int)-d=((r0+B-d:Nat):Int)-(B:Int):=by omega
    rw[e,u64_wrap,Int.sub_emod_right]
    exact Int.emod_eq_of_lt (by omega) (by omega)
   have rrB:r0+B-d<B:=by omega
   rcases Nat.lt_or_ge (r0+B-d) d with h3|h3
   ·have g:=FIN.out _ _ (f4 rfl h2 h3).1 (f4 rfl h2 h3).2
    generalize r0+B-d=rr at*
    have g1:decide (d≤rr)=false:=by simp;omega
    have g2:((1:Int) !=0)=true:=by decide
    have G:=Lh g
    clear g f2 f3 f4 f5 f6 h2 h3
    have n1:=HN.out.1
    go_wp2_with fail
    go_ret2
    exact⟨t+1,rr/2^n,by rw[shr_cast,←u64_nat (n:=t+1) (divWW_small hx1 hx0 G.out.1)]<;>rfl,rfl,G.out.1,G.out.2⟩
   ·have g:=FIN.out _ _ (f6 rfl h3).1 (f6 rfl h3).2
    generalize r0+B-d=rr at*
    have g1:decide (d≤rr)=true:=by simp;omega
    have g2:((1:Int) !=0)=true:=by decide
    have g3:IntKind.u64.wrap ((rr:Int)-(d:Int))=((rr-d:Nat):Int):=w_sub h3 rrB
    have tB:=divWW_small hx1 hx0 g.1
    have g4:IntKind.u64.wrap ((t:Int)+1)=((t+1:Nat):Int):=u64_nat (n:=t+1) (by omega)
    generalize rr-d=r2 at*
    have G:=Lh g
    have TB:=Lh tB
    generalize hT:t+1=t1 at*
    have HT:=Lh hT
    clear g f2 f3 f4 f5 f6 h2 h3 tB hT rrB
    have n1:=HN.out.1
    go_wp2_with fail
    go_ret2
    exact⟨t+2,r2/2^n,by rw[shr_cast,←u64_nat (n:=t+2) TB.out,←HT.out]<;>rfl,rfl,G.out.1,G.out.2⟩
end Go.Proofs.YtcpjclakdpjjfaaGreatDoor
