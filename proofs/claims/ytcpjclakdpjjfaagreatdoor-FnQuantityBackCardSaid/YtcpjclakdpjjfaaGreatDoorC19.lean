/- Factors taken out of a whole number (resource/math. -/
import Derived.Test.YtcpjclakdpjjfaaGreatDoorC17
set_option maxHeartbeats 4000000
set_option maxRecDepth 10000
namespace Go.Proofs.YtcpjclakdpjjfaaGreatDoor
open Go.RowKit Wd Dg
structure RB (w0:World) (n0 f n:Int) (k bd bq bm bf:Nat) (sd sq:Option Int) (nq nm:Int) (vd vq vm vf:Value) (wr:World):Prop where
 env:Env wr
 mod:Mod [] w0 wr
 d:IA wr bd sd n vd
 q:IA wr bq sq nq vq
 m:IA wr bm none nm vm
 y:IA wr bf none f vf
 ne:bd≠bq∧bd≠bm∧bd≠bf∧bq≠bm∧bq≠bf∧bm≠bf
 dq:∀j,j∈sb vd→j∉sb vq
 dm:∀j,j∈sb vd→j∉sb vm
 qm:∀j,j∈sb vq→j∉sb vm
 yd:∀j,j∈sb vf→j∉sb vd
 yq:∀j,j∈sb vf→j∉sb vq
 ym:∀j,j∈sb vf→j∉sb vm
 fr:w0.heap.size≤bd∧w0.heap.size≤bq∧w0.heap.size≤bm
 fd:∀j,j∈sb vd→w0.heap.size≤j
 fq:∀j,j∈sb vq→w0.heap.size≤j
 fm:∀j,j∈sb vm→w0.heap.size≤j
 eq:n0=n*((f.toNat^k:Nat):Int)
 nz:n0≠0→n≠0
theorem RB.keep {w0:World} {n0 f n:Int} {k bd bq bm bf:Nat} {sd sq:Option Int} {nq nm:Int} {vd vq vm vf:Value} {wr w':World} (h:RB w0 n0 f n k bd bq bm bf sd sq nq nm vd vq vm vf wr) (m:Mod [] wr w'):RB w0 n0 f n k bd bq bm bf sd sq nq nm vd vq vm vf w':=
 { h with env:=h.env.mod m (by simp),mod:=h.mod.trans m,d:=h.d.mod m (by simp) (by simp),q:=h.q.mod m (by simp) (by simp),m:=h.m.mod m (by simp) (by simp),y:=h.y.mod m (by simp) (by simp) }
theorem QRInt.modSet {w w':World} {bz br:Nat} {vz vr v v2:Value} {sz sr:Option Int} {q r:Int} (h:QRInt w bz br vz vr sz sr q r v v2 w') {w0:World} (m:Mod [] w0 w) (h1:w0.heap.size≤bz) (h2:w0.heap.size≤br) (h3:∀j,j∈sb vz→w0.heap.size≤j) (h4:∀j,j∈sb vr→w0.heap.size≤j):Mod [] w0 w':=
 m.step h.mod (fun k hk=>by
  simp only[List.mem_cons,List.mem_append] at hk
  right
  rcases hk with rfl|rfl|hk|hk
  ·exact h1
  ·exact h2
  ·exact h3 k hk
  ·exact h4 k hk)
theorem RB.after {w0:World} {n0 f n:Int} {k bd bq bm bf:Nat} {sd sq:Option Int} {nq nm q r:Int} {vd vq vm vf v v2:Value} {wr w':World} (h:RB w0 n0 f n k bd bq bm bf sd sq nq nm vd vq vm vf wr)
 (hQ:QRInt wr bq bm vq vm sq none q r v v2 w'):RB w0 n0 f n k bd bq bm bf sd sq q r vd v v2 vf w':=by
 obtain⟨n1,n2,n3,n4,n5,n6⟩:=h.ne
 have ms:=hQ.modSet h.mod h.fr.2.1 h.fr.2.2 h.fq h.fm
 have he:Env w':=h.env.mod hQ.mod (fun j hj=>by
  simp only[List.mem_cons,List.mem_append] at hj
  rcases hj with rfl|rfl|hj|hj
  ·exact h.q.lo
  ·exact h.m.lo
  ·exact h.q.vlo j hj
  ·exact h.m.vlo j hj)
 have lt1:∀j,j∈sb vd→j<wr.heap.size:=fun j hj=>h.d.nv.zs.lt j hj
 have lt2:∀j,j∈sb vf→j<wr.heap.size:=fun j hj=>h.y.nv.zs.lt j hj
 have sz:=h.mod.size
 refine { env:=he,mod:=ms,d:=hQ.other h.q h.m h.d n1 n2 h.dq h.dm,q:=hQ.q,m:=hQ.r,y:=hQ.other h.q h.m h.y n5.symm n6.symm h.yq h.ym,ne:=h.ne,dq:=?_,dm:=?_,qm:=hQ.apart,yd:=h.yd,yq:=?_,ym:=?_,fr:=h.fr,fd:=h.fd,fq:=?_,fm:=?_,eq:=h.eq,nz:=h.nz }
 ·intro j hj hv
  rcases hQ.ownq j hv with h1|h1
  ·exact h.dq j hj h1
  ·have:=lt1 j hj;omega
 ·intro j hj hv
  rcases hQ.ownr j hv with h1|h1
  ·exact h.dm j hj h1
  ·have:=lt1 j hj;omega
 ·intro j hj hv
  rcases hQ.ownq j hv with h1|h1
  ·exact h.yq j hj h1
  ·have:=lt2 j hj;omega
 ·intro j hj hv
  rcases hQ.ownr j hv with h1|h1
  ·exact h.ym j hj h1
  ·have:=lt2 j hj;omega
 ·intro j hj
  rcases hQ.ownq j hj with h1|h1
  ·exact h.fq j h1
  ·omega
 ·intro j hj
  rcases hQ.ownr j hj with h1|h1
  ·exact h.fm j h1
  ·omega
theorem RB.swap {w0:World} {n0 f n:Int} {k bd bq bm bf:Nat} {sd sq:Option Int} {q r:Int} {vd vq vm vf:Value} {wr:World} (h:RB w0 n0 f n k bd bq bm bf sd sq q r vd vq vm vf wr) (hf:0<f) (hq:q=n/f) (hr:n%f=0):
 RB w0 n0 f q (k+1) bq bd bm bf sq sd n r vq vd vm vf wr:=by
 obtain⟨n1,n2,n3,n4,n5,n6⟩:=h.ne
 have e:n=q*f:=by rw[hq];exact(Int.ediv_mul_cancel (Int.dvd_of_emod_eq_zero hr)).symm
 exact { env:=h.env,mod:=h.mod,d:=h.q,q:=h.d,m:=h.m,y:=h.y,ne:=⟨n1.symm,n4,n5,n2,n3,n6⟩,dq:=fun j h1 h2=>h.dq j h2 h1,dm:=h.qm,qm:=h.dm,yd:=h.yq,yq:=h.yd,ym:=h.ym,fr:=⟨h.fr.2.1,h.fr.1,h.fr.2.2⟩,fd:=h.fq,fq:=h.fd,fm:=h.fm
         eq:=by
          rw[h.eq,e,Nat.pow_succ,Int.natCast_mul,Int.toNat_of_nonneg (Int.le_of_lt hf),Int.mul_assoc,Int.mul_comm f]
         nz:=fun hn h0=>h.nz hn (by rw[e,h0,Int.zero_mul]) }
theorem RB.le {w0:World} {n0 f n:Int} {k bd bq bm bf:Nat} {sd sq:Option Int} {nq nm:Int} {vd vq vm vf:Value} {wr:World} (h:RB w0 n0 f n k bd bq bm bf sd sq nq nm vd vq vm vf wr) (hf:0<f):n.natAbs≤n0.natAbs:=by
 rw[h.eq,Int.natAbs_mul,Int.natAbs_natCast]
 exact Nat.le_mul_of_pos_right _ (Nat.pow_pos (by omega))
set_option exponentiation.threshold 5000 in
theorem big_pow:Big=2^4096:=by unfold Big;rw[show B=2^64 by rw[B_eq],←Nat.pow_mul]
set_option exponentiation.threshold 5000 in
theorem zero_Big:(0:Int).natAbs<Big:=by rw[show (0:Int).natAbs=0 from rfl,big_pow];exact Nat.two_pow_pos _
theorem RB.k_lt {w0:World} {n0 f n:Int} {k bd bq bm bf:Nat} {sd sq:Option Int} {nq nm:Int} {vd vq vm vf:Value} {wr:World} (h:RB w0 n0 f n k bd bq bm bf sd sq nq nm vd vq vm vf wr) (hf:1<f) (h0:n0≠0) (hB:n0.natAbs<Big):k<4096:=by
 have e:=congrArg Int.natAbs h.eq
 rw[Int.natAbs_mul,Int.natAbs_natCast] at e
 have h1:f.toNat^k≤n0.natAbs:=by rw[e];exact Nat.le_mul_of_pos_left _ (by have:=h.nz h0;omega)
 have h2:2^k≤f.toNat^k:=Nat.pow_le_pow_left (by omega) k
 rw[big_pow] at hB
 exact(Nat.pow_lt_pow_iff_right (a:=2) (by decide)).1 (Nat.lt_of_le_of_lt (Nat.le_trans h2 h1) hB)
def RmRet (w0:World) (n0 f:Int) (e:Ending) (w':World):Prop:=
 ∃(b k:Nat) (v:Value) (s:Option Int) (n:Int),e=.returned (.tuple #[.pointer (some ⟨b,0,none⟩),.int .i32 k])∧NewRes w0 s n b v w'∧n0=n*((f.toNat^k:Nat):Int)∧(n0≠0→n%f≠0)∧(n0=0→k=0)∧k<4096
theorem cmp0_ne {n:Int} (h:n≠0):(cmpZI n 0 !=0)=true:=by
 unfold cmpZI
 rcases Int.lt_or_gt_of_ne h with h|h
 ·rw[if_pos h];rfl
 ·rw[if_neg (by omega),if_pos h];rfl
theorem cmp0_eq:(cmpZI 0 0 !=0)=false:=by decide
theorem removeBig_calls (w0:World) (n0 f:Int) (bd bf:Nat) (sd:Option Int) (vd vf:Value) (w:World) (he:Env w) (m0:Mod [] w0 w) (hd:IA w bd sd n0 vd) (hy:IA w bf none f vf) (hne:bd≠bf) (hyd:∀j,j∈sb vf→j∉sb vd)
 (hf1:1<f) (hf2:f.natAbs<B^39) (hB:n0.natAbs<Big) (hfr:w0.heap.size≤bd) (hfd:∀j,j∈sb vd→w0.heap.size≤j):
 Calls Tryz.prog 125 #[.pointer (some ⟨bd,0,none⟩),.pointer (some ⟨bf,0,none⟩)] w (RmRet w0 n0 f):=by
 have H0:=Lh (Aj he (Aj m0 (Aj hd (Aj hy (Aj hne (Aj hyd (Aj hf1 (Aj hf2 (Aj hB (Aj hfr hfd))))))))))
 have N1:=Lh (newInt_calls 0 w he.big (by decide) (by decide))
 clear he m0 hd hy hne hyd hf1 hf2 hB hfr hfd
 go_enter Tryz.func125,Tryz.ntmps125
 go_wp2_with fail
 refine N1.out.mono ?_
 rintro e w1 ⟨bq,vq,rfl,hq1⟩
 have he1:=hq1.env H0.out.1
 have HQ:=Lh hq1
 have N2:=Lh (newInt_calls 0 w1 he1.big (by decide) (by decide))
 clear hq1 he1 N1
 go_wp2_with fail
 refine N2.out.mono ?_
 rintro e w2 ⟨bm,vm,rfl,hm2⟩
 have hRB:RB w0 n0 f n0 0 bd bq bm bf sd none 0 0 vd vq vm vf w2:=by
  obtain⟨he,m0,hd,hy,hne,hyd,hf1,hf2,hB,hfr,hfd⟩:=H0.out
  have hq1:=HQ.out
  have a1:=hq1.apart hd
  have a2:=hq1.apart hy
  have b1:=hm2.apart a1.2.2
  have b2:=hm2.apart a2.2.2
  have b3:=hm2.apart hq1.ia
  have s1:=m0.size
  have s2:=hq1.mod.size
  exact { env:=hm2.env (hq1.env he),mod:=(m0.trans hq1.mod).trans hm2.mod,d:=b1.2.2,q:=b3.2.2,m:=hm2.ia,y:=b2.2.2,ne:=⟨a1.1,b1.1,hne,b3.1,a2.1.symm,b2.1.symm⟩,dq:=a1.2.1,dm:=b1.2.1,qm:=b3.2.1,yd:=hyd,yq:=a2.2.1,ym:=b2.2.1
          fr:=⟨hfr,Nat.le_trans s1 hq1.own.1,Nat.le_trans s1 (Nat.le_trans s2 hm2.own.1)⟩,fd:=hfd,fq:=fun j hj=>Nat.le_trans s1 (hq1.own.2 j hj),fm:=fun j hj=>Nat.le_trans s1 (Nat.le_trans s2 (hm2.own.2 j hj)),eq:=by simp,nz:=id }
 have HR:=Lh hRB
 clear hRB hm2 HQ N2
 go_wp2_with fail
 go_loopw [0,5,6] (fun t0 t5 t6 wr=>∃(bd bq k:Nat) (n:Int) (sd sq:Option Int) (nq nm:Int) (vd vq vm:Value),t0=.pointer (some ⟨bd,0,none⟩)∧t6=.pointer (some ⟨bq,0,none⟩)∧t5=.int .i32 k∧(n0=0→k=0)∧RB w0 n0 f n k bd bq bm bf sd sq nq nm vd vq vm vf wr) (fun _ t5 _ _=>5000-(intOf t5).toNat)
 case atStart=>exact⟨bd,bq,0,n0,_,_,_,_,_,_,_,rfl,rfl,rfl,fun _=>rfl,HR.out⟩
 case round=>
  obtain⟨bd,bq,k,n,sd,sq,nq,nm,vd,vq,vm,rfl,rfl,rfl,hk0,hRB⟩:=hrel
  obtain⟨hf1,hf2,hB,-,-⟩:=H0.out.2.2.2.2.2.2
  have hle:=hRB.le (by omega)
  have HB:=Lh (Aj hRB hk0)
  have N3:=Lh (newInt_calls 0 wr hRB.env.big (by decide) (by decide))
  clear hRB hk0
  go_wp2_with fail
  refine N3.out.mono ?_
  rintro e w3 ⟨b0,v0,rfl,h3⟩
  have hRB:=HB.out.1.keep h3.mod
  have hap:=h3.apart HB.out.1.d
  have C1:=Lh (int_cmp bd b0 sd none n 0 vd v0 w3 hap.2.2 h3.ia hap.1 (by omega) zero_Big)
  have HB3:=Lh hRB
  clear hRB hap h3 N3
  go_wp2_with fail
  refine C1.out.mono ?_
  rintro e w4 ⟨rfl,m,rfl⟩
  by_cases hn:n=0
  ·have hn0:n0=0:=Classical.byContradiction fun h=>HB3.out.nz h hn
   have hk:=HB.out.2 hn0
   subst hk
   subst hn
   have t1:=cmp0_eq
   have F:=Lh (HB3.out.keep (((Mod.refl [] w3).drewN m)))
   clear C1 hf1 hf2 hB hle
   go_wp2_with fail
   go_ret2
   have hF:=F.out
   exact⟨bd,0,vd,sd,0,rfl,⟨hF.d,hF.mod,hF.fr.1,hF.fd⟩,by have:=hF.eq;simpa using this,fun h=>absurd hn0 h,fun _=>rfl,by decide⟩
  ·have t1:=cmp0_ne hn
   have hn0:n0≠0:=fun h=>hn (by
    have:=HB3.out.eq
    rw[h] at this
    rcases Int.mul_eq_zero.1 this.symm with h|h
    ·exact h
    ·have:=Nat.pow_pos (n:=k) (show 0<f.toNat by omega)
     omega)
   have hkl:=HB3.out.k_lt hf1 hn0 hB
   have hRB:=HB3.out.keep (((Mod.refl [] w3).drewN m))
   obtain⟨n1,n2,n3,n4,n5,n6⟩:=hRB.ne
   have D:=Lh (int_divMod bq bd bf bm sq sd none none nq n f nm vq vd vf vm _ hRB.env hRB.q hRB.d hRB.y hRB.m n1.symm n5 n4 n2 n6.symm hRB.qm hRB.dm hRB.yq hRB.ym (by omega) hf2 (by omega))
   have HB4:=Lh hRB
   have HL:=Lh (Aj hf1 (Aj hB (Aj hkl hn0)))
   have hki:(k:Int)<4096:=by omega
   clear hRB n1 n2 n3 n4 n5 n6 hle hf2 hf1 hB hkl hn hn0 C1
   go_wp2_with fail
   refine D.out.mono ?_
   rintro e w5 ⟨rfl,v,v2,hQ⟩
   have hRB:=HB4.out.after hQ
   have HB5:=Lh hRB
   have N6:=Lh (newInt_calls 0 w5 hRB.env.big (by decide) (by decide))
   clear hRB hQ
   go_wp2_with fail
   refine N6.out.mono ?_
   rintro e w6 ⟨b6,v6,rfl,h6⟩
   have hRB:=HB5.out.keep h6.mod
   have hap:=h6.apart HB5.out.m
   have hbig:(n%f).natAbs<Big:=by
    have h2:=HL.out.1
    have h3:n%f<f:=Int.emod_lt_of_pos n (by omega)
    have h4:0≤n%f:=Int.emod_nonneg n (by omega)
    have h6:=H0.out.2.2.2.2.2.2.2.1
    exact Nat.lt_trans (by omega:(n%f).natAbs<f.natAbs) (Nat.lt_trans h6 B39_Big)
   have C2:=Lh (int_cmp bm b6 none none (n%f) 0 v2 v6 w6 hap.2.2 h6.ia hap.1 hbig zero_Big)
   have HB6:=Lh hRB
   clear hRB hap h6 N6 hbig
   go_wp2_with fail
   refine C2.out.mono ?_
   rintro e w7 ⟨rfl,m2,rfl⟩
   have hRB:=HB6.out.keep (((Mod.refl [] w6).drewN m2))
   by_cases hz:n%f=0
   ·have HB7:=Lh (hRB.swap (by have:=HL.out.1;omega) rfl hz)
    have t2:(cmpZI (n%f) 0 !=0)=false:=by rw[hz];exact cmp0_eq
    clear hRB hz C2
    go_wp2_with fail
    go_roundw
    case rel=>exact⟨bq,bd,k+1,_,_,_,_,_,_,_,_,rfl,rfl,by go_num,fun h=>absurd h HL.out.2.2.2,HB7.out⟩
    case measure=>simp[intOf];omega
   ·have t2:=cmp0_ne hz
    have F:=Lh (Aj hRB hz)
    clear hRB hz C2
    go_wp2_with fail
    go_ret2
    have hF:=F.out.1
    exact⟨bd,k,vd,sd,n,rfl,⟨hF.d,hF.mod,hF.fr.1,hF.fd⟩,hF.eq,fun _=>F.out.2,fun h=>absurd h HL.out.2.2.2,HL.out.2.2.1⟩
end Go.Proofs.YtcpjclakdpjjfaaGreatDoor
