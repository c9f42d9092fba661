/- Rounding (inf/rounder. -/
import Derived.Test.YtcpjclakdpjjfaaGreatDoorC17
set_option maxHeartbeats 4000000
set_option maxRecDepth 10000
namespace Go.Proofs.YtcpjclakdpjjfaaGreatDoor
open Go.RowKit Wd Dg
def rup:Value:=.iface 187 (.agg #[.bool true,.func (.func 117) #[] #[]])
theorem roundUp_calls (w:World):Calls Tryz.prog 77 #[] w fun e w'=>e=.returned rup∧w=w':=by
 go_enter Tryz.func77,Tryz.ntmps77
 go_wp2_with fail
 go_ret
 exact⟨rfl,rfl⟩
theorem NewRes.keep {w w1:World} {s:Option Int} {n:Int} {b:Nat} {v:Value} (h:NewRes w s n b v w1) {w2:World} (m:Mod [] w1 w2):NewRes w s n b v w2:=⟨h.ia.mod m (by simp) (by simp),h.mod.trans m,h.own⟩
theorem NewRes.later {w0 w w1:World} {s:Option Int} {n:Int} {b:Nat} {v:Value} (h:NewRes w s n b v w1) (m:Mod [] w0 w):NewRes w0 s n b v w1:=⟨h.ia,m.trans h.mod,Nat.le_trans m.size h.own.1,fun k hk=>Nat.le_trans m.size (h.own.2 k hk)⟩
theorem intSign_calls (w:World) (k:Nat) (hk:k≤2) (hw:19≤w.heap.size):Calls Tryz.prog 119 #[.int .i64 k] w (NewRet w none ((k:Int)-1)):=by
 have H1:=Lh (newInt_calls (-1) w hw (by omega) (by omega))
 have hk3:k=0∨k=1∨k=2:=by omega
 clear hk
 rcases hk3 with rfl|rfl|rfl
 all_goals
  go_enter Tryz.func119,Tryz.ntmps119
  go_wp2_with fail
  refine H1.out.mono ?_
  rintro e w1 ⟨b1,v1,rfl,h1⟩
  have H2:=Lh (newInt_calls 0 w1 (Nat.le_trans hw h1.mod.size) (by omega) (by omega))
  have G1:=Lh h1
  clear h1
  go_wp2_with fail
  refine H2.out.mono ?_
  rintro e w2 ⟨b2,v2,rfl,h2⟩
  have H3:=Lh (newInt_calls 1 w2 (Nat.le_trans hw (Nat.le_trans G1.out.mod.size h2.mod.size)) (by omega) (by omega))
  have G2:=Lh h2
  clear h2
  go_wp2_with fail
  refine H3.out.mono ?_
  rintro e w3 ⟨b3,v3,rfl,h3⟩
  have G3:=Lh h3
  clear h3
  go_wp2_with fail
  go_ret
  have m:=(Mod.refl [] w3).alloc (.cells #[.pointer (some ⟨b1,0,none⟩),.pointer (some ⟨b2,0,none⟩),.pointer (some ⟨b3,0,none⟩)] 128)
  first
   |exact⟨b1,v1,rfl,G1.out.keep ((G2.out.mod.trans G3.out.mod).trans m)⟩
   |exact⟨b2,v2,rfl,(G2.out.later G1.out.mod).keep (G3.out.mod.trans m)⟩
   |exact⟨b3,v3,rfl,(G3.out.later (G1.out.mod.trans G2.out.mod)).keep m⟩
theorem sgnI_pos {n:Int} (h:0<n):sgnI n=1:=by unfold sgnI;rw[if_neg (by omega),if_neg (by omega)]
theorem sgnI_neg {n:Int} (h:n<0):sgnI n=-1:=by unfold sgnI;rw[if_pos h]
theorem sgnI_zero:sgnI 0=0:=rfl
theorem roundUp1_calls (bz bq bA bB:Nat) (sz s nz nq nA nB:Int) (vz vq vA vB:Value) (w:World) (he:Env w) (hz:IA w bz (some sz) nz vz) (hq:IA w bq (some s) nq vq) (hA:IA w bA none nA vA) (hB:IA w bB none nB vB)
 (n1:bz≠bq) (n2:bz≠bA) (n3:bz≠bB) (d1:∀j,j∈sb vq→j∉sb vz) (d2:∀j,j∈sb vA→j∉sb vz) (d3:∀j,j∈sb vB→j∉sb vz) (hqb:nq.natAbs<Big) (hpos:0<nB) (hzlo:∀k,k∈bz::sb vz→19≤k):
 Calls Tryz.prog 117 #[.pointer (some ⟨bz,0,none⟩),.pointer (some ⟨bq,0,none⟩),.pointer (some ⟨bA,0,none⟩),.pointer (some ⟨bB,0,none⟩)] w (IntRet w bz vz (some s) (nq+sgnI nA)):=by
 have HS:=Lh (dec_set bz bq sz s nz nq vz vq w hz hq n1 d1 hqb)
 have H0:=Lh (Aj hz (Aj hA (Aj hB (Aj n2.symm (Aj n3.symm (Aj d2 (Aj d3 (Aj he (Aj hqb hzlo)))))))))
 have hsB:=sgnI_pos hpos
 clear he hz hq hA hB n1 n2 n3 d1 d2 d3 hqb hzlo hpos
 go_enter Tryz.func117,Tryz.ntmps117
 go_wp2_with fail
 refine HS.out.mono ?_
 rintro e w1 ⟨rfl,v1,hr⟩
 obtain⟨hz,hA,hB,n2,n3,d2,d3,he,hqb,hzlo⟩:=H0.out
 have hA1:=hr.other hA hz n2 d2
 have hB1:=hr.other hB hz n3 d3
 have he1:=he.mod hr.mod hzlo
 have SA:=Lh (int_sign bA none nA vA w1 hA1)
 have SB:=int_sign bB none nB vB w1 hB1
 rw[hsB] at SB
 have HSB:=Lh SB
 have H1:=Lh (Aj hr (Aj he1 hqb))
 clear SB hr hA1 hB1 he1 hz hA hB n2 n3 d2 d3 he hqb hzlo hsB
 have small:∀x:Int,x.natAbs≤1→x.natAbs<Big:=fun x hx=>by
  have hb:1<B:=by rw[B_eq];decide
  rw[Big_eq];exact Nat.lt_of_le_of_lt hx (Nat.lt_of_lt_of_le hb (Nat.le_self_pow (by decide) B))
 have SM:=Lh small
 clear small
 rcases Int.lt_trichotomy nA 0 with hn|hn|hn
 ·have e0:=sgnI_neg hn
  rw[e0] at SA
  have E0:=Lh e0
  clear e0 hn
  have HI:=Lh (intSign_calls w1 0 (by omega) H1.out.2.1.big)
  go_wp2_with fail
  refine SA.out.mono ?_
  rintro e w2 ⟨rfl,rfl⟩
  go_wp2_with fail
  refine(dec_unscaledBig bz w1).mono ?_
  rintro e w2 ⟨rfl,rfl⟩
  go_wp2_with fail
  refine(dec_unscaledBig bz w1).mono ?_
  rintro e w2 ⟨rfl,rfl⟩
  go_wp2_with fail
  refine SA.out.mono ?_
  rintro e w2 ⟨rfl,rfl⟩
  go_wp2_with fail
  refine HSB.out.mono ?_
  rintro e w2 ⟨rfl,rfl⟩
  go_wp2_with fail
  refine HI.out.mono ?_
  rintro e w2 ⟨b2,v2,rfl,h2⟩
  have hap:=h2.apart H1.out.1.ia
  have HADD:=Lh (int_add bz bz b2 (some s) (some s) none nq nq (((0:Nat):Int)-1) v1 v1 v2 w2 hap.2.2 hap.2.2 h2.ia H1.out.2.2 (SM.out _ (by decide)))
  have H2:=Lh h2
  clear h2 hap
  go_wp2_with fail
  refine HADD.out.mono ?_
  rintro e w3 ⟨rfl,v3,h3⟩
  have H3:=Lh h3
  clear h3
  go_wp2_with fail
  go_ret
  refine⟨rfl,v3,?_⟩
  have hk:=H1.out.1
  exact⟨by have h:=H3.out.ia;rw[E0.out];exact h,(hk.mod.step H2.out.mod (by simp)).step H3.out.mod (fun x hx=>by
   rcases List.mem_cons.1 hx with rfl|hx
   ·exact .inl (by simp)
   ·exact(hk.own x hx).imp (fun h=>by simp[h]) id),fun j hj=>(H3.out.own j hj).elim (hk.own j) (fun h=>.inr (Nat.le_trans (Nat.le_trans hk.mod.size H2.out.mod.size) h))⟩
 ·subst hn
  rw[sgnI_zero] at SA
  go_wp2_with fail
  refine SA.out.mono ?_
  rintro e w2 ⟨rfl,rfl⟩
  go_wp2_with fail
  go_ret
  exact⟨rfl,v1,by rw[sgnI_zero,Int.add_zero];exact H1.out.1⟩
 ·have e0:=sgnI_pos hn
  rw[e0] at SA
  have E0:=Lh e0
  clear e0 hn
  have HI:=Lh (intSign_calls w1 2 (by omega) H1.out.2.1.big)
  go_wp2_with fail
  refine SA.out.mono ?_
  rintro e w2 ⟨rfl,rfl⟩
  go_wp2_with fail
  refine(dec_unscaledBig bz w1).mono ?_
  rintro e w2 ⟨rfl,rfl⟩
  go_wp2_with fail
  refine(dec_unscaledBig bz w1).mono ?_
  rintro e w2 ⟨rfl,rfl⟩
  go_wp2_with fail
  refine SA.out.mono ?_
  rintro e w2 ⟨rfl,rfl⟩
  go_wp2_with fail
  refine HSB.out.mono ?_
  rintro e w2 ⟨rfl,rfl⟩
  go_wp2_with fail
  refine HI.out.mono ?_
  rintro e w2 ⟨b2,v2,rfl,h2⟩
  have hap:=h2.apart H1.out.1.ia
  have HADD:=Lh (int_add bz bz b2 (some s) (some s) none nq nq (((2:Nat):Int)-1) v1 v1 v2 w2 hap.2.2 hap.2.2 h2.ia H1.out.2.2 (SM.out _ (by decide)))
  have H2:=Lh h2
  clear h2 hap
  go_wp2_with fail
  refine HADD.out.mono ?_
  rintro e w3 ⟨rfl,v3,h3⟩
  have H3:=Lh h3
  clear h3
  go_wp2_with fail
  go_ret
  refine⟨rfl,v3,?_⟩
  have hk:=H1.out.1
  exact⟨by have h:=H3.out.ia;rw[E0.out];exact h,(hk.mod.step H2.out.mod (by simp)).step H3.out.mod (fun x hx=>by
   rcases List.mem_cons.1 hx with rfl|hx
   ·exact .inl (by simp)
   ·exact(hk.own x hx).imp (fun h=>by simp[h]) id),fun j hj=>(H3.out.own j hj).elim (hk.own j) (fun h=>.inr (Nat.le_trans (Nat.le_trans hk.mod.size H2.out.mod.size) h))⟩
end Go.Proofs.YtcpjclakdpjjfaaGreatDoor
namespace Go.Proofs.YtcpjclakdpjjfaaGreatDoor
open Go.RowKit Wd Dg
theorem meth_scale (s:Int) (w:World):(method 524 240 (.agg #[.int .i32 s]) "Scale").run Tryz.prog w=.ok (345,.agg #[.int .i32 s]) w:=by kernel_rfl
theorem meth_use (w:World):(method 524 187 (.agg #[.bool true,.func (.func 117) #[] #[]]) "UseRemainder").run Tryz.prog w=.ok (340,.agg #[.bool true,.func (.func 117) #[] #[]]) w:=by kernel_rfl
theorem meth_round (w:World):(method 524 187 (.agg #[.bool true,.func (.func 117) #[] #[]]) "Round").run Tryz.prog w=.ok (339,.agg #[.bool true,.func (.func 117) #[] #[]]) w:=by kernel_rfl
theorem sclr_calls (s:Int) (p q:Value) (w:World):Calls Tryz.prog 345 #[.agg #[.int .i32 s],p,q] w fun e w'=>e=.returned (.int .i32 s)∧Mod [] w w':=by
 go_enter Tryz.func345,Tryz.ntmps345
 go_wp2_with fail
 go_ret
 exact⟨rfl,(Mod.refl [] w).alloc _⟩
theorem useRem_calls (w:World):Calls Tryz.prog 340 #[.agg #[.bool true,.func (.func 117) #[] #[]]] w fun e w'=>e=.returned (.bool true)∧Mod [] w w':=by
 go_enter Tryz.func340,Tryz.ntmps340
 go_wp2_with fail
 go_ret
 exact⟨rfl,(Mod.refl [] w).alloc _⟩
theorem rndrRound_calls (bz:Nat) (b c d:Value) (S:World→Prop) (w:World) (h:∀w1,Mod [] w w1→Calls Tryz.prog 117 #[.pointer (some ⟨bz,0,none⟩),b,c,d] w1 fun e w'=>e=.returned (.pointer (some ⟨bz,0,none⟩))∧S w'):
 Calls Tryz.prog 339 #[.agg #[.bool true,.func (.func 117) #[] #[]],.pointer (some ⟨bz,0,none⟩),b,c,d] w fun e w'=>e=.returned (.pointer (some ⟨bz,0,none⟩))∧S w':=by
 have H:=Lh (h _ ((Mod.refl [] w).alloc (.cells #[.bool true,.func (.func 117) #[] #[]] 187)))
 clear h
 go_enter Tryz.func339,Tryz.ntmps339
 go_wp2_with fail
 refine H.out.mono ?_
 rintro e w' ⟨rfl,hr⟩
 have HR:=Lh hr
 clear hr
 go_wp2_with fail
 go_ret
 exact⟨rfl,HR.out⟩
def rnd (n sx s:Int):Int:=if sx≤s then n*(10^(s-sx).toNat:Nat) else up n (10^(sx-s).toNat)
theorem rnd_of {n sx s nix niy:Int} (h:QD n sx s nix niy):nix.tdiv niy+sgnI (nix.tmod niy)=rnd n sx s:=by
 unfold rnd
 rcases h with ⟨k,rfl,rfl,rfl⟩|⟨k,rfl,rfl,rfl⟩
 ·rw[if_pos (by omega),show (sx+(k:Int)-sx).toNat=k by omega,Int.tdiv_one,Int.tmod_one,sgnI_zero,Int.add_zero]
 ·rcases Nat.eq_zero_or_pos k with rfl|hk
  ·rw[if_pos (by omega)]
   simp[Int.tdiv_one,Int.tmod_one,sgnI_zero]
  ·rw[if_neg (by omega),show (s+(k:Int)-s).toNat=k by omega,ns_end]
   have hv:nix.tdiv ((10^k:Nat):Int)=nsV nix k:=by
    unfold nsV
    split
    ·rename_i hn
     obtain⟨m,rfl⟩:∃m:Nat,nix=-(m:Int):=⟨nix.natAbs,by omega⟩
     rw[Int.neg_tdiv,tdiv_cast,Int.natAbs_neg,Int.natAbs_natCast]
    ·obtain⟨m,rfl⟩:∃m:Nat,nix=(m:Int):=⟨nix.natAbs,by omega⟩
     rw[tdiv_cast,Int.natAbs_natCast]
   have hm:(nix.tmod ((10^k:Nat):Int)).natAbs=nix.natAbs%10^k:=by rw[Int.natAbs_tmod,Int.natAbs_natCast]
   rw[hv]
   unfold nsF
   by_cases h0:nix.natAbs%10^k=0
   ·have:nix.tmod ((10^k:Nat):Int)=0:=by omega
    rw[this,sgnI_zero,Int.add_zero,if_neg (by simp[h0])]
   ·have hne:nix.tmod ((10^k:Nat):Int)≠0:=by omega
    rw[if_pos (by simp[h0])]
    rcases Int.lt_or_le 0 nix with hp|hp
    ·have:=Int.tmod_nonneg (a:=nix) ((10^k:Nat):Int) (by omega)
     rw[if_pos hp,sgnI_pos (by omega)]
    ·have hneg:=tmod_neg_iff hne
     have hlt:nix<0:=by
      rcases Int.lt_or_eq_of_le hp with h|h
      ·exact h
      ·exfalso;rw[h] at h0;simp at h0
     rw[decide_eq_true hlt] at hneg
     have:nix.tmod ((10^k:Nat):Int)<0:=by simpa using hneg.symm
     rw[if_neg (by omega),sgnI_neg this];rfl
theorem tdiv_abs_le (a b:Int):(a.tdiv b).natAbs≤a.natAbs:=by rw[Int.natAbs_tdiv];exact Nat.div_le_self _ _
theorem dec_quo (bz bx bY:Nat) (sz sx s nz n:Int) (vz vx vy:Value) (w:World) (he:Env w) (hz:IA w bz (some sz) nz vz) (hx:IA w bx (some sx) n vx) (hy:IA w bY (some 0) 1 vy)
 (h1:-300≤sx) (h2:sx≤300) (h3:-300≤s) (h4:s≤300) (h5:s-sx≤350) (h6:sx-s≤350) (hA:n.natAbs<Big) (hA':∀k:Nat,s=sx+k→(n*(10^k:Nat)).natAbs<Big) (hR:(rnd n sx s).natAbs<Big):
 Calls Tryz.prog 157 #[.pointer (some ⟨bz,0,none⟩),.pointer (some ⟨bx,0,none⟩),.pointer (some ⟨bY,0,none⟩),.iface 240 (.agg #[.int .i32 s]),rup] w (IntRet w bz vz (some s) (rnd n sx s)):=by
 have m1:=meth_scale s
 have m2:=meth_use
 have m3:=meth_round
 have H0:=Lh (Aj he (Aj hz (Aj hx (Aj hy (Aj hA (Aj hA' hR))))))
 have HB:=Lh (Aj h1 (Aj h2 (Aj h3 (Aj h4 (Aj h5 h6)))))
 unfold rup
 clear he hz hx hy hA hA' hR h1 h2 h3 h4 h5 h6
 go_enter Tryz.func157,Tryz.ntmps157
 go_wp2_with fail
 refine(sclr_calls s _ _ w).mono ?_
 rintro e w1 ⟨rfl,M1⟩
 have HM1:=Lh M1
 clear M1
 go_wp2_with fail
 refine(useRem_calls w1).mono ?_
 rintro e w2 ⟨rfl,M2⟩
 have HM2:=Lh (HM1.out.trans M2)
 clear M2
 have he2:=H0.out.1.mod HM2.out (by simp)
 have a1:=new_dec w2 he2.big
 have he3:=a1.env he2
 have a2:=new_zero _ he3.big
 have he4:=a2.env he3
 have a3:=new_zero _ he4.big
 have he5:=a3.env he4
 have hx2:=H0.out.2.2.1.mod HM2.out (by simp) (by simp)
 have hy2:=H0.out.2.2.2.1.mod HM2.out (by simp) (by simp)
 have lx:=hx2.lt
 have ly:=hy2.lt
 have q1:=(a3.apart (a2.apart a1.ia).2.2).2.2
 have q2:=(a3.apart a2.ia).2.2
 have qx:=(a3.apart (a2.apart (a1.apart hx2).2.2).2.2).2.2
 have qy:=(a3.apart (a2.apart (a1.apart hy2).2.2).2.2).2.2
 have sz1:(w2.alloc (.cells #[.bool false,.slice none 0 0,.int .i32 0] 123)).heap.size=w2.heap.size+1:=by simp
 have sz2:((w2.alloc (.cells #[.bool false,.slice none 0 0,.int .i32 0] 123)).alloc (.cells #[.bool false,.slice none 0 0] 120)).heap.size=w2.heap.size+2:=by simp
 rw[sz1] at a2 q2
 rw[sz2] at a3
 obtain⟨hb1,hb2,hb3,hb4,hb5,hb6⟩:=HB.out
 have hq:=dec_quoRem w2.heap.size bx bY (w2.heap.size+1) (w2.heap.size+2) n sx s vx vy _ he5 q1 qx qy q2 a3.ia (by omega) (by omega) (by omega) (by omega) (by omega) (by omega) (by omega) (by omega) (by omega) hb1 hb2 hb3 hb4 hb5 hb6 H0.out.2.2.2.2.1 H0.out.2.2.2.2.2.1
 have HQ:=Lh hq
 have HM5:=Lh (Aj (((HM2.out.trans a1.mod).trans a2.mod).trans a3.mod) he5)
 have hsz5:w2.heap.size+2<(((w2.alloc (.cells #[.bool false,.slice none 0 0,.int .i32 0] 123)).alloc (.cells #[.bool false,.slice none 0 0] 120)).alloc (.cells #[.bool false,.slice none 0 0] 120)).heap.size:=by simp
 have HS5:=Lh hsz5
 clear hq he2 a1 he3 a2 he4 a3 he5 hx2 hy2 lx ly q1 q2 qx qy sz1 sz2 hb1 hb2 hb3 hb4 hb5 hb6 hsz5
 go_wp2_with fail
 refine HQ.out.mono ?_
 rintro e w6 ⟨rfl,nix,niy,vq,vr,vd,hd⟩
 have HD:=Lh hd
 have he6:Env w6:=HM5.out.2.mod hd.mod (fun k hk=>by
  have:=H0.out.1.big
  have:=HM2.out.size
  simp at hk
  omega)
 have b1:=new_dec w6 he6.big
 have he7:=b1.env he6
 have zq:=b1.apart hd.q
 have zr:=b1.apart hd.r
 have zd:=b1.apart hd.d
 have hcl:∀w7,Mod [] (w6.alloc (.cells #[.bool false,.slice none 0 0,.int .i32 0] 123)) w7→Calls Tryz.prog 117 #[.pointer (some ⟨w6.heap.size,0,none⟩),.pointer (some ⟨w2.heap.size,0,none⟩),.pointer (some ⟨w2.heap.size+1,0,none⟩),.pointer (some ⟨w2.heap.size+2,0,none⟩)] w7 fun e w'=>e=.returned (.pointer (some ⟨w6.heap.size,0,none⟩))∧∃w8 v',Mod [] (w6.alloc (.cells #[.bool false,.slice none 0 0,.int .i32 0] 123)) w8∧IntRes w8 w6.heap.size (.slice none 0 0) (some s) (nix.tdiv niy+sgnI (nix.tmod niy)) v' w':=fun w7 M=>
  (roundUp1_calls w6.heap.size w2.heap.size (w2.heap.size+1) (w2.heap.size+2) 0 s 0 _ _ _ (.slice none 0 0) vq vr vd w7 (he7.mod M (by simp)) (b1.ia.mod M (by simp) (by simp)) (zq.2.2.mod M (by simp) (by simp)) (zr.2.2.mod M (by simp) (by simp)) (zd.2.2.mod M (by simp) (by simp))
   zq.1.symm zr.1.symm zd.1.symm (by simp[sb]) (by simp[sb]) (by simp[sb]) (Nat.lt_of_le_of_lt (tdiv_abs_le _ _) hd.big) hd.qd.pos (by simp[sb];exact he6.big)).mono fun e w' ⟨h1,v',h2⟩=>⟨h1,w7,v',M,h2⟩
 have HCL:=Lh (rndrRound_calls w6.heap.size _ _ _ _ _ hcl)
 have HB1:=Lh b1
 clear hd he6 b1 he7 zq zr zd hcl
 go_wp2_with fail
 refine HCL.out.mono ?_
 rintro e w9 ⟨rfl,w8,v',M8,h9⟩
 have hrn:=rnd_of HD.out.qd
 rw[hrn] at h9
 have mA:=HM5.out.1.step HD.out.mod (fun k hk=>by
  have:=HM2.out.size
  simp at hk
  exact .inr (by omega))
 have mB:=(mA.trans HB1.out.mod).trans M8
 have sA:=mA.size
 have mC:=mB.step h9.mod (fun k hk=>by
  simp[sb] at hk
  exact .inr (by omega))
 have hz9:=H0.out.2.1.mod mC (by simp) (by simp)
 have lz:=H0.out.2.1.lt
 have hset:=dec_set bz w6.heap.size sz s nz (rnd n sx s) vz v' w9 hz9 h9.ia (by omega) (fun j hj hv=>by
  have:=H0.out.2.1.nv.zs.lt j hv
  have:=mB.size
  rcases h9.own j hj with h|h
  ·simp[sb] at h
  ·omega) H0.out.2.2.2.2.2.2
 have HSET:=Lh hset
 have HMC:=Lh mC
 clear hset mA mB sA mC hz9 lz hrn h9 M8
 go_wp2_with fail
 refine HSET.out.mono ?_
 rintro e w10 ⟨rfl,v10,h10⟩
 have H10:=Lh h10
 clear h10
 go_wp2_with fail
 go_ret
 have h10:=H10.out
 exact⟨rfl,v10,h10.ia,(HMC.out.mono (by simp)).trans h10.mod,fun j hj=>(h10.own j hj).imp id (fun h=>Nat.le_trans HMC.out.size h)⟩
theorem dec_quoRound (bz bx bY:Nat) (s:Int) (R:Ending→World→Prop) (S:World→Prop) (w:World) (hR:R=fun e w'=>e=.returned (.pointer (some ⟨bz,0,none⟩))∧S w')
 (h:Calls Tryz.prog 157 #[.pointer (some ⟨bz,0,none⟩),.pointer (some ⟨bx,0,none⟩),.pointer (some ⟨bY,0,none⟩),.iface 240 (.agg #[.int .i32 s]),rup] w R):
 Calls Tryz.prog 116 #[.pointer (some ⟨bz,0,none⟩),.pointer (some ⟨bx,0,none⟩),.pointer (some ⟨bY,0,none⟩),.int .i32 s,rup] w R:=by
 subst hR
 have H:=Lh h
 clear h
 generalize rup=r at*
 go_enter Tryz.func116,Tryz.ntmps116
 go_wp2_with fail
 refine H.out.mono ?_
 rintro e w1 ⟨rfl,hs⟩
 have HS:=Lh hs
 clear hs
 go_wp2_with fail
 go_ret
 exact⟨rfl,HS.out⟩
theorem dec_round (bz bx:Nat) (sz sx s nz n:Int) (vz vx:Value) (w:World) (he:Env w) (hz:IA w bz (some sz) nz vz) (hx:IA w bx (some sx) n vx)
 (h1:-300≤sx) (h2:sx≤300) (h3:-300≤s) (h4:s≤300) (h5:s-sx≤350) (h6:sx-s≤350) (hA:n.natAbs<Big) (hA':∀k:Nat,s=sx+k→(n*(10^k:Nat)).natAbs<Big) (hR:(rnd n sx s).natAbs<Big):
 Calls Tryz.prog 76 #[.pointer (some ⟨bz,0,none⟩),.pointer (some ⟨bx,0,none⟩),.int .i32 s,rup] w (IntRet w bz vz (some s) (rnd n sx s)):=by
 have H1:=Lh (newDec_calls 1 0 w he.big (by omega) (by omega))
 have H0:=Lh (fun(b:Nat) (v:Value) (w1:World) (k:NewRes w (some 0) 1 b v w1)=>dec_quoRound bz bx b s _ (fun w'=>∃v',IntRes w1 bz vz (some s) (rnd n sx s) v' w') w1 rfl (dec_quo bz bx b sz sx s nz n vz vx v w1 (k.env he) (k.apart hz).2.2 (k.apart hx).2.2 k.ia h1 h2 h3 h4 h5 h6 hA hA' hR))
 clear he hz hx h1 h2 h3 h4 h5 h6 hA hA' hR
 generalize rup=r at*
 go_enter Tryz.func76,Tryz.ntmps76
 go_wp2_with fail
 refine H1.out.mono ?_
 rintro e w1 ⟨b,v,rfl,hn⟩
 have HC:=Lh (H0.out b v w1 hn)
 have HN:=Lh hn
 clear hn
 go_wp2_with fail
 refine HC.out.mono ?_
 rintro e w2 ⟨rfl,v',hr⟩
 have HR:=Lh hr
 clear hr
 go_wp2_with fail
 go_ret
 have hr:=HR.out
 exact⟨rfl,v',hr.ia,(HN.out.mod.mono (by simp)).trans hr.mod,fun j hj=>(hr.own j hj).imp id (fun h=>Nat.le_trans HN.out.mod.size h)⟩
end Go.Proofs.YtcpjclakdpjjfaaGreatDoor
