/- Decimals read (inf/dec. -/
import Derived.Test.YtcpjclakdpjjfaaGreatDoorC38
import Derived.Test.YtcpjclakdpjjfaaGreatDoorC35
import Derived.Test.YtcpjclakdpjjfaaGreatDoorC29
set_option maxHeartbeats 1600000
namespace Go.Proofs.YtcpjclakdpjjfaaGreatDoor
open Go.RowKit Wd Dg
theorem dec_setString (bz:Nat) (be:Addr) (s:ByteArray) (sg A D:List UInt8) (dot:Bool) (N:Int) (hN:N=if sg=[45] then -(bv (A++D):Int) else bv (A++D)) (k:Nat) (hk:k=D.length) (w:World) (hw:19≤w.heap.size) (hz:IA w bz (some 0) 0 (.slice none 0 0)) (he:w.cell? ⟨3,0,none⟩=some (eofV be)) (ht:DTx s sg A D dot):
 Calls Tryz.prog 64 #[.pointer (some ⟨bz,0,none⟩),.string s] w fun e w'=>e=.returned (.tuple #[.pointer (some ⟨bz,0,none⟩),.bool true])∧∃v',IntRes w bz (.slice none 0 0) (some (k:Int)) N v' w':=by
 have m1:=eof_nil' be
 have m2:=eof_neq be
 have H0:=Lh (Aj hz (Aj he (Aj hw (Aj hN (Aj hk ht)))))
 clear hz he hw hN hk ht
 go_enter Tryz.func64,Tryz.ntmps64
 go_wp2_with fail
 refine(newReader_calls s w).mono ?_
 rintro e w1 ⟨rfl,h1,mm1⟩
 obtain⟨hz,he,hw,hN,hk,ht⟩:=H0.out
 have he1:=(mm1.cell (p:=⟨3,0,none⟩) (World.block_lt_of_cell? w _ he) (by simp)).trans he
 have SF:=Lh (dec_scan bz w.heap.size be (-1) s sg A D dot N hN k hk w1 (Nat.le_trans hw mm1.size) (hz.mod mm1 (by simp) (by simp)) h1 he1 hw ht)
 have hlo:=hz.lo
 have HM:=Lh (Aj mm1 (Aj he1 (Aj hw hlo)))
 clear h1 mm1 hz he hw hN hk ht he1 hlo
 go_wp2_with fail
 refine SF.out.mono ?_
 rintro e w2 ⟨rfl,⟨v',ia,own⟩,M1,q,rd⟩
 obtain⟨mm1,he1,hw,hlo⟩:=HM.out
 have he2:=(M1.cell (p:=⟨3,0,none⟩) (World.block_lt_of_cell? w1 _ he1) (by simp;omega)).trans he1
 have RR:=Lh (readRune_end w.heap.size s.size q s _ w2 rd (Nat.le_refl _) he2 hw)
 have hne:w.heap.size∉sb v':=rd.not_sb ia.nv.zs (by decide)
 have hne2:bz≠w.heap.size:=fun h1=>by
  rw[h1] at ia
  have h2:=ia.hd.symm.trans rd
  simp[hty,hdr] at h2
 have he3:∀w3,Mod [w.heap.size] w2 w3→w3.cell? ⟨3,0,none⟩=some (eofV be):=fun w3 m=>(m.cell (p:=⟨3,0,none⟩) (World.block_lt_of_cell? w2 _ he2) (by simp;omega)).trans he2
 have HH:=Lh (Aj ia (Aj own (Aj M1 (Aj hne (Aj hne2 (Aj mm1 he3))))))
 clear ia own M1 rd mm1 he1 hw hlo he2 hne hne2 he3 SF
 go_wp2_with fail
 refine RR.out.mono ?_
 rintro e w3 ⟨rfl,h3,h4⟩
 have he3:=HH.out.2.2.2.2.2.2 w3 h4
 have H3:=Lh h4
 clear h3 h4
 unfold eofV at he3 m1 m2 ⊢
 go_wp2_with fail
 go_ret2
 obtain⟨k1,k2,k3,k4,k5,k6,-⟩:=HH.out
 refine⟨rfl,v',k1.mod H3.out (by simp[k5]) (fun j hj hb=>k4 (List.mem_singleton.1 hb▸hj)),?_,fun j hj=>.inr (Nat.le_trans k6.size (k2 j hj))⟩
 have m3:Mod [bz,w.heap.size] w1 w3:=k3.trans (H3.out.mono (fun x hx=>.inl (by simp at hx;simp[hx])))
 exact(k6.mono (by simp)).step m3 (fun x hx=>by
  simp at hx
  rcases hx with rfl|rfl
  ·exact .inl (by simp)
  ·exact .inr (Nat.le_refl _))
end Go.Proofs.YtcpjclakdpjjfaaGreatDoor
namespace Go.Proofs.YtcpjclakdpjjfaaGreatDoor
open Go.RowKit Wd Dg
theorem can_vb {fn:Nat} {V:Int} (h:CanOk fn V):VB V:=by
 obtain⟨h1,⟨m,h2⟩,-⟩:=h
 refine⟨Nat.le_trans h1 (Nat.mul_le_mul_right _ (by decide)),m*(10^6:Nat),?_⟩
 rw[h2,sc_split (s:=-9) (c:=-3) (k:=6) rfl (by decide),Int.natCast_mul,Int.mul_assoc]
theorem can_may {fn:Nat} {V:Int} (h:CanOk fn V):May fn V:=by
 refine⟨can_vb h,fun hf=>?_⟩
 obtain⟨h1,-,h3⟩:=h
 have hp:=sc_pos 0
 rcases h3 hf with rfl|⟨⟨m,h4⟩,-⟩
 ·exact⟨0,by simp,by decide⟩
 ·refine⟨m,h4,?_⟩
  rw[h4,Int.natAbs_mul,Int.natAbs_natCast] at h1
  exact Nat.le_of_mul_le_mul_right h1 hp
theorem qV_ten {neg:Bool} {A D:List UInt8} {fn:Nat} {x:Int} (hf:fn≠1):qV neg A D fn x=(sg neg*(bv (A++D):Int))*sc (x-(D.length:Int)):=by
 unfold qV;rw[if_neg hf]
theorem qV_two {neg:Bool} {A:List UInt8} {x:Int}:qV neg A [] 1 x=(sg neg*((bv A*2^x.toNat:Nat):Int))*sc 0:=by
 unfold qV
 rw[if_pos rfl,List.append_nil,Int.natCast_mul,←Int.mul_assoc]
 rfl
theorem dV_ten {neg:Bool} {A D:List UInt8} {fn:Nat} {x n c:Int} (hf:fn≠1) (hn:n=sg neg*(bv (A++D):Int)) (hc:c=(D.length:Int)-x):dV n c=qV neg A D fn x:=by
 rw[qV_ten hf,hn,hc]
 unfold dV
 rw[show -((D.length:Int)-x)=x-(D.length:Int) by omega]
theorem dV_two {neg:Bool} {A D:List UInt8} {x n c:Int} (hn:n=sg neg*(bv (A++D):Int)*(2^x.toNat:Nat)) (hc:c=(D.length:Int)):dV n c=qV neg A D 1 x:=by
 unfold qV dV
 rw[if_pos rfl,hn,hc]
theorem dV_neg {n c:Int}:dV (-n) c=-dV n c:=by unfold dV;rw[Int.neg_mul]
theorem sg_natAbs (neg:Bool) (n:Nat):(sg neg*(n:Int)).natAbs=n:=by
 cases neg<;>simp[sg]
theorem bv_small {l:List UInt8} (h:BD l) (hl:l.length≤18):bv l<1000000000000000000:=Nat.lt_of_lt_of_le (bv_lt h) (Nat.le_trans (Nat.pow_le_pow_right (by decide) hl) (by decide))
theorem bv_big {l:List UInt8} (h:BD l) (hl:l.length≤110):bv l<B^6:=by
 refine Nat.lt_of_lt_of_le (bv_lt h) (Nat.le_trans (Nat.pow_le_pow_right (by decide) hl) ?_)
 rw[B_eq];decide+kernel
theorem two_B {k:Nat} (h:k≤60):2^k<B:=by
 refine Nat.lt_of_le_of_lt (Nat.pow_le_pow_right (by decide) h) ?_
 rw[B_eq];decide
theorem QOk.short {w:World} {neg:Bool} {A D:List UInt8} {fn:Nat} {x v s:Int} (hf:fn≠1) (hb:bv (A++D)<1000000000000000000) (hv:v=sg neg*(bv (A++D):Int)) (hs:s=x-(D.length:Int)) (h1:-100≤s) (h2:s≤100):QOk w v s (.pointer none) (qV neg A D fn x) []:=by
 have hi:i64 v:=by
  have:=sg_natAbs neg (bv (A++D))
  rw[←hv] at this
  unfold i64;omega
 exact .inl ⟨rfl,rfl,hi,h1,h2,by rw[qV_ten hf,hv,hs]⟩
theorem QOk.short2 {w:World} {neg:Bool} {A:List UInt8} {x v:Int} (hv:v=sg neg*((bv A*2^x.toNat:Nat):Int)) (hi:i64 v):QOk w v 0 (.pointer none) (qV neg A [] 1 x) []:=
 .inl ⟨rfl,rfl,hi,by decide,by decide,by rw[qV_two,hv]⟩
theorem can_cmpMax {fn:Nat} {n c:Int} (h:CanOk fn (dV n c)):cmpZI (dV n c) (dV 9223372036854775807 0)≤0:=by
 have h1:=h.1
 have hp:=sc_pos 0
 have e:dV 9223372036854775807 0=((9223372036854775807*sc 0:Nat):Int):=by unfold dV;rw[Int.natCast_mul];rfl
 rw[e]
 unfold cmpZI
 generalize 9223372036854775807*sc 0=M at*
 split
 ·decide
 ·split<;>omega
theorem can_cmpOne {n c:Int} (h:CanOk 1 (dV n c)) (h0:0≤dV n c):(dV n c=0∧cmpZI (dV n c) (dV 1 0)=-1∧cmpZI (dV n c) (dV 0 0)=0)∨0≤cmpZI (dV n c) (dV 1 0):=by
 have hp:=sc_pos 0
 have e1:dV 1 0=((sc 0:Nat):Int):=by unfold dV;rw[Int.one_mul];rfl
 have e0:dV 0 0=0:=by unfold dV;rw[Int.zero_mul]
 rw[e1,e0]
 rcases h.2.2 rfl with hz|⟨⟨m,hm⟩,-⟩
 ·left
  rw[hz]
  refine⟨rfl,?_,by unfold cmpZI;simp⟩
  unfold cmpZI
  rw[if_pos (by omega)]
 ·by_cases hz:dV n c=0
  ·left
   rw[hz]
   refine⟨rfl,?_,by unfold cmpZI;simp⟩
   unfold cmpZI
   rw[if_pos (by omega)]
  ·right
   have hm0:0<m:=by
    rcases Int.lt_or_le 0 m with g|g
    ·exact g
    ·exfalso
     have:m*(sc 0:Int)≤0:=Int.mul_nonpos_of_nonpos_of_nonneg g (by omega)
     omega
   have:1*(sc 0:Int)≤m*(sc 0:Int):=Int.mul_le_mul_of_nonneg_right (by omega) (by omega)
   unfold cmpZI
   rw[hm,if_neg (by omega)]
   split<;>omega
end Go.Proofs.YtcpjclakdpjjfaaGreatDoor
