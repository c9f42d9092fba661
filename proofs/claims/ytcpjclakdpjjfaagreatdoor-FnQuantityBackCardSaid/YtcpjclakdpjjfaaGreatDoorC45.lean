/- Sums of rows of digits (spec/quantities. -/
import Derived.Test.YtcpjclakdpjjfaaGreatDoorC44
set_option maxHeartbeats 12800000
set_option maxRecDepth 10000
namespace Go.Proofs.YtcpjclakdpjjfaaGreatDoor
open Go.RowKit Wd Dg
structure SmSt (w:World) (X Y:List Nat) (σ:Int) (i:Nat) (c:Int) (v:Value) (l:List Nat) (wr:World):Prop where
 len:l.length=i
 ad:AD l
 sum:(dv l:Int)+c*(10^i:Nat)=low X i+σ*low Y i
 own:wr.ownsRow (w.heap.size+1) 3 1 v l.length (ics l)
 mod:Mod [] w wr
 hd:Hd wr w.heap.size 27 #[.bool false,.slice none 0 0,.int .i64 0]
theorem SmSt.turn {w wr:World} {X Y:List Nat} {σ c c':Int} {i z:Nat} {v:Value} {l:List Nat} (h:SmSt w X Y σ i c v l wr) (hz:z≤9) (hs:(z:Int)+10*c'=rat X i+c+σ*rat Y i) (hi:i≤2000):
 ∃v1 w1,(Builtin.append_ #[25,25] 25 #[.slice (some ⟨wr.heap.size,0,none⟩) 1 1,v]).run Tryz.prog (wr.alloc (.cells #[.int .i64 (z:Int)] 3))=.ok v1 w1∧SmSt w X Y σ (i+1) c' v1 (z::l) w1:=by
 obtain⟨e1,e2,e3,e5,e6,e7⟩:=h
 have hir:Ir (wr.alloc (.cells #[.int .i64 (z:Int)] 3)) v l:=(Ir.own e5).mod ((Mod.refl [] wr).alloc _)
 obtain⟨v1,w1,hrun,ho,hg⟩:=append_ir (own_one wr z) hir (by simp;omega) (by simp)
 have mA:Mod [] w (wr.alloc (.cells #[.int .i64 (z:Int)] 3)):=e6.alloc _
 have hlt:=Hd.lt e7
 have hgm:Mod [wr.heap.size] (wr.alloc (.cells #[.int .i64 (z:Int)] 3)) w1:=Mod.grown hg (fun k hk=>by
  have:wr.heap.size=k:=by simpa [Value.ownBlock] using hk
  simp[this])
 refine⟨v1,w1,hrun,by rw[List.length_cons,e1],e2.cons hz,sum_place e1 e3 hs,?_,own_grown (own_one wr z) e6.size mA hg,Hd.mod (Hd.mod e7 ((Mod.refl [] wr).alloc _) (by simp)) hgm (by simp;omega)⟩
 rw[List.singleton_append] at ho
 exact⟨ho.1,ho.2.imp_right (fun⟨g,cap,cur,q1,q2,q3⟩=>⟨g,cap,cur,q1,by omega,q3⟩)⟩
theorem place_split {S:Int} (h1:-10≤S) (h2:S≤19):∃(z:Nat) (c':Int),z≤9∧(z:Int)+10*c'=S∧-1≤c'∧c'≤1∧(0≤S→0≤c')∧(S≤9→c'≤0)∧(0≤S→S≤9→c'=0):=by
 rcases Int.lt_or_le S 0 with h|h
 ·exact⟨(S+10).toNat,-1,by omega,by omega,by omega,by omega,by omega,by omega,by omega⟩
 ·rcases Int.lt_or_le 9 S with k|k
  ·exact⟨(S-10).toNat,1,by omega,by omega,by omega,by omega,by omega,by omega,by omega⟩
  ·exact⟨S.toNat,0,by omega,by omega,by omega,by omega,by omega,by omega,by omega⟩
def SmC (less:Bool) (N i:Nat) (c:Int):Prop:=i≤N+1∧(i=N+1→c=0)∧(if less then -1≤c∧c≤0 else 0≤c∧c≤1)
def sgm (less:Bool):Int:=if less then -1 else 1
theorem SmC.next {less:Bool} {w wr:World} {X Y l:List Nat} {i:Nat} {c:Int} {v:Value} (h:SmC less (max X.length Y.length) i c) (k:SmSt w X Y (sgm less) i c v l wr) (hA:AD X) (hB:AD Y) (hl:less=true→dv Y≤dv X) (hgo:i<X.length∨i<Y.length∨c≠0):
 ∃(z:Nat) (c':Int),z≤9∧(z:Int)+10*c'=rat X i+c+sgm less*rat Y i∧SmC less (max X.length Y.length) (i+1) c'∧-10≤(z:Int)+10*c'∧(z:Int)+10*c'≤19∧-1≤c'∧c'≤1:=by
 obtain⟨h1,h2,h3⟩:=h
 have r1:=rat_le hA i
 have r2:=rat_le hB i
 obtain⟨z,c',a1,a2,a3,a4,a5,a6,a7⟩:=place_split (S:=rat X i+c+sgm less*rat Y i) (by cases less<;>simp[sgm] at h3 ⊢ <;>omega) (by cases less<;>simp[sgm] at h3 ⊢ <;>omega)
 refine⟨z,c',a1,a2,⟨?_,?_,?_⟩,by cases less<;>simp[sgm] at h3 a2 ⊢ <;>omega,by cases less<;>simp[sgm] at h3 a2 ⊢ <;>omega,a3,a4⟩
 ·by_cases hi:i=max X.length Y.length+1
  ·have:=h2 hi;omega
  ·omega
 ·intro hi
  have hc:c≠0:=by omega
  have x1:=rat_out (l:=X) (i:=i) (by omega)
  have x2:=rat_out (l:=Y) (i:=i) (by omega)
  cases less
  ·simp[sgm,x1,x2] at h3 a2 a7 ⊢;omega
  ·exfalso
   have e:=sum_end k.sum (by omega) (by omega)
   have hlt:=dv_lt k.ad
   rw[k.len] at hlt
   exact hc (sum_less e hlt (hl rfl) (by simp at h3;omega))
 ·cases less
  ·simp[sgm] at h3 a2 a5 ⊢;omega
  ·simp[sgm] at h3 a2 a6 ⊢;omega
theorem SmC.start (less:Bool) (N:Nat):SmC less N 0 0:=⟨by omega,by omega,by cases less<;>simp⟩
theorem sum_calls (neg:Bool) (vx vy:Value) (X Y:List Nat) (less:Bool) (x:Int) (T:Nat) (w:World) (hx:Ir w vx X) (hy:Ir w vy Y) (hA:AD X) (hB:AD Y) (hX:X.length≤1000) (hY:Y.length≤1000) (hl:less=true→dv Y≤dv X) (hT:(T:Int)=dv X+sgm less*dv Y) (h1:-400≤x) {hi:Int} (h2:x+(max X.length Y.length:Nat)+1≤hi) (h3:hi≤1000):
 Calls Tryz.prog 52 #[.bool neg,vx,vy,.bool less,.int .i64 x] w (DcRet (sg neg*(T:Int)*(sc x:Int)) x hi w):=by
 have AX:=Lh (fun(w':World) (m:Mod [] w w') (i:Nat) (hi:i≤2000)=>spec_at vx X i w' (hx.mod m) (by omega) (by omega))
 have AY:=Lh (fun(w':World) (m:Mod [] w w') (i:Nat) (hi:i≤2000)=>spec_at vy Y i w' (hy.mod m) (by omega) (by omega))
 obtain⟨ax,cx,rfl,-,-⟩:=hx.form
 obtain⟨ay,cy,rfl,-,-⟩:=hy.form
 have HH:=Lh (Aj hA (Aj hB (Aj hX (Aj hY (Aj hl (Aj hT (Aj h1 (Aj h2 h3))))))))
 clear hx hy hA hB hX hY hl hT h1 h2 h3
 obtain⟨nX,hnX⟩:∃n,X.length=n:=⟨_,rfl⟩
 obtain⟨nY,hnY⟩:∃n,Y.length=n:=⟨_,rfl⟩
 rw[hnX,hnY]
 have HN:=Lh (Aj hnX hnY)
 clear hnX hnY
 go_enter Tryz.func52,Tryz.ntmps52
 go_wp2_with fail
 go_loopw [11,12,13] (fun t11 t12 t13 wr=>∃(i:Nat) (c:Int) (v:Value) (l:List Nat),v=t11∧t12=.int .i64 c∧t13=.int .i64 i∧SmC less (max X.length Y.length) i c∧SmSt w X Y (sgm less) i c v l wr) (fun _ _ t13 _=>max X.length Y.length+2-(intOf t13).toNat)
 case atStart=>exact⟨0,0,_,[],rfl,rfl,rfl,SmC.start _ _,rfl,AD.nil,by simp[low_zero,dv_nil],World.ownsRow_nil _ _ 3 1,(Mod.refl [] w).alloc _,Hd.new w 27 _⟩
 case round=>
  obtain⟨i,c,v,l,hv,rfl,rfl,hc,hst⟩:=hrel
  subst hv
  have key:((decide ((i:Int)<(nX:Int))=true∧decide (i<nX)=true)∨((decide ((i:Int)<(nX:Int))=false∧decide (i<nX)=false)∧decide ((i:Int)<(nY:Int))=true∧decide (i<nY)=true)∨((decide ((i:Int)<(nX:Int))=false∧decide (i<nX)=false)∧(decide ((i:Int)<(nY:Int))=false∧decide (i<nY)=false)∧(c !=0)=true))∧(i<X.length∨i<Y.length∨c≠0)∨((decide ((i:Int)<(nX:Int))=false∧decide (i<nX)=false)∧(decide ((i:Int)<(nY:Int))=false∧decide (i<nY)=false)∧(c !=0)=false)∧(X.length≤i∧Y.length≤i∧c=0):=by
   rw[HN.out.1,HN.out.2]
   by_cases k1:i<nX
   ·exact .inl ⟨.inl ⟨by simp;omega,by simp;omega⟩,.inl k1⟩
   ·by_cases k2:i<nY
    ·exact .inl ⟨.inr (.inl ⟨⟨by simp;omega,by simp;omega⟩,by simp;omega,by simp;omega⟩),.inr (.inl k2)⟩
    ·by_cases k3:c=0
     ·exact .inr ⟨⟨⟨by simp;omega,by simp;omega⟩,⟨by simp;omega,by simp;omega⟩,by simpa using k3⟩,by omega,by omega,k3⟩
     ·exact .inl ⟨.inr (.inr ⟨⟨by simp;omega,by simp;omega⟩,⟨by simp;omega,by simp;omega⟩,by simpa using k3⟩),.inr (.inr k3)⟩
  rcases key with ⟨key,hgo⟩|⟨⟨⟨t1,t1'⟩,⟨t2,t2'⟩,t3⟩,hend⟩
  ·have hcn:=hc
   obtain⟨z,c',hz,hs,hc',b1,b2,b3,b4⟩:=hc.next hst HH.out.1 HH.out.2.1 HH.out.2.2.2.2.1 hgo
   have hi2:i≤2000:=by have:=hc.1;have:=HH.out;omega
   obtain⟨v1,w1,hrun,hnew⟩:=hst.turn hz hs hi2
   have BX:=Lh (AX.out wr hst.mod i hi2)
   have BY:=Lh (AY.out wr hst.mod i hi2)
   rw[HN.out.1] at BX
   rw[HN.out.2] at BY
   have HS:=Lh (Aj hc' (Aj hnew hs))
   have r1:=rat_le HH.out.1 i
   have r2:=rat_le HH.out.2.1 i
   have hcb:-1≤c∧c≤1:=by have:=hc.2.2;cases less<;>simp at this<;>omega
   obtain⟨hcb1,hcb2⟩:=hcb
   have HI:=Lh (show i+1≤max X.length Y.length+2∧i≤2000 from ⟨by have:=hc.1;omega,hi2⟩)
   have HW:=Lh (show wrap64 ((i:Int)+1)=((i+1:Nat):Int) from w64 (by omega) (by omega) (by omega))
   clear hc hst hnew hc' hcn hgo hs hi2
   generalize rat X i=rx at*
   generalize rat Y i=ry at*
   rcases key with ⟨t1,t1'⟩|⟨⟨t1,t1'⟩,t2,t2'⟩|⟨⟨t1,t1'⟩,⟨t2,t2'⟩,t3⟩
   all_goals
    cases less
    ·have e:(rx:Int)+c+ry=z+10*c':=by have:=HS.out.2.2;simp[sgm] at this;omega
     have HE:=Lh e
     clear e
     go_upto_region 6 with fail
     try clear t3
     try clear t2 t2'
     clear t1 t1'
     go_upto_region 1 with fail
     refine BX.out.mono ?_
     rintro _ _ ⟨rfl,rfl⟩
     clear BX
     go_upto_region 3 with fail
     refine BY.out.mono ?_
     rintro _ _ ⟨rfl,rfl⟩
     clear BY
     go_wp2_with fail
     go_loop [14,12] (fun t14 t12=>∃s k:Int,t14=.int .i64 s∧t12=.int .i64 k∧s+10*k=z+10*c'∧-10≤s∧s≤19∧-1≤k∧k≤0) (fun t14 _=>(20-intOf t14).toNat)
     case atStart=>exact⟨_,0,rfl,rfl,(by have:=HE.out;omega),by have:=HE.out;omega,by have:=HE.out;omega,by omega,by omega⟩
     case round=>
      obtain⟨s,k,rfl,rfl,hsk0,d1,d2,d3,d4⟩:=hrel
      have hsk:=Lh hsk0
      clear hsk0
      rcases Int.lt_or_le s 0 with g0|g0
      ·have u1:decide (s<0)=true:=by simpa using g0
       go_wp2_with fail
       go_round
       case rel=>exact⟨s+10,k-1,by go_num,by go_num,(by have:=hsk.out;omega),by omega,by omega,by have:=hsk.out;omega,by omega⟩
       case measure=>simp only[intOf];omega
      ·have u1:decide (s<0)=false:=by simp;omega
       go_wp2_with fail
       clear u1
       go_loop [14,12] (fun t14 t12=>∃s k:Int,t14=.int .i64 s∧t12=.int .i64 k∧s+10*k=z+10*c'∧0≤s∧s≤19∧-1≤k∧k≤2) (fun t14 _=>(intOf t14).toNat)
       case atStart=>exact⟨s,k,rfl,rfl,hsk.out,by omega,by omega,by omega,by omega⟩
       case round=>
        clear hsk d1 d2 d3 d4 g0
        obtain⟨s,k,rfl,rfl,hsk0,d1,d2,d3,d4⟩:=hrel
        have hsk:=Lh hsk0
        clear hsk0
        rcases Int.lt_or_le 9 s with g0|g0
        ·have u1:decide (9<s)=true:=by simpa using g0
         go_wp2_with fail
         go_round
         case rel=>exact⟨s-10,k+1,by go_num,by go_num,(by have:=hsk.out;omega),by omega,by omega,by omega,by have:=hsk.out;omega⟩
         case measure=>simp only[intOf];omega
        ·have u1:decide (9<s)=false:=by simp;omega
         obtain rfl:s=(z:Int):=by have:=hsk.out;omega
         obtain rfl:k=c':=by have:=hsk.out;omega
         go_wp2_with (at_builtin;refine Lib.wpList_append_run _ rfl _ _ _ _ rfl _ _ rfl rfl _ _ hrun ?_)
         go_roundw
         case rel=>exact⟨i+1,_,v1,_,rfl,rfl,by rw[HW.out],HS.out.1,HS.out.2.1⟩
         case measure=>rw[HW.out];have:=HI.out;simp only[intOf];omega
    ·have e:(rx:Int)+c-ry=z+10*c':=by have:=HS.out.2.2;simp[sgm] at this;omega
     have HE:=Lh e
     clear e
     go_upto_region 6 with fail
     try clear t3
     try clear t2 t2'
     clear t1 t1'
     go_upto_region 1 with fail
     refine BX.out.mono ?_
     rintro _ _ ⟨rfl,rfl⟩
     clear BX
     go_upto_region 3 with fail
     refine BY.out.mono ?_
     rintro _ _ ⟨rfl,rfl⟩
     clear BY
     go_wp2_with fail
     go_loop [14,12] (fun t14 t12=>∃s k:Int,t14=.int .i64 s∧t12=.int .i64 k∧s+10*k=z+10*c'∧-10≤s∧s≤19∧-1≤k∧k≤0) (fun t14 _=>(20-intOf t14).toNat)
     case atStart=>exact⟨_,0,rfl,rfl,(by have:=HE.out;omega),by have:=HE.out;omega,by have:=HE.out;omega,by omega,by omega⟩
     case round=>
      obtain⟨s,k,rfl,rfl,hsk0,d1,d2,d3,d4⟩:=hrel
      have hsk:=Lh hsk0
      clear hsk0
      rcases Int.lt_or_le s 0 with g0|g0
      ·have u1:decide (s<0)=true:=by simpa using g0
       go_wp2_with fail
       go_round
       case rel=>exact⟨s+10,k-1,by go_num,by go_num,(by have:=hsk.out;omega),by omega,by omega,by have:=hsk.out;omega,by omega⟩
       case measure=>simp only[intOf];omega
      ·have u1:decide (s<0)=false:=by simp;omega
       go_wp2_with fail
       clear u1
       go_loop [14,12] (fun t14 t12=>∃s k:Int,t14=.int .i64 s∧t12=.int .i64 k∧s+10*k=z+10*c'∧0≤s∧s≤19∧-1≤k∧k≤2) (fun t14 _=>(intOf t14).toNat)
       case atStart=>exact⟨s,k,rfl,rfl,hsk.out,by omega,by omega,by omega,by omega⟩
       case round=>
        clear hsk d1 d2 d3 d4 g0
        obtain⟨s,k,rfl,rfl,hsk0,d1,d2,d3,d4⟩:=hrel
        have hsk:=Lh hsk0
        clear hsk0
        rcases Int.lt_or_le 9 s with g0|g0
        ·have u1:decide (9<s)=true:=by simpa using g0
         go_wp2_with fail
         go_round
         case rel=>exact⟨s-10,k+1,by go_num,by go_num,(by have:=hsk.out;omega),by omega,by omega,by omega,by have:=hsk.out;omega⟩
         case measure=>simp only[intOf];omega
        ·have u1:decide (9<s)=false:=by simp;omega
         obtain rfl:s=(z:Int):=by have:=hsk.out;omega
         obtain rfl:k=c':=by have:=hsk.out;omega
         go_wp2_with (at_builtin;refine Lib.wpList_append_run _ rfl _ _ _ _ rfl _ _ rfl rfl _ _ hrun ?_)
         go_roundw
         case rel=>exact⟨i+1,_,v1,_,rfl,rfl,by rw[HW.out],HS.out.1,HS.out.2.1⟩
         case measure=>rw[HW.out];have:=HI.out;simp only[intOf];omega
  ·obtain⟨e1,e2,e3⟩:=hend
   have hsum:=sum_end hst.sum e1 e2
   have hdv:dv l=T:=by have:=HH.out.2.2.2.2.2.1;rw[e3] at hsum;omega
   have hlen:l.length≤max X.length Y.length+1:=by have:=hc.1;have:=hst.len;omega
   have DC:=Lh (decimal_calls neg x v l wr (Ir.own hst.own) hst.ad HH.out.2.2.2.2.2.2.1 (hi:=hi) (by have:=HH.out.2.2.2.2.2.2.2.1;omega) HH.out.2.2.2.2.2.2.2.2)
   rw[hdv] at DC
   have HE:=Lh (Aj hst.mod hst.hd)
   clear hst hc hsum hdv hlen e1 e2 e3
   go_wp2_with fail
   refine DC.out.mono ?_
   rintro _ w2 ⟨d,rfl,⟨ng,sl,l2,ex,rfl,hir,hF⟩,m2⟩
   obtain⟨av,cv,hsl,-,-⟩:=hir.form
   subst hsl
   have hd2:=Hd.mod HE.out.2 m2 (by simp)
   have FS:=Lh (dc_put hd2 (Nat.le_refl _) (HE.out.1.trans m2) hir hF)
   have k0:=hd2.cell (i:=0) rfl
   have k1:=hd2.cell (i:=1) rfl
   have k2:=hd2.cell (i:=2) rfl
   have kf:=hd2.free
   clear hir hF m2 hd2 DC
   unfold dcv
   go_wp2_with fail
   obtain⟨hd,hdc,hmd⟩:=FS.out
   have c0:=hd.cell (i:=0) rfl
   have c1:=hd.cell (i:=1) rfl
   have c2:=hd.cell (i:=2) rfl
   refine bodyPost_ret (v:=dcv ng (.slice av l2.length cv) ex) (by unfold dcv;simp[results,Tryz.results52,go_sem,c0,c1,c2];try rfl) rfl ?_
   exact⟨_,rfl,hdc,hmd⟩
end Go.Proofs.YtcpjclakdpjjfaaGreatDoor
namespace Go.Proofs.YtcpjclakdpjjfaaGreatDoor
open Go.RowKit Wd Dg
theorem ad_zeros {l:List Nat} (h:AD l) (k:Nat):AD (l++List.replicate k 0):=by
 intro d hd
 rcases List.mem_append.1 hd with hd|hd
 ·exact h d hd
 ·rw[(List.mem_replicate.1 hd).2];decide
theorem sc_down {e m:Int} (h1:m≤e) (h2:-400≤m):sc e=10^(e-m).toNat*sc m:=sc_split (k:=(e-m).toNat) (by omega) h2
theorem dv_wide (l:List Nat) (k:Nat):dv (l++List.replicate k 0)=dv l*10^k:=by
 rw[dv_append,dv_zeros,List.length_replicate,Nat.add_zero]
theorem add_val {n1 n2:Bool} {l r:List Nat} {e f V W lo hi m:Int} (h:Dg.DF n1 l e V lo hi) (k:Dg.DF n2 r f W lo hi) (hl:l≠[]) (hr:r≠[]) (hm:m=min e f) (hh:hi-lo≤1000) (hle:n1≠n2→W.natAbs≤V.natAbs):
 AD (l++List.replicate (e-m).toNat 0)∧AD (r++List.replicate (f-m).toNat 0)∧(l++List.replicate (e-m).toNat 0).length≤1000∧(r++List.replicate (f-m).toNat 0).length≤1000∧
 ((n1 !=n2)=true→dv (r++List.replicate (f-m).toNat 0)≤dv (l++List.replicate (e-m).toNat 0))∧
 -400≤m∧lo≤m∧m+(max (l++List.replicate (e-m).toNat 0).length (r++List.replicate (f-m).toNat 0).length:Nat)+1≤hi+1∧
 ∃T:Nat,(T:Int)=dv (l++List.replicate (e-m).toNat 0)+sgm (n1 !=n2)*dv (r++List.replicate (f-m).toNat 0)∧sg n1*(T:Int)*(sc m:Int)=V+W:=by
 have g1:=h.ge hl
 have g2:=k.ge hr
 have g3:=h.le hl
 have g4:=k.le hr
 have g5:=h.blo
 have hm1:m≤e:=by omega
 have hm2:m≤f:=by omega
 have s1:=sc_down hm1 (by omega)
 have s2:=sc_down hm2 (by omega)
 have a1:=h.abs
 have a2:=k.abs
 have v1:=h.v
 have v2:=k.v
 rw[s1] at a1 v1
 rw[s2] at a2 v2
 rw[←Nat.mul_assoc,←dv_wide] at a1 a2
 have c1:V=sg n1*(dv (l++List.replicate (e-m).toNat 0):Int)*(sc m:Int):=by
  rw[v1,dv_wide];simp only[Int.natCast_mul,Int.mul_assoc]
 have c2:W=sg n2*(dv (r++List.replicate (f-m).toNat 0):Int)*(sc m:Int):=by
  rw[v2,dv_wide];simp only[Int.natCast_mul,Int.mul_assoc]
 have hlen1:(l++List.replicate (e-m).toNat 0).length=l.length+(e-m).toNat:=by simp
 have hlen2:(r++List.replicate (f-m).toNat 0).length=r.length+(f-m).toNat:=by simp
 have hd:(n1 !=n2)=true→dv (r++List.replicate (f-m).toNat 0)≤dv (l++List.replicate (e-m).toNat 0):=by
  intro hn
  have:=hle (by simpa using hn)
  rw[a1,a2] at this
  exact Nat.le_of_mul_le_mul_right this (sc_pos m)
 refine⟨ad_zeros h.nd.ad _,ad_zeros k.nd.ad _,by rw[hlen1];omega,by rw[hlen2];omega,hd,by omega,by omega,by rw[hlen1,hlen2];omega,?_⟩
 clear s1 s2 a1 a2 v1 v2 hlen1 hlen2
 generalize dv (l++List.replicate (e-m).toNat 0)=X at*
 generalize dv (r++List.replicate (f-m).toNat 0)=Y at*
 rw[c1,c2]
 generalize (sc m:Int)=S
 by_cases hn:n1=n2
 ·subst hn
  refine⟨X+Y,by simp[sgm],?_⟩
  cases n1<;>simp[sg]<;>grind
 ·have hn':(n1 !=n2)=true:=by simpa using hn
  have:=hd hn'
  refine⟨X-Y,by simp[sgm,hn'];omega,?_⟩
  have e:((X-Y:Nat):Int)=X-Y:=by omega
  rw[e]
  cases n1<;>cases n2<;>simp[sg] at hn ⊢ <;>grind
structure AdX (w:World) (n1:Bool) (s1:Value) (e1:Int) (n2:Bool) (s2:Value) (e2:Int) (wr:World):Prop where
 ha:Hd wr w.heap.size 27 #[.bool n1,s1,.int .i64 e1]
 hb:Hd wr (w.heap.size+1) 27 #[.bool n2,s2,.int .i64 e2]
 hc:Hd wr (w.heap.size+2) 27 #[.bool false,.slice none 0 0,.int .i64 0]
 hm:Mod [] w wr
theorem AdX.start (w:World) (n1:Bool) (s1:Value) (e1:Int) (n2:Bool) (s2:Value) (e2:Int):AdX w n1 s1 e1 n2 s2 e2 (((w.alloc (.cells #[.bool n1,s1,.int .i64 e1] 27)).alloc (.cells #[.bool n2,s2,.int .i64 e2] 27)).alloc (.cells #[.bool false,.slice none 0 0,.int .i64 0] 27)):=by
 refine⟨Hd.mod (Hd.new w 27 _) (((Mod.refl [] _).alloc _).alloc _) (by simp),?_,?_,(((Mod.refl [] w).alloc _).alloc _).alloc _⟩
 ·have:=Hd.mod (Hd.new (w.alloc (.cells #[.bool n1,s1,.int .i64 e1] 27)) 27 #[.bool n2,s2,.int .i64 e2]) ((Mod.refl [] _).alloc (.cells #[.bool false,.slice none 0 0,.int .i64 0] 27)) (by simp)
  simpa using this
 ·have:=Hd.new ((w.alloc (.cells #[.bool n1,s1,.int .i64 e1] 27)).alloc (.cells #[.bool n2,s2,.int .i64 e2] 27)) 27 #[.bool false,.slice none 0 0,.int .i64 0]
  simpa using this
variable {w:World} {n1 n2:Bool} {s1 s2:Value} {e1 e2:Int} {wr:World}
theorem AdX.turn (h:AdX w n1 s1 e1 n2 s2 e2 wr) {w':World} (m:Mod [] wr w'):AdX w n1 s1 e1 n2 s2 e2 w':=
 ⟨Hd.mod h.ha m (by simp),Hd.mod h.hb m (by simp),Hd.mod h.hc m (by simp),h.hm.trans m⟩
theorem AdX.cells (h:AdX w n1 s1 e1 n2 s2 e2 wr):(wr.cell? ⟨w.heap.size,0,none⟩=some (.bool n1)∧wr.cell? ⟨w.heap.size,1,none⟩=some s1∧wr.cell? ⟨w.heap.size,2,none⟩=some (.int .i64 e1))∧(wr.cell? ⟨w.heap.size+1,0,none⟩=some (.bool n2)∧wr.cell? ⟨w.heap.size+1,1,none⟩=some s2∧wr.cell? ⟨w.heap.size+1,2,none⟩=some (.int .i64 e2)):=
 ⟨⟨h.ha.cell rfl,h.ha.cell rfl,h.ha.cell rfl⟩,⟨h.hb.cell rfl,h.hb.cell rfl,h.hb.cell rfl⟩⟩
theorem AdX.rcells (h:AdX w n1 s1 e1 n2 s2 e2 wr):(wr.cell? ⟨w.heap.size+2,0,none⟩=some (.bool false)∧wr.cell? ⟨w.heap.size+2,1,none⟩=some (.slice none 0 0)∧wr.cell? ⟨w.heap.size+2,2,none⟩=some (.int .i64 0))∧∀i,wr.frozen? ⟨w.heap.size+2,i,none⟩=false:=
 ⟨⟨h.hc.cell rfl,h.hc.cell rfl,h.hc.cell rfl⟩,h.hc.free⟩
theorem AdX.bcells (h:AdX w n1 s1 e1 n2 s2 e2 wr) {b:Nat} (hb:w.heap.size+2=b):(wr.cell? ⟨b,0,none⟩=some (.bool false)∧wr.cell? ⟨b,1,none⟩=some (.slice none 0 0)∧wr.cell? ⟨b,2,none⟩=some (.int .i64 0))∧∀i,wr.frozen? ⟨b,i,none⟩=false:=by
 subst hb;exact h.rcells
theorem AdX.swap (h:AdX w n1 s1 e1 n2 s2 e2 wr) {l1 l2:List Nat} (h1:Ir wr s1 l1) (h2:Ir wr s2 l2):
 AdX w n2 s2 e2 n1 s1 e1 (set3 (set3 wr w.heap.size n2 s2 e2) (w.heap.size+1) n1 s1 e1)∧Ir (set3 (set3 wr w.heap.size n2 s2 e2) (w.heap.size+1) n1 s1 e1) s1 l1∧Ir (set3 (set3 wr w.heap.size n2 s2 e2) (w.heap.size+1) n1 s1 e1) s2 l2:=by
 have m1:Mod [w.heap.size] wr (set3 wr w.heap.size n2 s2 e2):=(((Mod.refl _ wr).setCell _ (.inl (by simp))).setCell _ (.inl (by simp))).setCell _ (.inl (by simp))
 have a1:Hd (set3 wr w.heap.size n2 s2 e2) w.heap.size 27 #[.bool n2,s2,.int .i64 e2]:=((h.ha.set 0 (.bool n2)).set 1 s2).set 2 (.int .i64 e2)
 have b1:=Hd.mod h.hb m1 (by simp)
 have c1:=Hd.mod h.hc m1 (by simp)
 have i1:=h1.mods m1 (h1.off h.ha (by decide))
 have i2:=h2.mods m1 (h2.off h.ha (by decide))
 have k1:Mod [] w (set3 wr w.heap.size n2 s2 e2):=h.hm.step m1 (fun x hx=>.inr (by rw[List.mem_singleton.1 hx];omega))
 generalize set3 wr w.heap.size n2 s2 e2=wm at*
 have m2:Mod [w.heap.size+1] wm (set3 wm (w.heap.size+1) n1 s1 e1):=(((Mod.refl _ wm).setCell _ (.inl (by simp))).setCell _ (.inl (by simp))).setCell _ (.inl (by simp))
 refine⟨⟨Hd.mod a1 m2 (by simp),((b1.set 0 (.bool n1)).set 1 s1).set 2 (.int .i64 e1),Hd.mod c1 m2 (by simp),k1.step m2 (fun x hx=>.inr (by rw[List.mem_singleton.1 hx];omega))⟩,i1.mods m2 (i1.off b1 (by decide)),i2.mods m2 (i2.off b1 (by decide))⟩
theorem wide_some {n1:Bool} {s1:Value} {l:List Nat} {e1 m:Int} {w':World} (h:Ir w' s1 l) (hl:l≠[]) (h0:l.length≤10000) (h1:-10000≤e1) (h2:e1≤10000) (h3:-10000≤m) (h4:m≤10000):
 Calls Tryz.prog 53 #[dcv n1 s1 e1,.int .i64 m] w' fun e w''=>∃v,e=.returned v∧Ir w'' v (l++List.replicate (e1-m).toNat 0)∧Mod [] w' w'':=by
 have:=wide_calls n1 s1 l e1 m w' h h0 h1 h2 h3 h4
 rw[if_neg hl] at this
 exact this
theorem ad_pack {l r:List Nat} {V W lo hi m:Int} {b:Bool} (h:Dg.DF n1 l e1 V lo hi) (k:Dg.DF n2 r e2 W lo hi) (hl:l≠[]) (hr:r≠[]) (hm:min e1 e2=m) (hh:hi-lo≤1000) (hhi:hi≤999) (hle:n1≠n2→W.natAbs≤V.natAbs) (i1:Ir wr s1 l) (i2:Ir wr s2 r) (hb:(n1 !=n2)=b):
 ∃X Y:List Nat,(∀w',Mod [] wr w'→Calls Tryz.prog 53 #[dcv n1 s1 e1,.int .i64 m] w' fun e w''=>∃v,e=.returned v∧Ir w'' v X∧Mod [] w' w'')∧
  (∀w',Mod [] wr w'→Calls Tryz.prog 53 #[dcv n2 s2 e2,.int .i64 m] w' fun e w''=>∃v,e=.returned v∧Ir w'' v Y∧Mod [] w' w'')∧
  ∀w' v1 v2,Ir w' v1 X→Ir w' v2 Y→Calls Tryz.prog 52 #[.bool n1,v1,v2,.bool b,.int .i64 m] w' (DcRet (V+W) lo (hi+1) w'):=by
 obtain⟨x1,x2,x3,x4,x5,x6,x7,x8,T,x9,x10⟩:=add_val h k hl hr hm.symm hh hle
 have g1:=h.ge hl
 have g2:=k.ge hr
 have g3:=h.le hl
 have g4:=k.le hr
 have g5:=h.blo
 rw[hb] at x5 x9
 refine⟨_,_,fun w' m'=>wide_some (i1.mod m') hl (by omega) (by omega) (by omega) (by omega) (by omega),fun w' m'=>wide_some (i2.mod m') hr (by omega) (by omega) (by omega) (by omega) (by omega),fun w' v1 v2 j1 j2=>?_⟩
 refine(sum_calls n1 v1 v2 _ _ b m T w' j1 j2 x1 x2 x3 x4 x5 x9 x6 x8 (by omega)).mono ?_
 rintro e w'' ⟨d,rfl,hd,hmm⟩
 rw[x10] at hd
 exact⟨d,rfl,hd.mono x7 (by omega) g5 (by omega),hmm⟩
def AddR (V lo hi:Int) (w:World) (e:Ending) (w':World):Prop:=∃d,e=.returned (.tuple #[d,.bool true])∧Dc w' d V lo hi∧Mod [] w w'
theorem spec_add (d1 d2:Value) (V W lo hi:Int) (w:World) (h:Dc w d1 V lo hi) (k:Dc w d2 W lo hi) (hh:hi-lo≤1000) (hhi:hi≤999):Calls Tryz.prog 28 #[d1,d2] w (AddR (V+W) lo (hi+1) w):=by
 have LG:=Lh (fun(w':World) (m:Mod [] w w') (hV:V≠0) (hW:W≠0) (hb:-400≤lo)=>larger_calls d1 d2 V W lo hi lo hi w' (h.mod m) (k.mod m) hV hW ⟨hb,hb⟩)
 obtain⟨n1,s1,l,e1,rfl,hir,hF⟩:=h
 obtain⟨n2,s2,r,e2,rfl,kir,kF⟩:=k
 obtain⟨a1,c1,rfl,hc1,hc2⟩:=hir.form
 obtain⟨a2,c2,rfl,kc1,kc2⟩:=kir.form
 have ST:=AdX.start w n1 (.slice a1 l.length c1) e1 n2 (.slice a2 r.length c2) e2
 have HF:=Lh (Aj hF (Aj kF (Aj hir (Aj kir (Aj hh hhi)))))
 have HV:=hF.eq0
 have HW:=kF.eq0
 obtain⟨p1,hp1⟩:∃p,l.length=p:=⟨_,rfl⟩
 obtain⟨p2,hp2⟩:∃p,r.length=p:=⟨_,rfl⟩
 rw[hp1] at ST hc1
 rw[hp2] at ST kc1
 unfold dcv at*
 rw[hp1] at LG ⊢
 rw[hp2] at LG ⊢
 have HP:=Lh (Aj hp1 hp2)
 clear hF kF hir kir hh hhi
 generalize hWW:(((w.alloc (.cells #[.bool n1,.slice a1 p1 c1,.int .i64 e1] 27)).alloc (.cells #[.bool n2,.slice a2 p2 c2,.int .i64 e2] 27)).alloc (.cells #[.bool false,.slice none 0 0,.int .i64 0] 27))=WW at*
 obtain⟨⟨x0,x1,x2⟩,⟨y0,y1,y2⟩⟩:=ST.cells
 obtain⟨⟨z0,z1,z2⟩,zf⟩:=ST.rcells
 have HS:=Lh ST
 clear ST
 by_cases hl:l=[]
 ·have hp:p1=0:=by rw[←hp1,hl];rfl
  have FS:=Lh (dc_put (w:=w) HS.out.hc (by omega) HS.out.hm (HF.out.2.2.2.1.mod HS.out.hm) HF.out.2.1)
  have hV:=HV.2 hl
  rw[hp2] at FS
  clear HV HW hl hp1 hp2
  subst hp hV
  go_enter Tryz.func28,Tryz.ntmps28
  go_wp2_with fail
  obtain⟨hd,hdc,hmd⟩:=FS.out
  have g0:=hd.cell (i:=0) rfl
  have g1:=hd.cell (i:=1) rfl
  have g2:=hd.cell (i:=2) rfl
  refine bodyPost_ret (v:=.tuple #[dcv n2 (.slice a2 p2 c2) e2,.bool true]) (by unfold dcv;simp[results,Tryz.results28,go_sem,g0,g1,g2];try rfl) rfl ?_
  exact⟨_,rfl,by rw[Int.zero_add];exact hdc.mono (by omega) (by omega) HF.out.2.1.blo (by have:=HF.out.2.2.2.2.2;omega),hmd⟩
 by_cases hr:r=[]
 ·have hp:p2=0:=by rw[←hp2,hr];rfl
  have t1:((p1:Int)==0)=false:=by rw[←hp1];simp;exact hl
  have FS:=Lh (dc_put (w:=w) HS.out.hc (by omega) HS.out.hm (HF.out.2.2.1.mod HS.out.hm) HF.out.1)
  have hV:=HW.2 hr
  rw[hp1] at FS
  clear HV HW hr hp1 hp2 hl
  subst hp hV
  go_enter Tryz.func28,Tryz.ntmps28
  go_wp2_with fail
  obtain⟨hd,hdc,hmd⟩:=FS.out
  have g0:=hd.cell (i:=0) rfl
  have g1:=hd.cell (i:=1) rfl
  have g2:=hd.cell (i:=2) rfl
  refine bodyPost_ret (v:=.tuple #[dcv n1 (.slice a1 p1 c1) e1,.bool true]) (by unfold dcv;simp[results,Tryz.results28,go_sem,g0,g1,g2];try rfl) rfl ?_
  exact⟨_,rfl,by rw[Int.add_zero];exact hdc.mono (by omega) (by omega) HF.out.2.1.blo (by have:=HF.out.2.2.2.2.2;omega),hmd⟩
 have hb0:=HF.out.2.1.blo
 have hb1:=HF.out.2.2.2.2.2
 have hb2:=HF.out.2.2.2.2.1
 have q1:=HF.out.1.ge hl
 have q2:=HF.out.1.le hl
 have q3:=HF.out.2.1.ge hr
 have q4:=HF.out.2.1.le hr
 obtain⟨m,hm⟩:∃m,min e1 e2=m:=⟨_,rfl⟩
 have HM:=Lh hm
 have t1:((p1:Int)==0)=false:=by rw[←hp1];simp;exact hl
 have t2:((p2:Int)==0)=false:=by rw[←hp2];simp;exact hr
 have u1:wrap64 (e1-m)=e1-m:=w64 rfl (by omega) (by omega)
 have u2:wrap64 (e2-m)=e2-m:=w64 rfl (by omega) (by omega)
 have u3:decide (2000<e1-m)=false:=by simp;omega
 have u4:decide (2000<e2-m)=false:=by simp;omega
 have HN:=Lh (Aj (fun h=>hl (HV.1 h)) (Aj (fun h=>hr (HW.1 h)) (Aj hl hr)))
 have HB:=Lh (show -10000≤e1∧e1≤10000∧-10000≤e2∧e2≤10000∧-10000≤m∧m≤10000∧l.length≤10000∧r.length≤10000∧-400≤lo∧hi≤999∧hi-lo≤1000 by omega)
 clear hb0 hb1 hb2 q1 q2 q3 q4 hl hr HV HW hc1 hc2 kc1 kc2 hp1 hp2
 by_cases hne:n1=n2
 ·subst hne
  have i1:=HF.out.2.2.1.mod HS.out.hm
  have i2:=HF.out.2.2.2.1.mod HS.out.hm
  obtain⟨X,Y,W1,W2,SM⟩:=ad_pack (b:=false) HF.out.1 HF.out.2.1 HN.out.2.2.1 HN.out.2.2.2 hm HB.out.2.2.2.2.2.2.2.2.2.2 HF.out.2.2.2.2.2 (fun h=>(h rfl).elim) i1 i2 (by simp)
  rw[HP.out.1] at W1
  rw[HP.out.2] at W2
  unfold dcv at W1 W2
  have W1:=Lh W1
  have W2:=Lh W2
  have SM:=Lh SM
  have S5:=HS
  clear i1 i2
  go_enter Tryz.func28,Tryz.ntmps28
  go_upto_region 10 with fail
  clear hWW hm zf z0 z1 z2 t1 t2
  generalize WW=w5 at*
  generalize hbb:w.heap.size+1+1=bb
  have HBB:=Lh (show w.heap.size+2=bb from hbb)
  have nb1:w.heap.size≠bb:=by omega
  have nb2:w.heap.size+1≠bb:=by omega
  have nb3:bb≠w.heap.size:=by omega
  have nb4:bb≠w.heap.size+1:=by omega
  clear hbb
  go_region_held3 (fun w'=>(w'.cell? ⟨w.heap.size,0,none⟩=some (.bool n1)∧w'.cell? ⟨w.heap.size,1,none⟩=some (.slice a1 p1 c1)∧w'.cell? ⟨w.heap.size,2,none⟩=some (.int .i64 e1))∧(w'.cell? ⟨w.heap.size+1,0,none⟩=some (.bool n1)∧w'.cell? ⟨w.heap.size+1,1,none⟩=some (.slice a2 p2 c2)∧w'.cell? ⟨w.heap.size+1,2,none⟩=some (.int .i64 e2))) (go_keep)
   (first|(go_at_call 53;first|(refine(W1.out _ ((Mod.refl [] w5).drewN _)).mono ?_;clear W1;rintro e w6 ⟨v6,rfl,hv6,m6⟩;have M6:=Lh (((Mod.refl [] w5).drewN _).trans m6);have S6:=Lh (S5.out.turn M6.out);have V6:=Lh hv6;obtain⟨⟨f0,f1,f2⟩,⟨h0,h1,h2⟩⟩:=S6.out.cells;clear hv6 m6)|(refine(W2.out w6 M6.out).mono ?_;clear W2;rintro e w7 ⟨v7,rfl,hv7,m7⟩;have S7:=Lh (S6.out.turn m7);have SM7:=Lh (SM.out w7 v6 v7 (V6.out.mod m7) hv7);obtain⟨⟨i0,i1,i2⟩,⟨j0,j1,j2⟩⟩:=S7.out.cells;clear hv7 m7 SM V6))|(go_at_call 52;refine SM7.out.mono ?_;clear SM7;rintro e w8 ⟨_,rfl,⟨n8,sl8,l8,e8,rfl,hir8,hF8⟩,m8⟩;obtain⟨a8,c8,rfl,-,-⟩:=hir8.form;have S8:=S7.out.turn m8;have FS:=Lh (dc_put (HBB.out▸S8.hc) (by have:=HBB.out;omega) S8.hm hir8 hF8);obtain⟨⟨k0,k1,k2⟩,kf⟩:=S8.bcells HBB.out;obtain⟨⟨o0,o1,o2⟩,⟨r0,r1,r2⟩⟩:=S8.cells;clear S8 hir8 hF8 m8;unfold dcv;generalize l8.length=n9 at*))
  all_goals
   go_wp2_with fail
   obtain⟨hd,hdc,hmd⟩:=FS.out
   have g0:=hd.cell (i:=0) rfl
   have g1:=hd.cell (i:=1) rfl
   have g2:=hd.cell (i:=2) rfl
   refine bodyPost_ret (v:=.tuple #[dcv n8 (.slice a8 n9 c8) e8,.bool true]) (by unfold dcv;simp[results,Tryz.results28,go_sem,g0,g1,g2];try rfl) rfl ?_
   exact⟨_,rfl,hdc,hmd⟩
 ·have CMP:=Lh (LG.out WW HS.out.hm HN.out.1 HN.out.2.1 HB.out.2.2.2.2.2.2.2.2.1)
  have hcase:(decide (cmpV V.natAbs W.natAbs<0)=true∧V.natAbs<W.natAbs)∨(decide (cmpV V.natAbs W.natAbs<0)=false∧W.natAbs≤V.natAbs):=by
   rcases Nat.lt_trichotomy V.natAbs W.natAbs with hc|hc|hc
   ·exact .inl ⟨by rw[cmpV_lt (by omega)];decide,hc⟩
   ·exact .inr ⟨by rw[cmpV_eq (by omega)];decide,by omega⟩
   ·exact .inr ⟨by rw[cmpV_gt (by omega)];decide,by omega⟩
  generalize cmpV V.natAbs W.natAbs=cc at*
  rcases n1 with _|_<;>rcases n2 with _|_
  ·exact(hne rfl).elim
  ·go_enter Tryz.func28,Tryz.ntmps28
   go_upto_region 8 with fail
   go_upto_region 1 with fail
   refine CMP.out.mono ?_
   rintro _ w4 ⟨rfl,m4⟩
   have S4:=Lh (HS.out.turn m4)
   clear m4 CMP hWW hm zf z0 z1 z2 t1 t2 x0 x1 x2 y0 y1 y2
   rcases hcase with ⟨tc,hc⟩|⟨tc,hc⟩
   ·have HC:=Lh hc
    clear hc
    have i1:=HF.out.2.2.1.mod S4.out.hm
    have i2:=HF.out.2.2.2.1.mod S4.out.hm
    rw[HP.out.1] at i1
    rw[HP.out.2] at i2
    obtain⟨S5,i1,i2⟩:=S4.out.swap i1 i2
    unfold set3 at S5 i1 i2
    have HI:=Lh (Aj S5 (Aj i1 i2))
    have af:=S4.out.ha.free
    have bf:=S4.out.hb.free
    obtain⟨⟨x0,x1,x2⟩,⟨y0,y1,y2⟩⟩:=S4.out.cells
    clear S5 i1 i2
    go_upto_region 10 with fail
    clear tc af bf x0 x1 x2 y0 y1 y2
    generalize (((((w4.setCell ⟨w.heap.size,0,none⟩ (.bool true)).setCell ⟨w.heap.size,1,none⟩ (.slice a2 p2 c2)).setCell ⟨w.heap.size,2,none⟩ (.int .i64 e2)).setCell ⟨w.heap.size+1,0,none⟩ (.bool false)).setCell ⟨w.heap.size+1,1,none⟩ (.slice a1 p1 c1)).setCell ⟨w.heap.size+1,2,none⟩ (.int .i64 e1)=w5 at*
    obtain⟨S5,i1,i2⟩:=HI.out
    have HX:=Lh (Aj HP.out.1.symm HP.out.2.symm)
    obtain⟨X,Y,W1,W2,SM⟩:=ad_pack (m:=m) (b:=true) HF.out.2.1 HF.out.1 HN.out.2.2.2 HN.out.2.2.1 (by have:=HM.out;omega) HB.out.2.2.2.2.2.2.2.2.2.2 HF.out.2.2.2.2.2 (fun _=>Nat.le_of_lt HC.out) i2 i1 (by decide)
    rw[Int.add_comm W V] at SM
    unfold dcv at W1 W2
    have W1:=Lh W1
    have W2:=Lh W2
    have SM:=Lh SM
    clear i1 i2 HI
    obtain⟨⟨x0,x1,x2⟩,⟨y0,y1,y2⟩⟩:=S5.cells
    have S5:=Lh S5
    generalize hbb:w.heap.size+1+1=bb
    have HBB:=Lh (show w.heap.size+2=bb from hbb)
    have nb1:w.heap.size≠bb:=by omega
    have nb2:w.heap.size+1≠bb:=by omega
    have nb3:bb≠w.heap.size:=by omega
    have nb4:bb≠w.heap.size+1:=by omega
    clear hbb
    go_region_held3 (fun w'=>(w'.cell? ⟨w.heap.size,0,none⟩=some (.bool true)∧w'.cell? ⟨w.heap.size,1,none⟩=some (.slice a2 p2 c2)∧w'.cell? ⟨w.heap.size,2,none⟩=some (.int .i64 e2))∧(w'.cell? ⟨w.heap.size+1,0,none⟩=some (.bool false)∧w'.cell? ⟨w.heap.size+1,1,none⟩=some (.slice a1 p1 c1)∧w'.cell? ⟨w.heap.size+1,2,none⟩=some (.int .i64 e1))) (go_keep)
     (first|(go_at_call 53;first|(refine(W1.out _ ((Mod.refl [] w5).drewN _)).mono ?_;clear W1;rintro e w6 ⟨v6,rfl,hv6,m6⟩;have M6:=Lh (((Mod.refl [] w5).drewN _).trans m6);have S6:=Lh (S5.out.turn M6.out);have V6:=Lh hv6;obtain⟨⟨f0,f1,f2⟩,⟨h0,h1,h2⟩⟩:=S6.out.cells;clear hv6 m6)|(refine(W2.out w6 M6.out).mono ?_;clear W2;rintro e w7 ⟨v7,rfl,hv7,m7⟩;have S7:=Lh (S6.out.turn m7);have SM7:=Lh (SM.out w7 v6 v7 (V6.out.mod m7) hv7);obtain⟨⟨i0,i1,i2⟩,⟨j0,j1,j2⟩⟩:=S7.out.cells;clear hv7 m7 SM V6))|(go_at_call 52;refine SM7.out.mono ?_;clear SM7;rintro e w8 ⟨_,rfl,⟨n8,sl8,l8,e8,rfl,hir8,hF8⟩,m8⟩;obtain⟨a8,c8,rfl,-,-⟩:=hir8.form;have S8:=S7.out.turn m8;have FS:=Lh (dc_put (HBB.out▸S8.hc) (by have:=HBB.out;omega) S8.hm hir8 hF8);obtain⟨⟨k0,k1,k2⟩,kf⟩:=S8.bcells HBB.out;obtain⟨⟨o0,o1,o2⟩,⟨r0,r1,r2⟩⟩:=S8.cells;clear S8 hir8 hF8 m8;unfold dcv;generalize l8.length=n9 at*))
    all_goals
     go_wp2_with fail
     obtain⟨hd,hdc,hmd⟩:=FS.out
     have g0:=hd.cell (i:=0) rfl
     have g1:=hd.cell (i:=1) rfl
     have g2:=hd.cell (i:=2) rfl
     refine bodyPost_ret (v:=.tuple #[dcv n8 (.slice a8 n9 c8) e8,.bool true]) (by unfold dcv;simp[results,Tryz.results28,go_sem,g0,g1,g2];try rfl) rfl ?_
     exact⟨_,rfl,hdc,hmd⟩
   ·have HC:=Lh hc
    clear hc
    have i1:=HF.out.2.2.1.mod S4.out.hm
    have i2:=HF.out.2.2.2.1.mod S4.out.hm
    obtain⟨X,Y,W1,W2,SM⟩:=ad_pack (b:=true) HF.out.1 HF.out.2.1 HN.out.2.2.1 HN.out.2.2.2 HM.out HB.out.2.2.2.2.2.2.2.2.2.2 HF.out.2.2.2.2.2 (fun _=>HC.out) i1 i2 (by decide)
    rw[HP.out.1] at W1
    rw[HP.out.2] at W2
    unfold dcv at W1 W2
    have W1:=Lh W1
    have W2:=Lh W2
    have SM:=Lh SM
    have S5:=S4
    clear i1 i2
    obtain⟨⟨x0,x1,x2⟩,⟨y0,y1,y2⟩⟩:=S5.out.cells
    go_upto_region 10 with fail
    clear tc
    generalize w4=w5 at*
    generalize hbb:w.heap.size+1+1=bb
    have HBB:=Lh (show w.heap.size+2=bb from hbb)
    have nb1:w.heap.size≠bb:=by omega
    have nb2:w.heap.size+1≠bb:=by omega
    have nb3:bb≠w.heap.size:=by omega
    have nb4:bb≠w.heap.size+1:=by omega
    clear hbb
    go_region_held3 (fun w'=>(w'.cell? ⟨w.heap.size,0,none⟩=some (.bool false)∧w'.cell? ⟨w.heap.size,1,none⟩=some (.slice a1 p1 c1)∧w'.cell? ⟨w.heap.size,2,none⟩=some (.int .i64 e1))∧(w'.cell? ⟨w.heap.size+1,0,none⟩=some (.bool true)∧w'.cell? ⟨w.heap.size+1,1,none⟩=some (.slice a2 p2 c2)∧w'.cell? ⟨w.heap.size+1,2,none⟩=some (.int .i64 e2))) (go_keep)
     (first|(go_at_call 53;first|(refine(W1.out _ ((Mod.refl [] w5).drewN _)).mono ?_;clear W1;rintro e w6 ⟨v6,rfl,hv6,m6⟩;have M6:=Lh (((Mod.refl [] w5).drewN _).trans m6);have S6:=Lh (S5.out.turn M6.out);have V6:=Lh hv6;obtain⟨⟨f0,f1,f2⟩,⟨h0,h1,h2⟩⟩:=S6.out.cells;clear hv6 m6)|(refine(W2.out w6 M6.out).mono ?_;clear W2;rintro e w7 ⟨v7,rfl,hv7,m7⟩;have S7:=Lh (S6.out.turn m7);have SM7:=Lh (SM.out w7 v6 v7 (V6.out.mod m7) hv7);obtain⟨⟨i0,i1,i2⟩,⟨j0,j1,j2⟩⟩:=S7.out.cells;clear hv7 m7 SM V6))|(go_at_call 52;refine SM7.out.mono ?_;clear SM7;rintro e w8 ⟨_,rfl,⟨n8,sl8,l8,e8,rfl,hir8,hF8⟩,m8⟩;obtain⟨a8,c8,rfl,-,-⟩:=hir8.form;have S8:=S7.out.turn m8;have FS:=Lh (dc_put (HBB.out▸S8.hc) (by have:=HBB.out;omega) S8.hm hir8 hF8);obtain⟨⟨k0,k1,k2⟩,kf⟩:=S8.bcells HBB.out;obtain⟨⟨o0,o1,o2⟩,⟨r0,r1,r2⟩⟩:=S8.cells;clear S8 hir8 hF8 m8;unfold dcv;generalize l8.length=n9 at*))
    all_goals
     go_wp2_with fail
     obtain⟨hd,hdc,hmd⟩:=FS.out
     have g0:=hd.cell (i:=0) rfl
     have g1:=hd.cell (i:=1) rfl
     have g2:=hd.cell (i:=2) rfl
     refine bodyPost_ret (v:=.tuple #[dcv n8 (.slice a8 n9 c8) e8,.bool true]) (by unfold dcv;simp[results,Tryz.results28,go_sem,g0,g1,g2];try rfl) rfl ?_
     exact⟨_,rfl,hdc,hmd⟩
  ·go_enter Tryz.func28,Tryz.ntmps28
   go_upto_region 8 with fail
   go_upto_region 1 with fail
   refine CMP.out.mono ?_
   rintro _ w4 ⟨rfl,m4⟩
   have S4:=Lh (HS.out.turn m4)
   clear m4 CMP hWW hm zf z0 z1 z2 t1 t2 x0 x1 x2 y0 y1 y2
   rcases hcase with ⟨tc,hc⟩|⟨tc,hc⟩
   ·have HC:=Lh hc
    clear hc
    have i1:=HF.out.2.2.1.mod S4.out.hm
    have i2:=HF.out.2.2.2.1.mod S4.out.hm
    rw[HP.out.1] at i1
    rw[HP.out.2] at i2
    obtain⟨S5,i1,i2⟩:=S4.out.swap i1 i2
    unfold set3 at S5 i1 i2
    have HI:=Lh (Aj S5 (Aj i1 i2))
    have af:=S4.out.ha.free
    have bf:=S4.out.hb.free
    obtain⟨⟨x0,x1,x2⟩,⟨y0,y1,y2⟩⟩:=S4.out.cells
    clear S5 i1 i2
    go_upto_region 10 with fail
    clear tc af bf x0 x1 x2 y0 y1 y2
    generalize (((((w4.setCell ⟨w.heap.size,0,none⟩ (.bool false)).setCell ⟨w.heap.size,1,none⟩ (.slice a2 p2 c2)).setCell ⟨w.heap.size,2,none⟩ (.int .i64 e2)).setCell ⟨w.heap.size+1,0,none⟩ (.bool true)).setCell ⟨w.heap.size+1,1,none⟩ (.slice a1 p1 c1)).setCell ⟨w.heap.size+1,2,none⟩ (.int .i64 e1)=w5 at*
    obtain⟨S5,i1,i2⟩:=HI.out
    have HX:=Lh (Aj HP.out.1.symm HP.out.2.symm)
    obtain⟨X,Y,W1,W2,SM⟩:=ad_pack (m:=m) (b:=true) HF.out.2.1 HF.out.1 HN.out.2.2.2 HN.out.2.2.1 (by have:=HM.out;omega) HB.out.2.2.2.2.2.2.2.2.2.2 HF.out.2.2.2.2.2 (fun _=>Nat.le_of_lt HC.out) i2 i1 (by decide)
    rw[Int.add_comm W V] at SM
    unfold dcv at W1 W2
    have W1:=Lh W1
    have W2:=Lh W2
    have SM:=Lh SM
    clear i1 i2 HI
    obtain⟨⟨x0,x1,x2⟩,⟨y0,y1,y2⟩⟩:=S5.cells
    have S5:=Lh S5
    generalize hbb:w.heap.size+1+1=bb
    have HBB:=Lh (show w.heap.size+2=bb from hbb)
    have nb1:w.heap.size≠bb:=by omega
    have nb2:w.heap.size+1≠bb:=by omega
    have nb3:bb≠w.heap.size:=by omega
    have nb4:bb≠w.heap.size+1:=by omega
    clear hbb
    go_region_held3 (fun w'=>(w'.cell? ⟨w.heap.size,0,none⟩=some (.bool false)∧w'.cell? ⟨w.heap.size,1,none⟩=some (.slice a2 p2 c2)∧w'.cell? ⟨w.heap.size,2,none⟩=some (.int .i64 e2))∧(w'.cell? ⟨w.heap.size+1,0,none⟩=some (.bool true)∧w'.cell? ⟨w.heap.size+1,1,none⟩=some (.slice a1 p1 c1)∧w'.cell? ⟨w.heap.size+1,2,none⟩=some (.int .i64 e1))) (go_keep)
     (first|(go_at_call 53;first|(refine(W1.out _ ((Mod.refl [] w5).drewN _)).mono ?_;clear W1;rintro e w6 ⟨v6,rfl,hv6,m6⟩;have M6:=Lh (((Mod.refl [] w5).drewN _).trans m6);have S6:=Lh (S5.out.turn M6.out);have V6:=Lh hv6;obtain⟨⟨f0,f1,f2⟩,⟨h0,h1,h2⟩⟩:=S6.out.cells;clear hv6 m6)|(refine(W2.out w6 M6.out).mono ?_;clear W2;rintro e w7 ⟨v7,rfl,hv7,m7⟩;have S7:=Lh (S6.out.turn m7);have SM7:=Lh (SM.out w7 v6 v7 (V6.out.mod m7) hv7);obtain⟨⟨i0,i1,i2⟩,⟨j0,j1,j2⟩⟩:=S7.out.cells;clear hv7 m7 SM V6))|(go_at_call 52;refine SM7.out.mono ?_;clear SM7;rintro e w8 ⟨_,rfl,⟨n8,sl8,l8,e8,rfl,hir8,hF8⟩,m8⟩;obtain⟨a8,c8,rfl,-,-⟩:=hir8.form;have S8:=S7.out.turn m8;have FS:=Lh (dc_put (HBB.out▸S8.hc) (by have:=HBB.out;omega) S8.hm hir8 hF8);obtain⟨⟨k0,k1,k2⟩,kf⟩:=S8.bcells HBB.out;obtain⟨⟨o0,o1,o2⟩,⟨r0,r1,r2⟩⟩:=S8.cells;clear S8 hir8 hF8 m8;unfold dcv;generalize l8.length=n9 at*))
    all_goals
     go_wp2_with fail
     obtain⟨hd,hdc,hmd⟩:=FS.out
     have g0:=hd.cell (i:=0) rfl
     have g1:=hd.cell (i:=1) rfl
     have g2:=hd.cell (i:=2) rfl
     refine bodyPost_ret (v:=.tuple #[dcv n8 (.slice a8 n9 c8) e8,.bool true]) (by unfold dcv;simp[results,Tryz.results28,go_sem,g0,g1,g2];try rfl) rfl ?_
     exact⟨_,rfl,hdc,hmd⟩
   ·have HC:=Lh hc
    clear hc
    have i1:=HF.out.2.2.1.mod S4.out.hm
    have i2:=HF.out.2.2.2.1.mod S4.out.hm
    obtain⟨X,Y,W1,W2,SM⟩:=ad_pack (b:=true) HF.out.1 HF.out.2.1 HN.out.2.2.1 HN.out.2.2.2 HM.out HB.out.2.2.2.2.2.2.2.2.2.2 HF.out.2.2.2.2.2 (fun _=>HC.out) i1 i2 (by decide)
    rw[HP.out.1] at W1
    rw[HP.out.2] at W2
    unfold dcv at W1 W2
    have W1:=Lh W1
    have W2:=Lh W2
    have SM:=Lh SM
    have S5:=S4
    clear i1 i2
    obtain⟨⟨x0,x1,x2⟩,⟨y0,y1,y2⟩⟩:=S5.out.cells
    go_upto_region 10 with fail
    clear tc
    generalize w4=w5 at*
    generalize hbb:w.heap.size+1+1=bb
    have HBB:=Lh (show w.heap.size+2=bb from hbb)
    have nb1:w.heap.size≠bb:=by omega
    have nb2:w.heap.size+1≠bb:=by omega
    have nb3:bb≠w.heap.size:=by omega
    have nb4:bb≠w.heap.size+1:=by omega
    clear hbb
    go_region_held3 (fun w'=>(w'.cell? ⟨w.heap.size,0,none⟩=some (.bool true)∧w'.cell? ⟨w.heap.size,1,none⟩=some (.slice a1 p1 c1)∧w'.cell? ⟨w.heap.size,2,none⟩=some (.int .i64 e1))∧(w'.cell? ⟨w.heap.size+1,0,none⟩=some (.bool false)∧w'.cell? ⟨w.heap.size+1,1,none⟩=some (.slice a2 p2 c2)∧w'.cell? ⟨w.heap.size+1,2,none⟩=some (.int .i64 e2))) (go_keep)
     (first|(go_at_call 53;first|(refine(W1.out _ ((Mod.refl [] w5).drewN _)).mono ?_;clear W1;rintro e w6 ⟨v6,rfl,hv6,m6⟩;have M6:=Lh (((Mod.refl [] w5).drewN _).trans m6);have S6:=Lh (S5.out.turn M6.out);have V6:=Lh hv6;obtain⟨⟨f0,f1,f2⟩,⟨h0,h1,h2⟩⟩:=S6.out.cells;clear hv6 m6)|(refine(W2.out w6 M6.out).mono ?_;clear W2;rintro e w7 ⟨v7,rfl,hv7,m7⟩;have S7:=Lh (S6.out.turn m7);have SM7:=Lh (SM.out w7 v6 v7 (V6.out.mod m7) hv7);obtain⟨⟨i0,i1,i2⟩,⟨j0,j1,j2⟩⟩:=S7.out.cells;clear hv7 m7 SM V6))|(go_at_call 52;refine SM7.out.mono ?_;clear SM7;rintro e w8 ⟨_,rfl,⟨n8,sl8,l8,e8,rfl,hir8,hF8⟩,m8⟩;obtain⟨a8,c8,rfl,-,-⟩:=hir8.form;have S8:=S7.out.turn m8;have FS:=Lh (dc_put (HBB.out▸S8.hc) (by have:=HBB.out;omega) S8.hm hir8 hF8);obtain⟨⟨k0,k1,k2⟩,kf⟩:=S8.bcells HBB.out;obtain⟨⟨o0,o1,o2⟩,⟨r0,r1,r2⟩⟩:=S8.cells;clear S8 hir8 hF8 m8;unfold dcv;generalize l8.length=n9 at*))
    all_goals
     go_wp2_with fail
     obtain⟨hd,hdc,hmd⟩:=FS.out
     have g0:=hd.cell (i:=0) rfl
     have g1:=hd.cell (i:=1) rfl
     have g2:=hd.cell (i:=2) rfl
     refine bodyPost_ret (v:=.tuple #[dcv n8 (.slice a8 n9 c8) e8,.bool true]) (by unfold dcv;simp[results,Tryz.results28,go_sem,g0,g1,g2];try rfl) rfl ?_
     exact⟨_,rfl,hdc,hmd⟩
  ·exact(hne rfl).elim
end Go.Proofs.YtcpjclakdpjjfaaGreatDoor
