/- Differences of natural numbers (bigall/nat. -/
import Derived.Test.YtcpjclakdpjjfaaGreatDoorC06
import Derived.Deep.RegionHeld3
import Derived.Lib.AppendZeros
import Derived.Defers
set_option maxHeartbeats 800000
set_option maxRecDepth 10000
namespace Go.Proofs.YtcpjclakdpjjfaaGreatDoor
open Go.RowKit Wd
theorem borrow_join {r1 r2 c1 c2 X1 X2 Y p q:Nat} (h1:r1+Y=X1+p*c1) (h2:r2+c1=X2+q*c2):r1+p*r2+Y=X1+p*X2+p*q*c2:=by
 have e:p*(r2+c1)=p*(X2+q*c2):=by rw[h2]
 simp only[Nat.mul_add] at e
 rw[Nat.mul_assoc];omega
theorem borrow_none {r X Y p c:Nat} (h:r+Y=X+p*c) (hr:r<p) (hle:Y≤X):c=0∧r=X-Y:=by
 rcases Nat.eq_zero_or_pos c with hc|hc
 ·subst hc;exact⟨rfl,by omega⟩
 ·have:p*1≤p*c:=Nat.mul_le_mul_left _ hc
  omega
theorem sub_pos (z:Value) (bx bY m n:Nat) (xs ys:List Nat) (w:World) (hz:Zs w z) (hx:Blk w bx xs) (hy:Blk w bY ys) (hmx:m≤xs.length) (hny:n≤ys.length) (hnm:n≤m) (h0:0<n) (hm:m≤90000)
 (hle:val (ys.take n)≤val (xs.take m)):
 Calls Tryz.prog 159 #[z,.slice (some ⟨bx,0,none⟩) m xs.length,.slice (some ⟨bY,0,none⟩) n ys.length] w (NRet w z (val (xs.take m)-val (ys.take n))):=by
 have t1:decide (m<n)=false:=by simp;omega
 have t2:((m:Int)==0)=false:=by simp;omega
 have t3:((n:Int)==0)=false:=by simp;omega
 have t5:((0:Int) !=0)=false:=by decide
 have hmake:=fun w' (h:Zs w' z)=>make_calls z m w' h (by omega) (by omega)
 have HMK:=Lh hmake
 have HLE:=Lh hle
 clear hmake hle
 go_enter Tryz.func159,Tryz.ntmps159
 go_wp2_with fail
 refine(HMK.out w hz).mono ?_
 rintro e w1 ⟨b,ws,rfl,hres⟩
 have hx1:=hx.mod hres.mod (by simp)
 have hy1:=hy.mod hres.mod (by simp)
 have hb1:=hres.blk
 have hle:=hres.le
 have h4:n≤ws.length:=by omega
 have h5:n≤xs.length:=by omega
 have HR:=Lh hres
 clear hres HMK
 go_wp2_with fail
 go_still_tail 9,(by kernel_rfl)
 change wpList _ _ _ _ _ (w1.drewN 1)
 go_wp2_with fail
 refine(subVV_calls b 0 _ bx 0 _ bY 0 _ n ws xs ys _ (hb1.drewN 1) (hx1.drewN 1) (hy1.drewN 1) (by omega) (by omega) (by omega) (fun _=>Nat.le_refl _) (fun _=>Nat.le_refl _) (by omega)).mono ?_
 rintro e w2 ⟨c,rs,rfl,hv,hc1,hval⟩
 rw[seg_all,seg_all] at hval
 have hcB:c<B:=by have:=B_one;omega
 have hv':VecPost w1 w2 b 0 n ws rs:=⟨hv.len,hv.wl,((Mod.refl [b] w1).drewN 1).trans hv.mod,hv.blk⟩
 rcases Nat.lt_or_ge n m with hlt|hge
 ·have t4:decide (n<m)=true:=by simp;exact hlt
  obtain⟨xs',hx2,hxl,hxs⟩:=hv'.behind hb1 hx1 h4
  have s1:¬ws.length=n:=by omega
  have s2:¬xs.length=n:=by omega
  have HV:=Lh (Aj hv' hval)
  clear hv hv' hval
  go_wp2_with fail
  go_still_tail 7,(by kernel_rfl)
  change wpList _ _ _ _ _ (w2.drewN 1)
  go_wp2_with fail
  refine(subVW_calls b n (ws.length-n) bx n (xs.length-n) (m-n) c (spl ws 0 rs) xs' _ (HV.out.1.blk.drewN 1) (hx2.drewN 1) (by rw[spl0_length (by rw[HV.out.1.len];omega)];omega) (by omega) (Classical.or_iff_not_imp_right.2 fun h=>⟨Classical.not_not.1 h,rfl⟩) (by omega) (by omega) (by omega) (by omega) hcB).mono ?_
  rintro e w3 ⟨c2,rs2,rfl,hv2,hc2,hval2⟩
  obtain⟨hv1,hval1⟩:=HV.out
  have hv3:VecPost w1 w3 b 0 m ws (rs++rs2):=by
   refine⟨by rw[List.length_append,hv1.len,hv2.len];omega,WL_append.2 ⟨hv1.wl,hv2.wl⟩,(hv1.mod.drewN 1).trans hv2.mod,?_⟩
   have:=hv2.blk
   rw[show n=0+rs.length by rw[hv1.len,Nat.zero_add],spl_spl rs rs2 (by rw[hv1.len,hv2.len];omega)] at this
   exact this
  have hval3:val (rs++rs2)+val (ys.take n)=val (xs.take m)+B^m*c2:=by
   have e1:=seg_append (xs:=xs) (o:=0) (j:=n) (n:=m) hnm (by omega)
   rw[seg_all,seg_all,Nat.zero_add] at e1
   have e2:B^m=B^n*B^(m-n):=by rw[←Nat.pow_add];congr 1;omega
   rw[hxs] at hval2
   rw[val_append,hv1.len,e1,val_append,List.length_take,Nat.min_eq_left (by omega),e2]
   exact borrow_join hval1 hval2
  have hlt2:=val_lt hv3.wl
  rw[hv3.len] at hlt2
  obtain⟨rfl,hval4⟩:=borrow_none hval3 hlt2 HLE.out
  have hlen:(spl ws 0 (rs++rs2)).length=ws.length:=spl0_length (by rw[hv3.len];omega)
  have fin:NRes w z (val (xs.take m)-val (ys.take n)) (.slice (some ⟨b,0,none⟩) (nlen (spl ws 0 (rs++rs2)) m) ws.length) w3:=by
   rw[←hlen]
   refine norm_nv (ws:=spl ws 0 (rs++rs2)) hv3.blk (by rw[hlen];exact hle) ?_ ?_ HR.out.own
   ·have:=spl_take ws (rs++rs2)
    rw[hv3.len] at this
    rw[this];exact hval4
   ·exact(HR.out.mod.mono (by simp)).step hv3.mod (fun x hx=>by rw[List.mem_singleton.1 hx];exact HR.out.own)
  have hblk:=hv3.blk
  have FIN:=Lh fin
  clear fin hv1 hval1 hv2 hval2 hv3 hval3 hval4 hlt2 HV hx2 hxl hxs hb1 hx1 hy1 hx hy
  generalize spl ws 0 (rs++rs2)=fs at*
  go_wp2_with fail
  refine(norm_calls b m ws.length _ _ hblk (by rw[hlen];exact hle) hle (by omega)).mono ?_
  rintro e w' ⟨rfl,rfl⟩
  go_wp2_with fail
  go_ret
  exact⟨_,rfl,FIN.out⟩
 ·obtain rfl:m=n:=by omega
  have t4:decide (m<m)=false:=by simp
  have hlt2:=val_lt hv'.wl
  rw[hv'.len] at hlt2
  obtain⟨rfl,hval4⟩:=borrow_none hval hlt2 HLE.out
  have hlen:(spl ws 0 rs).length=ws.length:=spl0_length (by rw[hv'.len];omega)
  have fin:NRes w z (val (xs.take m)-val (ys.take m)) (.slice (some ⟨b,0,none⟩) (nlen (spl ws 0 rs) m) ws.length) w2:=by
   rw[←hlen]
   refine norm_nv (ws:=spl ws 0 rs) hv'.blk (by rw[hlen];exact hle) ?_ ?_ HR.out.own
   ·have:=spl_take ws rs
    rw[hv'.len] at this
    rw[this];exact hval4
   ·exact(HR.out.mod.mono (by simp)).step hv'.mod (fun x hx=>by rw[List.mem_singleton.1 hx];exact HR.out.own)
  have hblk:=hv'.blk
  have FIN:=Lh fin
  clear fin hv hv' hval hval4 hlt2 hb1 hx1 hy1 hx hy hge
  generalize spl ws 0 rs=fs at*
  go_wp2_with fail
  refine(norm_calls b m ws.length _ _ hblk (by rw[hlen];exact hle) hle (by omega)).mono ?_
  rintro e w' ⟨rfl,rfl⟩
  go_wp2_with fail
  go_ret
  exact⟨_,rfl,FIN.out⟩
theorem sub_zero (z x:Value) (a:Option Addr) (m c:Nat) (a':Option Addr) (c' X:Nat) (w:World) (hz:Zs w z) (hxs:x=.slice a m c) (h0:0<m) (hx:Nv w x X) (hXb:X<Big):
 Calls Tryz.prog 159 #[z,x,.slice a' 0 c'] w (NRet w z X):=by
 have hset:=set_calls z x X w hz hx hXb
 subst hxs
 have t1:decide (m<0)=false:=by simp
 have t2:((m:Int)==0)=false:=by simp;omega
 clear hx
 go_enter Tryz.func159,Tryz.ntmps159
 go_wp2_with fail
 refine hset.mono ?_
 rintro e w1 ⟨v,rfl,hres⟩
 go_wp2_with fail
 go_ret
 exact⟨_,rfl,hres⟩
theorem sub_calls (z x y:Value) (X Y:Nat) (w:World) (hz:Zs w z) (hx:Nv w x X) (hy:Nv w y Y) (hXb:X<Big) (hle:Y≤X):
 Calls Tryz.prog 159 #[z,x,y] w (NRet w z (X-Y)):=by
 have hYb:Y<Big:=by omega
 rcases nv_form hx hXb with ⟨a,c,rfl,rfl⟩|⟨b,l,ws,rfl,h1,h2,h3,h4,h5,h6,h7⟩
 ·rcases nv_form hy hYb with ⟨a',c',rfl,rfl⟩|⟨b',l',ws',rfl,k1,k2,k3,k4,k5,k6,k7⟩
  ·obtain⟨az,lz,cz,rfl,_⟩:=hz.slice
   have hr:=head_res hz
   have HR:=Lh hr
   clear hr hx hy hz
   go_enter Tryz.func159,Tryz.ntmps159
   go_wp2_with fail
   go_ret
   exact⟨_,rfl,HR.out⟩
  ·omega
 ·rcases nv_form hy hYb with ⟨a',c',rfl,rfl⟩|⟨b',l',ws',rfl,k1,k2,k3,k4,k5,k6,k7⟩
  ·exact sub_zero z _ _ l _ a' c' X w hz rfl h1 hx hXb
  ·have hl1:(ws.take l).length=l:=by rw[List.length_take,Nat.min_eq_left h3]
   have hl2:(ws'.take l').length=l':=by rw[List.length_take,Nat.min_eq_left k3]
   have hll:l'≤l:=by
    rcases Nat.lt_or_ge l l' with h|h
    ·have:=val_lt_len (WL_take h2.wl l) k4 (by rw[hl1,hl2];exact h)
     omega
    ·exact h
   have:=sub_pos z b b' l l' ws ws' w hz h2 k2 h3 k3 hll k1 (by omega) (by omega)
   rw[k5,h5] at this
   exact this
end Go.Proofs.YtcpjclakdpjjfaaGreatDoor
namespace Go.Proofs.YtcpjclakdpjjfaaGreatDoor
open Go.RowKit Wd
def aliasB:Value→Value→Bool
 | .slice (some a) _ c,.slice (some b) _ c'=>decide (0<c∧0<c'∧a.block=b.block)
 |_,_=>false
def QRet (r:Bool) (w:World) (e:Ending) (w':World):Prop:=e=.returned (.bool r)∧∃m,w'=w.drewN m
theorem alias_first (a a':Option Addr) (l l' c:Nat) (w:World):Calls Tryz.prog 148 #[.slice a l 0,.slice a' l' c] w (QRet false w):=by
 have t1:decide ((0:Int)<((0:Nat):Int))=false:=by decide
 have t2:decide ((0:Int)<0)=false:=by decide
 go_enter Tryz.func148,Tryz.ntmps148
 go_wp2_with fail
 go_quiet (fail)
 go_wp2_with fail
 go_ret
 exact⟨rfl,nq,rfl⟩
theorem alias_second (a a':Option Addr) (l l' c:Nat) (w:World) (h:0<c):Calls Tryz.prog 148 #[.slice a l c,.slice a' l' 0] w (QRet false w):=by
 have t1:decide ((0:Int)<((0:Nat):Int))=false:=by decide
 have t2:decide ((0:Int)<0)=false:=by decide
 have t3:decide ((0:Int)<(c:Int))=true:=by simp;omega
 go_enter Tryz.func148,Tryz.ntmps148
 go_wp2_with fail
 go_quiet (fail)
 go_wp2_with fail
 go_ret
 exact⟨rfl,nq,rfl⟩
theorem alias_both (b b' l l':Nat) (xs ys:List Nat) (w:World) (hx:Blk w b xs) (hy:Blk w b' ys) (h:0<xs.length) (h':0<ys.length):
 Calls Tryz.prog 148 #[.slice (some ⟨b,0,none⟩) l xs.length,.slice (some ⟨b',0,none⟩) l' ys.length] w (QRet (decide (b=b')) w):=by
 have hp:∀k,(binOp .eql 264 (.pointer (some ⟨b,xs.length-1,none⟩)) (.pointer (some ⟨b',ys.length-1,none⟩))).run Tryz.prog (w.drewN k)=.ok (.bool (decide (b=b'))) (w.drewN k):=fun k=>by
  rw[wptr_eql (hx.drewN k) (hy.drewN k)]
  by_cases e:b=b'
  ·subst e
   obtain rfl:=hx.unique hy
   simp
  ·simp[e]
 have cx:=hx.cap
 have cy:=hy.cap
 generalize xs.length=c at*
 generalize ys.length=c' at*
 have t1:decide ((0:Int)<(c:Int))=true:=by simp;omega
 have t2:decide ((0:Int)<(c':Int))=true:=by simp;omega
 have e1:(c:Int)-1=((c-1:Nat):Int):=by omega
 have e2:(c':Int)-1=((c'-1:Nat):Int):=by omega
 have e3:IntKind.i64.wrap ((c-1:Nat):Int)=((c-1:Nat):Int):=IntWalk.i64_in _ (by omega)
 have e4:IntKind.i64.wrap ((c'-1:Nat):Int)=((c'-1:Nat):Int):=IntWalk.i64_in _ (by omega)
 obtain⟨p,hp1⟩:∃p,p=c-1:=⟨_,rfl⟩
 obtain⟨q,hq1⟩:∃q,q=c'-1:=⟨_,rfl⟩
 rw[←hp1] at e1 e3 hp
 rw[←hq1] at e2 e4 hp
 have f1:(p:Int)<c:=by omega
 have f2:(q:Int)<c':=by omega
 have f3:(0:Int)≤p:=by omega
 have f4:(0:Int)≤q:=by omega
 have f5:¬c=0:=by omega
 have f6:¬c'=0:=by omega
 have f7:p<c:=by omega
 have f8:q<c':=by omega
 generalize decide (b=b')=r at*
 clear hp1 hq1
 go_enter Tryz.func148,Tryz.ntmps148
 go_wp2_with fail
 go_quiet (fail)
 go_wp2_with fail
 go_ret
 exact⟨rfl,nq,rfl⟩
theorem alias_calls (x y:Value) (w:World) (hx:Zs w x) (hy:Zs w y):Calls Tryz.prog 148 #[x,y] w (QRet (aliasB x y) w):=by
 rcases hx with rfl|⟨b,l,ws,rfl,h2,h3⟩
 ·obtain⟨a',l',c',rfl,_⟩:=hy.slice
  exact alias_first _ _ _ _ _ w
 ·rcases hy with rfl|⟨b',l',ws',rfl,k2,k3⟩
  ·have e:aliasB (.slice (some ⟨b,0,none⟩) l ws.length) (.slice none 0 0)=false:=rfl
   rw[e]
   rcases Nat.eq_zero_or_pos ws.length with h|h
   ·rw[h];exact alias_first _ _ _ _ _ w
   ·exact alias_second _ _ _ _ _ w h
  ·have e:aliasB (.slice (some ⟨b,0,none⟩) l ws.length) (.slice (some ⟨b',0,none⟩) l' ws'.length)=decide (0<ws.length∧0<ws'.length∧b=b'):=rfl
   rw[e]
   rcases Nat.eq_zero_or_pos ws.length with h|h
   ·have e2:decide (0<ws.length∧0<ws'.length∧b=b')=false:=by simp;omega
    rw[e2,h];exact alias_first _ _ _ _ _ w
   ·rcases Nat.eq_zero_or_pos ws'.length with h'|h'
    ·have e2:decide (0<ws.length∧0<ws'.length∧b=b')=false:=by simp;omega
     rw[e2,h'];exact alias_second _ _ _ _ _ w h
    ·have e2:decide (0<ws.length∧0<ws'.length∧b=b')=decide (b=b'):=by simp[h,h']
     rw[e2];exact alias_both b b' l l' ws ws' w h2 k2 h h'
end Go.Proofs.YtcpjclakdpjjfaaGreatDoor
namespace Go.Proofs.YtcpjclakdpjjfaaGreatDoor
open Go.RowKit Wd
theorem mulAddWW_pos (z:Value) (bx m y r:Nat) (xs:List Nat) (w:World) (hz:Zs w z) (hx:Blk w bx xs) (hmx:m≤xs.length) (h0:0<m) (hm:m≤90000) (hy0:0<y) (hy:y<B) (hr:r<B):
 Calls Tryz.prog 180 #[z,.slice (some ⟨bx,0,none⟩) m xs.length,.int .u64 y,.int .u64 r] w (NRet w z (val (xs.take m)*y+r)):=by
 have t2:((m:Int)==0)=false:=by simp;omega
 have t3:((y:Int)==0)=false:=by simp;omega
 have e1:IntKind.i64.wrap ((m:Int)+1)=((m+1:Nat):Int):=IntWalk.i64_in _ (by omega)
 have hmake:=fun w' (h:Zs w' z)=>make_calls z (m+1) w' h (by omega) (by omega)
 have HMK:=Lh hmake
 clear hmake
 go_enter Tryz.func180,Tryz.ntmps180
 go_wp2_with fail
 rw[show (m:Int)+1=((m+1:Nat):Int) from rfl]
 refine(HMK.out w hz).mono ?_
 rintro e w1 ⟨b,ws,rfl,hres⟩
 have hx1:=hx.mod hres.mod (by simp)
 have hb1:=hres.blk
 have hle:=hres.le
 have h4:m≤ws.length:=by omega
 have h5:(m:Int)<((m+1:Nat):Int):=by omega
 have HR:=Lh hres
 clear hres HMK
 go_wp2_with fail
 refine(mulAddVWW_calls b 0 _ bx 0 _ m y r ws xs _ hb1 hx1 (by omega) (by omega) (fun _=>.inl (Nat.le_refl _)) (by omega) hy hr).mono ?_
 rintro e w2 ⟨c,rs,rfl,hv,hcB,hval⟩
 rw[seg_all] at hval
 have hnext:=hv.next (s:=c) (by omega) hcB
 rw[Nat.zero_add] at hnext
 have hlen:(spl ws 0 (rs++[c])).length=ws.length:=spl0_length (by rw[hnext.len];exact hle)
 have hlen0:(spl ws 0 rs).length=ws.length:=spl0_length (by rw[hv.len];exact h4)
 have fz:=hv.blk.free m
 have rz:=hv.blk.cell (i:=m) (by rw[hlen0];omega)
 have hvn:val (rs++[c])=val (xs.take m)*y+r:=by rw[val_snoc,hv.len];exact hval
 have fin:NRes w z (val (xs.take m)*y+r) (.slice (some ⟨b,0,none⟩) (nlen (spl ws 0 (rs++[c])) (m+1)) ws.length) (w2.setCell ⟨b,m,none⟩ (.int .u64 (c:Int))):=by
  rw[←hlen]
  refine norm_nv (ws:=spl ws 0 (rs++[c])) hnext.blk (by rw[hlen];exact hle) ?_ ?_ HR.out.own
  ·have:=spl_take ws (rs++[c])
   rw[hnext.len] at this
   rw[this];exact hvn
  ·exact(HR.out.mod.mono (by simp)).step hnext.mod (fun x hx=>by rw[List.mem_singleton.1 hx];exact HR.out.own)
 have hblk:=hnext.blk
 have FIN:=Lh fin
 clear fin hv hval hnext hvn hb1 hx1 hx hlen0
 generalize spl ws 0 (rs++[c])=fs at*
 generalize spl ws 0 rs=gs at*
 go_wp2_with fail
 rw[show (m:Int)+1=((m+1:Nat):Int) from rfl]
 refine(norm_calls b (m+1) ws.length _ _ hblk (by rw[hlen];exact hle) hle (by omega)).mono ?_
 rintro e w' ⟨rfl,rfl⟩
 go_wp2_with fail
 go_ret
 exact⟨_,rfl,FIN.out⟩
theorem mulAddWW_zero (z x:Value) (a:Option Addr) (l c y r:Nat) (w:World) (hz:Zs w z) (hx:x=.slice a l c) (h0:l=0∨y=0) (hr:r<B):
 Calls Tryz.prog 180 #[z,x,.int .u64 y,.int .u64 r] w (NRet w z r):=by
 subst hx
 have hset:=setWord_calls z r w hz hr
 rcases h0 with rfl|rfl
 ·have t:(((0:Nat):Int)==0)=true:=by decide
  go_enter Tryz.func180,Tryz.ntmps180
  go_wp2_with fail
  refine hset.mono ?_
  rintro e w1 ⟨v,rfl,hres⟩
  go_wp2_with fail
  go_ret
  exact⟨_,rfl,hres⟩
 ·rcases Nat.eq_zero_or_pos l with rfl|hl
  ·have t:(((0:Nat):Int)==0)=true:=by decide
   go_enter Tryz.func180,Tryz.ntmps180
   go_wp2_with fail
   refine hset.mono ?_
   rintro e w1 ⟨v,rfl,hres⟩
   go_wp2_with fail
   go_ret
   exact⟨_,rfl,hres⟩
  ·have t:(((0:Nat):Int)==0)=true:=by decide
   have t2:((l:Int)==0)=false:=by simp;omega
   go_enter Tryz.func180,Tryz.ntmps180
   go_wp2_with fail
   refine hset.mono ?_
   rintro e w1 ⟨v,rfl,hres⟩
   go_wp2_with fail
   go_ret
   exact⟨_,rfl,hres⟩
theorem mulAddWW_calls (z x:Value) (X y r:Nat) (w:World) (hz:Zs w z) (hx:Nv w x X) (hXb:X<Big) (hy:y<B) (hr:r<B):
 Calls Tryz.prog 180 #[z,x,.int .u64 y,.int .u64 r] w (NRet w z (X*y+r)):=by
 rcases nv_form hx hXb with ⟨a,c,rfl,rfl⟩|⟨b,l,ws,rfl,h1,h2,h3,h4,h5,h6,h7⟩
 ·rw[Nat.zero_mul,Nat.zero_add]
  exact mulAddWW_zero z _ a 0 c y r w hz rfl (.inl rfl) hr
 ·rcases Nat.eq_zero_or_pos y with rfl|h0
  ·rw[Nat.mul_zero,Nat.zero_add]
   exact mulAddWW_zero z _ _ l _ 0 r w hz rfl (.inr rfl) hr
  ·have:=mulAddWW_pos z b l y r ws w hz h2 h3 h1 (by omega) h0 hy hr
   rw[h5] at this
   exact this
theorem long_step {fs rs:List Nat} {k m c d T X:Nat} (hl:rs.length=m) (hf:k+m<fs.length) (h:val (fs.take (m+k))=T) (hv:val rs+B^m*c=val (seg fs k m)+X*d):
 val ((spl fs k (rs++[c])).take (m+(k+1)))=T+B^k*(X*d):=by
 have e:(spl fs k (rs++[c])).take (m+(k+1))=fs.take k++(rs++[c]):=by
  simp only[spl]
  rw[List.take_left' (by simp[hl];omega)]
 have e2:val (fs.take (m+k))=val (fs.take k)+B^k*val (seg fs k m):=by
  have:=seg_append (xs:=fs) (o:=0) (j:=k) (n:=m+k) (by omega) (by omega)
  rw[seg_all,seg_all,Nat.zero_add,show m+k-k=m by omega] at this
  rw[this,val_append,List.length_take,Nat.min_eq_left (by omega)]
 rw[e,val_append,val_snoc,List.length_take,Nat.min_eq_left (by omega),hl,hv,←h,e2,Nat.mul_add];omega
theorem long_skip {fs:List Nat} {k m T:Nat} (hf:m+k<fs.length) (hz:wat fs (m+k)=0) (h:val (fs.take (m+k))=T):val (fs.take (m+(k+1)))=T:=by
 rw[←Nat.add_assoc,val_take_succ _ _ hf,←wat_eq hf,hz,h];omega
theorem basicMul_calls (b lz cz bx m cx bY n cy s:Nat) (ws xs ys:List Nat) (w:World) (hb:Blk w b ws) (hx:Blk w bx xs) (hy:Blk w bY ys) (hbx:bx≠b) (hby:bY≠b)
 (hs:s=m+n) (hsl:s≤ws.length) (hsz:s≤lz) (hsc:lz≤cz) (hm:m≤xs.length) (hn:n≤ys.length) (h0:0<s) (hs2:s≤100000):
 Calls Tryz.prog 175 #[.slice (some ⟨b,0,none⟩) lz cz,.slice (some ⟨bx,0,none⟩) m cx,.slice (some ⟨bY,0,none⟩) n cy] w fun e w'=>
  ∃fs:List Nat,e=.returned (.tuple #[])∧Mod [b] w w'∧Blk w' b fs∧fs.length=ws.length∧val (fs.take s)=val (xs.take m)*val (ys.take n):=by
 have t1:IntKind.i64.wrap ((m:Int)+n)=(s:Int):=by rw[show (m:Int)+n=(s:Int) by omega];exact IntWalk.i64_in _ (by omega)
 have t2:s≤cz:=by omega
 obtain⟨w1,hrun,hm1,hb1⟩:=clear_words w 118 b 0 s cz ws Tryz.underlying118 hb h0 (by omega)
 have hx1:=hx.mod hm1 (by simpa using hbx)
 have hy1:=hy.mod hm1 (by simpa using hby)
 have hc1:(spl ws 0 (List.replicate s 0)).length=ws.length:=spl0_length (by simpa using hsl)
 have hz1:∀j,j<s→wat (spl ws 0 (List.replicate s 0)) j=0:=fun j hj=>by
  simp only[wat,spl,List.getD_eq_getElem?_getD,List.take_zero,List.nil_append]
  rw[List.getElem?_append_left (by simpa using hj)]
  simp[hj]
 have hv1:val ((spl ws 0 (List.replicate s 0)).take (m+0))=val (xs.take m)*val (seg ys 0 0):=by
  rw[seg_zero,val_nil,Nat.mul_zero]
  simp only[spl,List.take_zero,List.nil_append]
  rw[List.take_append_of_le_length (by simp;omega),List.take_replicate]
  exact val_replicate_zero _
 rw[hs] at hrun
 have H1:=Lh (Aj hm1 (Aj hc1 (Aj hz1 hv1)))
 clear hm1 hc1 hz1 hv1
 generalize spl ws 0 (List.replicate s 0)=f0 at*
 go_enter Tryz.func175,Tryz.ntmps175
 go_wp2_with fail
 go_loopw [17] (fun i wr=>∃(k:Nat) (fs:List Nat),k≤n∧i=.int .i64 k∧Mod [b] w wr∧Blk wr b fs∧fs.length=ws.length∧(∀j,m+k≤j→j<s→wat fs j=0)∧val (fs.take (m+k))=val (xs.take m)*val (seg ys 0 k))
  (fun i _=>n-(intOf i).toNat)
 case atStart=>exact⟨0,f0,Nat.zero_le _,rfl,H1.out.1,hb1,H1.out.2.1,fun j _ h=>H1.out.2.2.1 j h,H1.out.2.2.2⟩
 case round=>
  obtain⟨k,fs,hk,rfl,hmr,hbr,hlr,hzr,hvr⟩:=hrel
  rcases Nat.lt_or_ge k n with hlt|hge
  ·have hyr:=hy.mod hmr (by simpa using hby)
   have hxr:=hx.mod hmr (by simpa using hbx)
   have ry:=hyr.cell (i:=k) (by omega)
   have hlt':(k:Int)<n:=by omega
   have hys:val (seg ys 0 (k+1))=val (seg ys 0 k)+B^k*wat ys k:=by
    have:=val_seg_succ (xs:=ys) (o:=0) (n:=k) (by omega)
    rwa [Nat.zero_add] at this
   have hd:=wat_lt hy.wl k
   have HV:=Lh (Aj hmr (Aj hlr (Aj hzr (Aj hvr hys))))
   clear hmr hlr hzr hvr hys hx1 hy1 hrun hb1
   generalize wat ys k=d at*
   by_cases hd0:d=0
   ·subst hd0
    have t4:(((0:Nat):Int)==0)=true:=by decide
    go_wp2_with fail
    exact⟨⟨k+1,fs,by omega,by go_num,HV.out.1,hbr,HV.out.2.1,fun j h1 h2=>HV.out.2.2.1 j (by omega) h2,by
     rw[HV.out.2.2.2.2,Nat.mul_zero,Nat.add_zero]
     exact long_skip (by rw[HV.out.2.1];omega) (HV.out.2.2.1 _ (Nat.le_refl _) (by omega)) HV.out.2.2.2.1⟩,by simp[intOf];omega⟩
   ·have t4:((d:Int)==0)=false:=by simp;omega
    have hcall:=addMulVVWW_calls b k (cz-k) b k (cz-k) bx 0 cx m d 0 fs fs xs wr.drew (hbr.drewN 1) (hbr.drewN 1) (hxr.drewN 1) (by rw[HV.out.2.1];omega) (by rw[HV.out.2.1];omega) (by omega) (fun _=>Nat.le_refl _) (fun h=>absurd h hbx) (by omega) hd B_pos
    have HA:=Lh hcall
    clear hcall
    obtain⟨p,hp⟩:∃p,p=m+k:=⟨_,rfl⟩
    have g1:k+m=p∧k+m≤ws.length∧p<ws.length:=by omega
    have G:=Lh g1
    have hn6:n≤100000:=by omega
    clear g1
    have e1:IntKind.i64.wrap ((m:Int)+k)=(p:Int):=by rw[show (m:Int)+k=(p:Int) by omega];exact IntWalk.i64_in _ (by omega)
    have e2:IntKind.i64.wrap ((k:Int)+m)=(p:Int):=by rw[show (k:Int)+m=(p:Int) by omega];exact IntWalk.i64_in _ (by omega)
    have f1:k≤p:=by omega
    have f2:p≤cz:=by omega
    have f3:(p:Int)<lz:=by omega
    have f4:¬cz=k:=by omega
    have f5:p-k=m:=by omega
    have f6:p<lz:=by omega
    have HP:=Lh hp
    clear hp t1 hsl hsc hs2 hsz
    go_wp2_with fail
    go_region_held3 (fun _=>True) (exact trivial) (first|(go_at_call 202;refine HA.out.mono ?_;rintro e w2 ⟨c,rs,rfl,hv,hcB,hval⟩;have fz:=hv.blk.free p;have rz:=hv.blk.cell (i:=p) (by rw[spl_length (by rw[hv.len,HV.out.2.1];exact G.out.2.1),HV.out.2.1];exact G.out.2.2)))
    have hnext:=hv.next (s:=c) (by rw[HV.out.2.1,G.out.1];exact G.out.2.2) hcB
    rw[seg_all,Nat.add_zero] at hval
    rw[G.out.1] at hnext
    have hval2:=long_step (T:=val (xs.take m)*val (seg ys 0 k)) hv.len (by rw[HV.out.2.1,G.out.1];exact G.out.2.2) HV.out.2.2.2.1 hval
    have hfin:Mod [b] w (w2.setCell ⟨b,p,none⟩ (.int .u64 (c:Int)))∧Blk (w2.setCell ⟨b,p,none⟩ (.int .u64 (c:Int))) b (spl fs k (rs++[c]))∧(spl fs k (rs++[c])).length=ws.length∧
     (∀j,m+(k+1)≤j→j<s→wat (spl fs k (rs++[c])) j=0)∧val ((spl fs k (rs++[c])).take (m+(k+1)))=val (xs.take m)*val (seg ys 0 (k+1)):=by
     have hl:k+(rs++[c]).length≤fs.length:=by rw[hnext.len,HV.out.2.1];have:=G.out;omega
     refine⟨(HV.out.1.drewN 1).trans hnext.mod,hnext.blk,by rw[spl_length hl];exact HV.out.2.1,fun j h1 h2=>?_,?_⟩
     ·rw[wat_spl_ge (by rw[hnext.len];omega) hl]
      exact HV.out.2.2.1 j (by omega) h2
     ·rw[hval2,HV.out.2.2.2.2,Nat.mul_add]
      congr 1
      rw[Nat.mul_left_comm]
    have FIN:=Lh hfin
    clear hfin hnext hval hval2 hv rz fz
    generalize spl fs k (rs++[c])=fs2 at*
    clear e1 e2 f1 f2 f3 f4 f5 f6
    go_wp2_with fail
    exact⟨⟨k+1,fs2,by omega,by go_num,FIN.out⟩,by simp[intOf];omega⟩
  ·obtain rfl:k=n:=by omega
   have HV:=Lh (Aj hmr (Aj hlr (Aj hzr hvr)))
   clear hmr hlr hzr hvr hx1 hy1 hrun hb1
   go_wp2_with fail
   go_end0
   exact⟨fs,rfl,HV.out.1,hbr,HV.out.2.1,by rw[hs,HV.out.2.2.2,seg_all]⟩
theorem mul_flip (z stk:Value) (a:Option Addr) (m c:Nat) (a':Option Addr) (n c':Nat) (R:Nat) (w:World) (h:m<n)
 (hf:Calls Tryz.prog 154 #[z,stk,.slice a' n c',.slice a m c] w (NRet w z R)):
 Calls Tryz.prog 154 #[z,stk,.slice a m c,.slice a' n c'] w (NRet w z R):=by
 have t1:decide (m<n)=true:=by simp;exact h
 go_enter Tryz.func154,Tryz.ntmps154
 go_wp2_with fail
 refine hf.mono ?_
 rintro e w1 ⟨v,rfl,hres⟩
 go_wp2_with fail
 go_ret
 exact⟨_,rfl,hres⟩
theorem mul_zero (z stk:Value) (a:Option Addr) (m c:Nat) (a':Option Addr) (c':Nat) (w:World) (hz:Zs w z):
 Calls Tryz.prog 154 #[z,stk,.slice a m c,.slice a' 0 c'] w (NRet w z 0):=by
 obtain⟨az,lz,cz,rfl,_⟩:=hz.slice
 have hr:=head_res hz
 have HR:=Lh hr
 clear hr hz
 have t1:decide (m<0)=false:=by simp
 have t3:(((0:Nat):Int)==0)=true:=by decide
 cases hm:((m:Int)==0)
 all_goals (
  go_enter Tryz.func154,Tryz.ntmps154
  go_wp2_with fail
  go_ret
  exact⟨_,rfl,HR.out⟩)
theorem mul_one (z stk:Value) (bx m bY:Nat) (xs ys:List Nat) (w:World) (hz:Zs w z) (hx:Blk w bx xs) (hy:Blk w bY ys) (hm0:0<m) (hm:m≤xs.length) (hn:1≤ys.length) (hX:val (xs.take m)<Big) (hN:Nrm (xs.take m)):
 Calls Tryz.prog 154 #[z,stk,.slice (some ⟨bx,0,none⟩) m xs.length,.slice (some ⟨bY,0,none⟩) 1 ys.length] w (NRet w z (val (xs.take m)*wat ys 0)):=by
 have hnv:Nv w (.slice (some ⟨bx,0,none⟩) m xs.length) (val (xs.take m)):=.inr ⟨bx,m,xs,rfl,hx,hm,hN,rfl⟩
 have hc:=mulAddWW_calls z _ _ (wat ys 0) 0 w hz hnv hX (wat_lt hy.wl 0) B_pos
 have ry:=hy.cell (i:=0) hn
 have t1:decide (m<1)=false:=by simp;omega
 have t2:((m:Int)==0)=false:=by simp;omega
 have HC:=Lh hc
 clear hc
 go_enter Tryz.func154,Tryz.ntmps154
 go_wp2_with fail
 refine HC.out.mono ?_
 rintro e w1 ⟨v,rfl,hres⟩
 go_wp2_with fail
 go_ret
 exact⟨_,rfl,hres⟩
end Go.Proofs.YtcpjclakdpjjfaaGreatDoor
namespace Go.Proofs.YtcpjclakdpjjfaaGreatDoor
open Go.RowKit Wd
structure Env (w:World):Prop where
 g6:w.cell? ⟨6,0,none⟩=some (.int .i64 12)
 g7:w.cell? ⟨7,0,none⟩=some (.int .i64 80)
 g8:w.cell? ⟨8,0,none⟩=some (.int .i64 40)
 g12:w.cell? ⟨12,0,none⟩=some (.int .i64 8)
 g16:w.cell? ⟨16,0,none⟩=some (.int .i64 40)
 big:19≤w.heap.size
theorem Env.mod {S:List Nat} {w w':World} (h:Env w) (m:Mod S w w') (hs:∀k,k∈S→19≤k):Env w':=by
 have c:∀i,i<19→w'.cell? ⟨i,0,none⟩=w.cell? ⟨i,0,none⟩:=fun i hi=>m.cell (by have:=h.big;simp;omega) (fun hm=>by have:=hs _ hm;simp at this;omega)
 exact⟨(c 6 (by omega)).trans h.g6,(c 7 (by omega)).trans h.g7,(c 8 (by omega)).trans h.g8,(c 12 (by omega)).trans h.g12,(c 16 (by omega)).trans h.g16,Nat.le_trans h.big m.size⟩
theorem Env.drewN {w:World} (h:Env w) (n:Nat):Env (w.drewN n):=⟨h.g6,h.g7,h.g8,h.g12,h.g16,h.big⟩
theorem alias_no {z:Value} {w:World} {bx m:Nat} {xs:List Nat} (hz:Zs w z) (hx:Blk w bx xs) (h0:0<xs.length) (h:aliasB z (.slice (some ⟨bx,0,none⟩) m xs.length)=false):bx∉sb z:=by
 rcases hz with rfl|⟨b,l,ws,rfl,h2,h3⟩
 ·simp[sb]
 ·intro hm
  have e:bx=b:=List.mem_singleton.1 hm
  subst e
  obtain rfl:=h2.unique hx
  simp[aliasB,h0] at h
theorem mul_pos (z stk:Value) (bx m bY n:Nat) (xs ys:List Nat) (w:World) (he:Env w) (hz:Zs w z) (hx:Blk w bx xs) (hy:Blk w bY ys) (hm:m≤xs.length) (hn:n≤ys.length) (hnm:n≤m) (hn2:2≤n) (hn40:n<40) (hm9:m≤90000):
 Calls Tryz.prog 154 #[z,stk,.slice (some ⟨bx,0,none⟩) m xs.length,.slice (some ⟨bY,0,none⟩) n ys.length] w (NRet w z (val (xs.take m)*val (ys.take n))):=by
 have zx:Zs w (.slice (some ⟨bx,0,none⟩) m xs.length):=.inr ⟨bx,m,xs,rfl,hx,hm⟩
 have zy:Zs w (.slice (some ⟨bY,0,none⟩) n ys.length):=.inr ⟨bY,n,ys,rfl,hy,hn⟩
 have ha1:=alias_calls z _ w hz zx
 have ha2:=fun k=>alias_calls z _ (w.drewN k) (hz.drewN k) (zy.drewN k)
 have t1:decide (m<n)=false:=by simp;omega
 have t2:((m:Int)==0)=false:=by simp;omega
 have t3:((n:Int)==0)=false:=by simp;omega
 have t4:((n:Int)==1)=false:=by simp;omega
 have HA:=Lh (Aj ha1 ha2)
 clear ha1 ha2
 have hb9:∃r:Bool,(r=false→aliasB z (.slice (some ⟨bx,0,none⟩) m xs.length)=false∧aliasB z (.slice (some ⟨bY,0,none⟩) n ys.length)=false)∧
  ((aliasB z (.slice (some ⟨bx,0,none⟩) m xs.length)=true∧r=true)∨(aliasB z (.slice (some ⟨bx,0,none⟩) m xs.length)=false∧r=aliasB z (.slice (some ⟨bY,0,none⟩) n ys.length))):=by
  cases aliasB z (.slice (some ⟨bx,0,none⟩) m xs.length)<;>cases aliasB z (.slice (some ⟨bY,0,none⟩) n ys.length)<;>simp
 obtain⟨r,hr1,hr2⟩:=hb9
 have HR1:=Lh hr1
 have HR2:=Lh hr2
 clear hr1 hr2
 generalize hq1:aliasB z (.slice (some ⟨bx,0,none⟩) m xs.length)=q1 at*
 generalize hq2:aliasB z (.slice (some ⟨bY,0,none⟩) n ys.length)=q2 at*
 have HQ1:=Lh hq1
 have HQ2:=Lh hq2
 clear hq1 hq2
 go_enter Tryz.func154,Tryz.ntmps154
 go_upto_region 9 with fail
 go_cut [51] from 44 to 51 (fun t51 wx=>t51=.bool r∧∃k,wx=w.drewN k)
 case first=>
  go_wp2_with fail
  refine HA.out.1.mono ?_
  rintro e w1 ⟨rfl,k1,rfl⟩
  rcases HR2.out with ⟨h1,h2⟩|⟨h1,h2⟩
  ·subst h1;subst h2
   go_wp2_with fail
   go_meet
   case rel=>exact⟨rfl,_,rfl⟩
  ·subst h1;subst h2
   go_wp2_with fail
   refine(HA.out.2 k1).mono ?_
   rintro e w1 ⟨rfl,k2,rfl⟩
   go_wp2_with fail
   go_meet
   case rel=>exact⟨by simp,k1+k2,by first|rfl|rw[World.drewN_drewN]⟩
 case rest=>
  obtain⟨rfl,k,rfl⟩:=hcut
  go_upto_if 51 with fail
  go_cut [0] from 44 to 51 (fun t0 wx=>wx=w.drewN k∧Zs w t0∧(∀j,j∈sb t0→j∈sb z)∧bx∉sb t0∧bY∉sb t0)
  case first=>
   cases r
   ·have h1:=alias_no hz hx (by omega) (HQ1.out.trans (HR1.out rfl).1)
    have h2:=alias_no hz hy (by omega) (HQ2.out.trans (HR1.out rfl).2)
    have H:=Lh (Aj h1 h2)
    clear h1 h2
    go_wp2_with fail
    go_meet
    case rel=>exact⟨rfl,hz,fun _ h=>h,H.out⟩
   ·go_wp2_with fail
    go_meet
    case rel=>exact⟨rfl,Zs.nil _,fun _ h=>by simp[sb] at h,by simp[sb],by simp[sb]⟩
  case rest=>
   obtain⟨rfl,hz',hsub,hnx,hny⟩:=hcut
   have hmake:=make_calls u0 (m+n) _ (hz'.drewN k) (by omega) (by omega)
   have HS:=Lh hsub
   have HMK:=Lh hmake
   have e1:IntKind.i64.wrap ((m:Int)+n)=((m+n:Nat):Int):=IntWalk.i64_in _ (by omega)
   clear hmake hsub
   go_wp2_with fail
   rw[show (m:Int)+n=((m+n:Nat):Int) from rfl]
   refine HMK.out.mono ?_
   rintro e w1 ⟨b,ws,rfl,hres⟩
   have hx1:=(hx.drewN k).mod hres.mod (by simp)
   have hy1:=(hy.drewN k).mod hres.mod (by simp)
   have hg8:=((he.drewN k).mod hres.mod (by simp)).g8
   have t8:decide ((n:Int)<40)=true:=by simp;omega
   have hcall:=basicMul_calls b (m+n) ws.length bx m xs.length bY n ys.length (m+n) ws xs ys w1 hres.blk hx1 hy1
    (fun h=>hres.own.elim (fun h'=>hnx (h▸h')) (fun h'=>by have:=(hx.drewN k).lt;omega)) (fun h=>hres.own.elim (fun h'=>hny (h▸h')) (fun h'=>by have:=(hy.drewN k).lt;omega))
    rfl hres.le (Nat.le_refl _) hres.le hm hn (by omega) (by omega)
   have HC:=Lh hcall
   have HR:=Lh hres
   clear hcall hres HMK hx1 hy1
   go_wp2_with fail
   refine HC.out.mono ?_
   rintro e w2 ⟨fs,rfl,hmod2,hblk2,hlen2,hval2⟩
   have fin:NRes w z (val (xs.take m)*val (ys.take n)) (.slice (some ⟨b,0,none⟩) (nlen fs (m+n)) ws.length) w2:=by
    rw[←hlen2]
    have own:b∈sb z∨w.heap.size≤b:=HR.out.own.imp (HS.out b) id
    refine norm_nv hblk2 (by rw[hlen2];exact HR.out.le) hval2 ?_ own
    exact((((Mod.refl [] w).drewN k).trans HR.out.mod).mono (by simp)).step hmod2 (fun x hx=>by rw[List.mem_singleton.1 hx];exact own)
   have FIN:=Lh fin
   clear fin hval2
   go_wp2_with fail
   refine(norm_calls b (m+n) ws.length _ _ hblk2 (by rw[hlen2];exact HR.out.le) HR.out.le (by omega)).mono ?_
   rintro e w' ⟨rfl,rfl⟩
   go_wp2_with fail
   go_ret
   exact⟨_,rfl,FIN.out⟩
theorem mul_calls (z stk x y:Value) (X Y:Nat) (w:World) (he:Env w) (hz:Zs w z) (hx:Nv w x X) (hy:Nv w y Y) (hXb:X<Big) (hYb:Y<B^39):
 Calls Tryz.prog 154 #[z,stk,x,y] w (NRet w z (X*Y)):=by
 rcases nv_form hx hXb with ⟨a,c,rfl,rfl⟩|⟨b,l,ws,rfl,h1,h2,h3,h4,h5,h6,h7⟩
 ·rw[Nat.zero_mul]
  obtain⟨a',l',c',rfl,_⟩:=hy.zs.slice
  rcases Nat.eq_zero_or_pos l' with rfl|h
  ·exact mul_zero z stk _ _ _ _ _ w hz
  ·exact mul_flip z stk _ _ _ _ _ _ 0 w h (mul_zero z stk _ _ _ _ _ w hz)
 ·rcases nv_form hy (Nat.lt_trans hYb (by rw[Big_eq];exact Nat.pow_lt_pow_right B_one (by omega))) with ⟨a',c',rfl,rfl⟩|⟨b',l',ws',rfl,k1,k2,k3,k4,k5,k6,k7⟩
  ·rw[Nat.mul_zero]
   exact mul_zero z stk _ _ _ _ _ w hz
  ·have hl':l'≤39:=by
    have:=length_le_of_val k4 (k:=39) (by rw[k5];exact hYb)
    rwa [List.length_take,Nat.min_eq_left k3] at this
   have one:∀{us:List Nat},1≤us.length→val (us.take 1)=wat us 0:=fun {us} h=>by
    rw[val_take_succ us 0 (by omega),←wat_eq (by omega)];simp
   rcases Nat.lt_or_ge l l' with h|h
   ·refine mul_flip z stk _ l _ _ l' _ (X*Y) w h ?_
    rw[Nat.mul_comm]
    rcases Nat.lt_or_ge 1 l with hl|hl
    ·have:=mul_pos z stk b' l' b l ws' ws w he hz k2 h2 k3 h3 (by omega) hl (by omega) (by omega)
     rw[k5,h5] at this
     exact this
    ·obtain rfl:l=1:=by omega
     have:=mul_one z stk b' l' b ws' ws w hz k2 h2 k1 k3 h3 (by rw[k5];exact Nat.lt_trans hYb (by rw[Big_eq];exact Nat.pow_lt_pow_right B_one (by omega))) k4
     rw[k5,←one h3,h5] at this
     exact this
   ·rcases Nat.lt_or_ge 1 l' with hl|hl
    ·have:=mul_pos z stk b l b' l' ws ws' w he hz h2 k2 h3 k3 h hl (by omega) (by omega)
     rw[k5,h5] at this
     exact this
    ·obtain rfl:l'=1:=by omega
     have:=mul_one z stk b l b' ws ws' w hz h2 k2 h1 h3 k3 (by rw[h5];exact hXb) h4
     rw[h5,←one k3,k5] at this
     exact this
end Go.Proofs.YtcpjclakdpjjfaaGreatDoor
namespace Go.Proofs.YtcpjclakdpjjfaaGreatDoor
open Go.RowKit Wd
theorem sqr_zero (z stk:Value) (a:Option Addr) (c:Nat) (w:World) (hz:Zs w z):
 Calls Tryz.prog 153 #[z,stk,.slice a 0 c] w (NRet w z 0):=by
 obtain⟨az,lz,cz,rfl,_⟩:=hz.slice
 have hr:=head_res hz
 have HR:=Lh hr
 clear hr hz
 have t3:(((0:Nat):Int)==0)=true:=by decide
 go_enter Tryz.func153,Tryz.ntmps153
 go_wp2_with fail
 go_ret
 exact⟨_,rfl,HR.out⟩
theorem two_words {ws:List Nat} {h l:Nat} (hle:2≤ws.length):val (((ws.set 1 h).set 0 l).take 2)=l+B*h:=by
 match ws,hle with
 |a::c::rest,_=>simp[val_cons]
theorem sqr_one (z stk:Value) (bx:Nat) (xs:List Nat) (w:World) (hz:Zs w z) (hx:Blk w bx xs) (hn:1≤xs.length):
 Calls Tryz.prog 153 #[z,stk,.slice (some ⟨bx,0,none⟩) 1 xs.length] w (NRet w z (wat xs 0*wat xs 0)):=by
 have rx:=hx.cell (i:=0) hn
 have hd:=wat_lt hx.wl 0
 have hmake:=make_calls z 2 w hz (by omega) (by omega)
 have HMK:=Lh hmake
 clear hmake
 generalize wat xs 0=d at*
 go_enter Tryz.func153,Tryz.ntmps153
 go_wp2_with fail
 refine HMK.out.mono ?_
 rintro e w1 ⟨b,ws,rfl,hres⟩
 have hle:=hres.le
 have HR:=Lh hres
 clear hres
 go_wp2_with fail
 refine(mulWW_calls d d _ hd hd).mono ?_
 rintro e w2 ⟨h,l,rfl,rfl,hok⟩
 have b1:=HR.out.blk.set 1 hok.1
 have b2:=b1.set 0 hok.2.1
 have f1:=HR.out.blk.free 1
 have f2:=b1.free 0
 have r1:=HR.out.blk.cell (i:=1) (by omega)
 have r2:=b1.cell (i:=0) (by rw[List.length_set];omega)
 have hlen:((ws.set 1 h).set 0 l).length=ws.length:=by simp
 have hval:=two_words (ws:=ws) (h:=h) (l:=l) hle
 have fin:NRes w z (d*d) (.slice (some ⟨b,0,none⟩) (nlen ((ws.set 1 h).set 0 l) 2) ws.length) ((w1.setCell ⟨b,1,none⟩ (.int .u64 (h:Int))).setCell ⟨b,0,none⟩ (.int .u64 (l:Int))):=by
  rw[←hlen]
  refine norm_nv b2 (by rw[hlen];exact hle) (by have:=hok.2.2;rw[hval,Nat.mul_comm B];omega) ?_ HR.out.own
  exact((HR.out.mod.mono (by simp)).setCell _ (by simpa using HR.out.own)).setCell _ (by simpa using HR.out.own)
 have FIN:=Lh fin
 clear fin hval b1
 generalize (ws.set 1 h).set 0 l=fs at*
 generalize ws.set 1 h=gs at*
 go_wp2_with fail
 refine(norm_calls b 2 ws.length _ _ b2 (by rw[hlen];exact hle) hle (by omega)).mono ?_
 rintro e w' ⟨rfl,rfl⟩
 go_wp2_with fail
 go_ret
 exact⟨_,rfl,FIN.out⟩
theorem sqr_pos (z stk:Value) (bx m:Nat) (xs:List Nat) (w:World) (he:Env w) (hz:Zs w z) (hx:Blk w bx xs) (hm:m≤xs.length) (hn2:2≤m) (hn40:m<12):
 Calls Tryz.prog 153 #[z,stk,.slice (some ⟨bx,0,none⟩) m xs.length] w (NRet w z (val (xs.take m)*val (xs.take m))):=by
 have zx:Zs w (.slice (some ⟨bx,0,none⟩) m xs.length):=.inr ⟨bx,m,xs,rfl,hx,hm⟩
 have ha1:=alias_calls z _ w hz zx
 have t2:((m:Int)==0)=false:=by simp;omega
 have t4:((m:Int)==1)=false:=by simp;omega
 have HA:=Lh ha1
 clear ha1
 generalize hq1:aliasB z (.slice (some ⟨bx,0,none⟩) m xs.length)=r at*
 have HQ1:=Lh hq1
 clear hq1
 go_enter Tryz.func153,Tryz.ntmps153
 go_wp2_with fail
 refine HA.out.mono ?_
 rintro e w1 ⟨rfl,k,rfl⟩
 go_upto_if 38 with fail
 go_cut [0] from 36 to 38 (fun t0 wx=>wx=w.drewN k∧Zs w t0∧(∀j,j∈sb t0→j∈sb z)∧bx∉sb t0)
 case first=>
  cases r
  ·have h1:=alias_no hz hx (by omega) HQ1.out
   have H:=Lh h1
   clear h1
   go_wp2_with fail
   go_meet
   case rel=>exact⟨rfl,hz,fun _ h=>h,H.out⟩
  ·go_wp2_with fail
   go_meet
   case rel=>exact⟨rfl,Zs.nil _,fun _ h=>by simp[sb] at h,by simp[sb]⟩
 case rest=>
  obtain⟨rfl,hz',hsub,hnx⟩:=hcut
  have hmake:=make_calls u0 (2*m) _ (hz'.drewN k) (by omega) (by omega)
  have HS:=Lh hsub
  have HMK:=Lh hmake
  have e1:IntKind.i64.wrap (2*(m:Int))=((2*m:Nat):Int):=IntWalk.i64_in _ (by omega)
  clear hmake hsub
  go_wp2_with fail
  rw[show 2*(m:Int)=((2*m:Nat):Int) from rfl]
  refine HMK.out.mono ?_
  rintro e w1 ⟨b,ws,rfl,hres⟩
  have hx1:=(hx.drewN k).mod hres.mod (by simp)
  have hE:=(he.drewN k).mod hres.mod (by simp)
  have hg6:=hE.g6
  have hg7:=hE.g7
  have t8:decide ((m:Int)<12)=true:=by simp;omega
  have t9:decide ((m:Int)<80)=true:=by simp;omega
  have hnb:bx≠b:=fun h=>hres.own.elim (fun h'=>hnx (h▸h')) (fun h'=>by have:=(hx.drewN k).lt;omega)
  have hcall:=basicMul_calls b (2*m) ws.length bx m xs.length bx m xs.length (2*m) ws xs xs w1 hres.blk hx1 hx1 hnb hnb
   (by omega) hres.le (Nat.le_refl _) hres.le hm hm (by omega) (by omega)
  have HC:=Lh hcall
  have HR:=Lh hres
  clear hcall hres HMK hx1 hE hnb
  go_wp2_with fail
  refine HC.out.mono ?_
  rintro e w2 ⟨fs,rfl,hmod2,hblk2,hlen2,hval2⟩
  have fin:NRes w z (val (xs.take m)*val (xs.take m)) (.slice (some ⟨b,0,none⟩) (nlen fs (2*m)) ws.length) w2:=by
   rw[←hlen2]
   have own:b∈sb z∨w.heap.size≤b:=HR.out.own.imp (HS.out b) id
   refine norm_nv hblk2 (by rw[hlen2];exact HR.out.le) hval2 ?_ own
   exact((((Mod.refl [] w).drewN k).trans HR.out.mod).mono (by simp)).step hmod2 (fun x hx=>by rw[List.mem_singleton.1 hx];exact own)
  have FIN:=Lh fin
  clear fin hval2
  go_wp2_with fail
  refine(norm_calls b (2*m) ws.length _ _ hblk2 (by rw[hlen2];exact HR.out.le) HR.out.le (by omega)).mono ?_
  rintro e w' ⟨rfl,rfl⟩
  go_wp2_with fail
  go_ret
  exact⟨_,rfl,FIN.out⟩
theorem sqr_calls (z stk x:Value) (X:Nat) (w:World) (he:Env w) (hz:Zs w z) (hx:Nv w x X) (hXb:X<B^11):
 Calls Tryz.prog 153 #[z,stk,x] w (NRet w z (X*X)):=by
 rcases nv_form hx (Nat.lt_trans hXb (by rw[Big_eq];exact Nat.pow_lt_pow_right B_one (by omega))) with ⟨a,c,rfl,rfl⟩|⟨b,l,ws,rfl,h1,h2,h3,h4,h5,h6,h7⟩
 ·exact sqr_zero z stk _ _ w hz
 ·have hl':l≤11:=by
   have:=length_le_of_val h4 (k:=11) (by rw[h5];exact hXb)
   rwa [List.length_take,Nat.min_eq_left h3] at this
  rcases Nat.lt_or_ge 1 l with hl|hl
  ·have:=sqr_pos z stk b l ws w he hz h2 h3 hl (by omega)
   rw[h5] at this
   exact this
  ·obtain rfl:l=1:=by omega
   have:=sqr_one z stk b ws w hz h2 h3
   rw[val_take_succ ws 0 (by omega),←wat_eq (by omega)] at h5
   simp at h5
   rw[h5] at this
   exact this
end Go.Proofs.YtcpjclakdpjjfaaGreatDoor
namespace Go.Proofs.YtcpjclakdpjjfaaGreatDoor
open Go.RowKit Wd
theorem zeroCells_words (m:Nat):Builtin.zeroCells (Value.int .u64 0).cells m=wc (List.replicate m 0):=by
 apply Array.ext
 ·simp[Builtin.zeroCells,wc,Value.cells]
 ·intro i h1 h2
  simp[Builtin.zeroCells,wc,Value.cells,Nat.mod_one]
theorem wc_append (xs ys:List Nat):wc xs++wc ys=wc (xs++ys):=by simp[wc]
theorem info177b:(Tryz.prog.info? 177).map (fun i=>(i.zero,i.size,i.bytes))=some (some (.int .u64 0),1,8):=by kernel_rfl
theorem grow_nil (w:World) (t ty:TypeId) (ht:Tryz.prog.underlying t=some (.slice 177)) (n:Nat) (h0:0<n) (hn:n≤1000):
 ∃w1 ws,(Builtin.append_ #[t,3] ty #[.slice none 0 0,.int .i64 (n:Int)]).run Tryz.prog w=.ok (.slice (some ⟨w.heap.size,0,none⟩) n ws.length) w1∧Blk w1 w.heap.size ws∧n≤ws.length∧Mod [] w w1:=by
 obtain⟨i,hi,hz⟩:=Option.map_eq_some_iff.1 info177b
 simp only[Prod.mk.injEq] at hz
 obtain⟨h1,h2,h3⟩:=hz
 have key:=Lib.run_append_nil_zeros (P:=Tryz.prog) w t 3 ty 177 i (.int .u64 0) .i64 .i64 ht Tryz.underlying3 hi h1 n h0 (by omega) (by omega) (by rw[h3];omega)
 rw[zeroCells_words,zeroCells_words,wc_append] at key
 have g1:=grownCap_ge w n 0 177
 have g2:=grownCap_le_maxLen w n 0 177 (by unfold maxLen;omega)
 generalize grownCap w n 0 177=g at*
 have hl:(List.replicate n 0++List.replicate (g-n) 0).length=g:=by simp;omega
 rw[show g=(List.replicate n 0++List.replicate (g-n) 0).length from hl.symm] at key
 rw[hl] at key
 refine⟨_,List.replicate n 0++List.replicate (g-n) 0,by rw[hl];exact key,⟨?_,WL_append.2 ⟨WL_zeros _,WL_zeros _⟩,by rw[hl];unfold maxLen at g2;omega⟩,by rw[hl];exact g1,((Mod.refl [] w).drew).alloc _⟩
 show (w.heap.push _)[w.heap.size]?=_
 simp
theorem grow_full (w:World) (t ty:TypeId) (ht:Tryz.prog.underlying t=some (.slice 177)) (r:Nat) (ws:List Nat) (hr:Blk w r ws) (hc:ws.length≤1000) (k:Nat) (h0:0<k) (hk:k≤1000):
 ∃w1 ws1,(Builtin.append_ #[t,3] ty #[.slice (some ⟨r,0,none⟩) ws.length ws.length,.int .i64 (k:Int)]).run Tryz.prog w=.ok (.slice (some ⟨w.heap.size,0,none⟩) (ws.length+k) ws1.length) w1∧Blk w1 w.heap.size ws1∧ws.length+k≤ws1.length∧Mod [] w w1:=by
 obtain⟨i,hi,hz⟩:=Option.map_eq_some_iff.1 info177b
 simp only[Prod.mk.injEq] at hz
 obtain⟨h1,h2,h3⟩:=hz
 have hf:=run_firstCells_some (P:=Tryz.prog) w.drew i.size ws.length ⟨r,0,none⟩ ws.length ws.length (ws.map fun n:Nat=>Value.int .u64 (n:Int)) (by simp[h2]) (fun j v hj=>by
  have hjk:j<ws.length:=by
   rcases Nat.lt_or_ge j ws.length with h|h
   ·exact h
   ·rw[List.getElem?_eq_none (by simp;exact h)] at hj;cases hj
  rw[List.getElem?_map,List.getElem?_eq_getElem hjk] at hj
  cases hj
  have hadd:(⟨r,0,none⟩:Addr).add j=⟨r,j,none⟩:=by unfold Addr.add;split<;>simp_all
  rw[hadd,show (w.drew).cell? ⟨r,j,none⟩=w.cell? ⟨r,j,none⟩ from rfl,hr.cell hjk,wat_eq hjk])
 have hw:IntKind.i64.wrap (k:Int)=k:=by rw[IntKind.wrap_i64];omega
 have hn:¬(ws.length+k≤ws.length):=by omega
 have hneg:¬((k:Int)<0):=by omega
 have h63':¬(9223372036854775807<((ws.length:Int)+(k:Int))):=by omega
 have hfit:=growslice_fits (need:=ws.length+k) (old:=ws.length) (bytes:=8) (by omega) (by omega)
 have h48':¬(281474976710656<Builtin.nextslicecap (ws.length+k) ws.length*8):=by omega
 have h48i:¬(281474976710656<(k:Int)*8):=by omega
 have hk0:¬(k=0):=by omega
 have g1:=grownCap_ge w (ws.length+k) ws.length 177
 have g2:=grownCap_le_maxLen w (ws.length+k) ws.length 177 (by unfold maxLen;omega)
 have key:(Builtin.append_ #[t,3] ty #[.slice (some ⟨r,0,none⟩) ws.length ws.length,.int .i64 (k:Int)]).run Tryz.prog w=
  .ok (.slice (some ⟨w.heap.size,0,none⟩) (ws.length+k) (grownCap w (ws.length+k) ws.length 177))
   (w.drew.alloc (.cells (wc (ws++(List.replicate k 0++List.replicate (grownCap w (ws.length+k) ws.length 177-(ws.length+k)) 0))) 177)):=by
  simp[Builtin.append_,run_underlying ht,run_underlying Tryz.underlying3,sizeOf,typeInfo,zeroValue,hi,h1,h2,h3,asInt,asIntOf,hw,hn,hneg,h63',h48',h48i,hk0,Question.forced,newRow,grownCap]
  rw[h2] at hf
  simp[hf,zeroCells_words,wc]
  refine congrArg (fun x=>World.alloc w.drew (Obj.cells x 177)) ?_
  apply Array.ext'
  simp
 generalize grownCap w (ws.length+k) ws.length 177=g at*
 have hl:(ws++(List.replicate k 0++List.replicate (g-(ws.length+k)) 0)).length=g:=by simp;omega
 refine⟨_,ws++(List.replicate k 0++List.replicate (g-(ws.length+k)) 0),by rw[hl];exact key,⟨?_,WL_append.2 ⟨hr.wl,WL_append.2 ⟨WL_zeros _,WL_zeros _⟩⟩,by rw[hl];unfold maxLen at g2;omega⟩,by rw[hl];exact g1,((Mod.refl [] w).drew).alloc _⟩
 show (w.heap.push _)[w.heap.size]?=_
 simp
def GRet (w:World) (S:List Nat) (l k:Nat) (e:Ending) (w':World):Prop:=
 ∃(b:Nat) (ws:List Nat),e=.returned (.slice (some ⟨b,0,none⟩) l ws.length)∧Blk w' b ws∧l+k≤ws.length∧Mod [] w w'∧(b∈S∨w.heap.size≤b)
theorem Grow_nil207 (w:World) (k:Nat) (h0:0<k) (hk:k≤1000):
 Calls Tryz.prog 207 #[.slice none 0 0,.int .i64 (k:Int)] w (GRet w [] 0 k):=by
 have t1:decide ((k:Int)<0)=false:=by simp
 have t2:decide ((0:Int)<(k:Int))=true:=by simp;omega
 have ha:=grow_nil w 118 118 Tryz.underlying118 k h0 hk
 obtain⟨w1,ws,hrun,hb,hle,hm⟩:=ha
 go_enter Tryz.func207,Tryz.ntmps207
 go_wp2_with (at_builtin;refine Lib.wpList_append_run _ rfl _ _ _ _ rfl _ _ rfl rfl _ _ hrun ?_)
 go_ret
 exact⟨_,ws,rfl,hb,by simpa using hle,hm,.inr (Nat.le_refl _)⟩
theorem Grow_nil (w:World) (k:Nat) (h0:0<k) (hk:k≤1000):
 Calls Tryz.prog 233 #[.slice none 0 0,.int .i64 (k:Int)] w (GRet w [] 0 k):=by
 have t1:decide ((k:Int)<0)=false:=by simp
 have t2:decide ((0:Int)<(k:Int))=true:=by simp;omega
 have ha:=grow_nil w 117 117 Tryz.underlying117 k h0 hk
 obtain⟨w1,ws,hrun,hb,hle,hm⟩:=ha
 go_enter Tryz.func233,Tryz.ntmps233
 go_wp2_with (at_builtin;refine Lib.wpList_append_run _ rfl _ _ _ _ rfl _ _ rfl rfl _ _ hrun ?_)
 go_ret
 exact⟨_,ws,rfl,hb,by simpa using hle,hm,.inr (Nat.le_refl _)⟩
theorem Grow_room (w:World) (r l k:Nat) (ws:List Nat) (hr:Blk w r ws) (hk:l+k≤ws.length):
 Calls Tryz.prog 233 #[.slice (some ⟨r,0,none⟩) l ws.length,.int .i64 (k:Int)] w (GRet w [r] l k):=by
 have hcap:=hr.cap
 have t1:decide ((k:Int)<0)=false:=by simp
 have e1:IntKind.i64.wrap ((ws.length:Int)-l)=((ws.length-l:Nat):Int):=by rw[show (ws.length:Int)-l=((ws.length-l:Nat):Int) by omega];exact IntWalk.i64_in _ (by omega)
 obtain⟨d,hd⟩:∃d,d=ws.length-l:=⟨_,rfl⟩
 have fin:GRet w [r] l k (.returned (.slice (some ⟨r,0,none⟩) l ws.length)) w:=⟨r,ws,rfl,hr,hk,Mod.refl _ _,.inl (by simp)⟩
 have FIN:=Lh fin
 clear fin
 have h3:(ws.length:Int)-l=(d:Int):=by omega
 have h4:IntKind.i64.wrap ((k:Int)-(d:Int))=(k:Int)-(d:Int):=IntWalk.i64_in _ (by omega)
 have t2:decide ((0:Int)<(k:Int)-(d:Int))=false:=by simp;omega
 have h5:IntKind.i64.wrap (d:Int)=(d:Int):=IntWalk.i64_in _ (by omega)
 clear e1 hd hr
 generalize ws.length=c at*
 go_enter Tryz.func233,Tryz.ntmps233
 go_wp2_with fail
 go_ret
 exact FIN.out
theorem Grow_full (w:World) (r l k:Nat) (ws:List Nat) (hr:Blk w r ws) (hl:l≤ws.length) (hk:ws.length<l+k) (hk2:l+k≤900):
 Calls Tryz.prog 233 #[.slice (some ⟨r,0,none⟩) l ws.length,.int .i64 (k:Int)] w (GRet w [] l k):=by
 obtain⟨m,hm⟩:∃m,ws.length+m=l+k:=⟨l+k-ws.length,by omega⟩
 obtain⟨w1,ws1,hrun,hb,hle,hmod⟩:=grow_full w 117 117 Tryz.underlying117 r ws hr (by omega) m (by omega) (by omega)
 have fin:GRet w [] l k (.returned (.slice (some ⟨w.heap.size,0,none⟩) l ws1.length)) w1:=⟨_,ws1,rfl,hb,by omega,hmod,.inr (Nat.le_refl _)⟩
 have FIN:=Lh fin
 clear fin
 have t1:decide ((k:Int)<0)=false:=by simp
 have h4:IntKind.i64.wrap ((k:Int)-((ws.length:Int)-l))=(k:Int)-((ws.length:Int)-l):=IntWalk.i64_in _ (by omega)
 have h5:IntKind.i64.wrap ((ws.length:Int)-l)=(ws.length:Int)-l:=IntWalk.i64_in _ (by omega)
 have t2:decide ((ws.length:Int)-l<(k:Int))=true:=by simp;omega
 have h7:l≤ws1.length:=by omega
 rw[show ((m:Nat):Int)=(k:Int)-((ws.length:Int)-l) by omega] at hrun
 clear hr hb hm
 go_enter Tryz.func233,Tryz.ntmps233
 go_wp2_with (at_builtin;refine Lib.wpList_append_run _ rfl _ _ _ _ rfl _ _ rfl rfl _ _ hrun ?_)
 go_ret
 exact FIN.out
end Go.Proofs.YtcpjclakdpjjfaaGreatDoor
namespace Go.Proofs.YtcpjclakdpjjfaaGreatDoor
open Go.RowKit Wd
def One (w:World) (b:Nat) (t:TypeId) (v:Value):Prop:=w.heap[b]?=some (.cells #[v] t (0,0))
theorem One.cell {w:World} {b:Nat} {t:TypeId} {v:Value} (h:One w b t v):w.cell? ⟨b,0,none⟩=some v:=by simp[World.cell?,One] at*;simp[h]
theorem One.free {w:World} {b:Nat} {t:TypeId} {v:Value} (h:One w b t v):w.frozen? ⟨b,0,none⟩=false:=by simp[World.frozen?,One] at*;simp[h]
theorem One.lt {w:World} {b:Nat} {t:TypeId} {v:Value} (h:One w b t v):b<w.heap.size:=lt_of_block h
theorem One.mod {S:List Nat} {w w':World} {b:Nat} {t:TypeId} {v:Value} (h:One w b t v) (m:Mod S w w') (hb:b∉S):One w' b t v:=(m.block b h.lt hb).trans h
theorem One.set {w:World} {b:Nat} {t:TypeId} {v:Value} (h:One w b t v) (u:Value):One (w.setCell ⟨b,0,none⟩ u) b t u:=by
 unfold One at*;rw[heap_setCell_same h];rfl
theorem One.ne_blk {w:World} {b c:Nat} {t:TypeId} {v:Value} {ws:List Nat} (h:One w b t v) (k:Blk w c ws) (ht:t≠177):b≠c:=by
 rintro rfl
 have:=h.symm.trans k.heap
 simp only[Option.some.injEq,Obj.cells.injEq] at this
 exact ht this.2.1
theorem One.ne {w:World} {b c:Nat} {t t':TypeId} {v v':Value} (h:One w b t v) (k:One w c t' v') (ht:t≠t'):b≠c:=by
 rintro rfl
 have:=h.symm.trans k
 simp only[Option.some.injEq,Obj.cells.injEq] at this
 exact ht this.2.1
def Keep (w w':World) (b l:Nat):Prop:=
 ∀(b':Nat) (xs:List Nat) (ox k:Nat),Blk w b' xs→(b'=b→ox+k≤l)→∃xs',Blk w' b' xs'∧xs'.length=xs.length∧seg xs' ox k=seg xs ox k
theorem seg_set {ws:List Nat} {l x ox k:Nat} (h:ox+k≤l):seg (ws.set l x) ox k=seg ws ox k:=by
 simp only[seg]
 rw[List.drop_set]
 split
 ·rfl
 ·rw[List.take_set_of_le (by omega)]
theorem Keep.set {w w':World} {b l x:Nat} {ws:List Nat} (h:∀b' xs,Blk w b' xs→Blk w' b' xs) (hb:Blk w' b ws) (hx:x<B):Keep w (w'.setCell ⟨b,l,none⟩ (.int .u64 (x:Int))) b l:=fun b' xs ox k h1 h2=>by
 have h3:=h _ _ h1
 by_cases e:b'=b
 ·subst e
  obtain rfl:=h3.unique hb
  exact⟨_,h3.set l hx,List.length_set ..,seg_set (h2 rfl)⟩
 ·exact⟨xs,h3.set_other (fun h=>e h.symm) _,rfl,rfl⟩
structure IRes (w:World) (i l n:Nat) (S:List Nat) (o b c:Nat) (w':World):Prop where
 row:∃(ws:List Nat) (l':Nat),Blk w' b ws∧One w' i 306 (.slice (some ⟨b,0,none⟩) l' ws.length)∧l'≤ws.length∧o+n≤l'∧c=n∧l'≤l+110
 at_:o=l
 mod:Mod (i::S) w w'
 own:b∈S∨w.heap.size≤b
 keep:Keep w w' b l
def IRet (w:World) (i l n:Nat) (S:List Nat) (e:Ending) (w':World):Prop:=∃o b c,e=.returned (.slice (some ⟨b,o,none⟩) n c)∧IRes w i l n S o b c w'
theorem inat_grow (w:World) (i l n k:Nat) (v:Value) (a:Option Addr) (c:Nat) (S:List Nat) (hv:v=.slice a l c) (hi:One w i 306 v) (hn:0<n) (hn2:n≤100) (hl:l≤200) (hk:k=(n+3)/4*4)
 (hG:Calls Tryz.prog 233 #[v,.int .i64 (k:Int)] w (GRet w S l k)) (hS:i∉S):
 Calls Tryz.prog 208 #[.pointer (some ⟨i,0,none⟩),.int .i64 (n:Int)] w (IRet w i l n S):=by
 have rc:=hi.cell
 have fr:=hi.free
 have hb:bits BinOp.andNot IntKind.i64 ((n:Int)+3) 3=(k:Int):=by
  have:∀n:Nat,n<101→bits BinOp.andNot IntKind.i64 ((n:Int)+3) 3=(((n+3)/4*4:Nat):Int):=by decide+kernel
  rw[hk];exact this n (by omega)
 have hk1:n≤k:=by omega
 have hk2:k≤103:=by omega
 have HI:=Lh hi
 have HS:=Lh hS
 clear hi hk hS
 subst hv
 go_enter Tryz.func208,Tryz.ntmps208
 go_wp2_with fail
 refine hG.mono ?_
 rintro e w1 ⟨b,ws,rfl,hb1,hle1,hm1,hown⟩
 have hi1:One w1 i 306 (.slice a l c):=HI.out.mod hm1 (by simp)
 have hne:i≠b:=hi1.ne_blk hb1 (by decide)
 have hi2:=hi1.set (.slice (some ⟨b,0,none⟩) l ws.length)
 have hi3:=hi2.set (.slice (some ⟨b,0,none⟩) (l+k) ws.length)
 have c1:=hi1.cell
 have f1:=hi1.free
 have c2:=hi2.cell
 have f2:=hi2.free
 have c3:=hi3.cell
 have hb2:=(hb1.set_other (a:=⟨i,0,none⟩) hne (.slice (some ⟨b,0,none⟩) l ws.length)).set_other (a:=⟨i,0,none⟩) hne (.slice (some ⟨b,0,none⟩) (l+k) ws.length)
 have hb4:=hb2.set l (x:=1043915) (by rw[B_eq];omega)
 have hi4:One (((w1.setCell ⟨i,0,none⟩ (.slice (some ⟨b,0,none⟩) l ws.length)).setCell ⟨i,0,none⟩ (.slice (some ⟨b,0,none⟩) (l+k) ws.length)).setCell ⟨b,l,none⟩ (.int .u64 ((1043915:Nat):Int))) i 306 (.slice (some ⟨b,0,none⟩) (l+k) ws.length):=
  (Below.heap_setCell _ _ _ _ hne).trans hi3
 have cb:=hb2.cell (i:=l) (by omega)
 have fb:=hb2.free l
 have fin:IRes w i l n S l b n (((w1.setCell ⟨i,0,none⟩ (.slice (some ⟨b,0,none⟩) l ws.length)).setCell ⟨i,0,none⟩ (.slice (some ⟨b,0,none⟩) (l+k) ws.length)).setCell ⟨b,l,none⟩ (.int .u64 ((1043915:Nat):Int))):=
  ⟨⟨_,l+k,hb4,by rw[List.length_set];exact hi4,by rw[List.length_set];omega,by omega,rfl,by omega⟩,rfl,
    (((hm1.mono (by simp)).setCell _ (.inl (by simp))).setCell _ (.inl (by simp))).setCell _ (hown.imp (fun h=>by simp[h]) id),hown,Keep.set (fun b' xs hx=>by
      have hx1:=hx.mod hm1 (by simp)
      have hne':=hi1.ne_blk hx1 (by decide)
      exact(hx1.set_other (a:=⟨i,0,none⟩) hne' _).set_other (a:=⟨i,0,none⟩) hne' _) hb2 (by rw[B_eq];omega)⟩
 have FIN:=Lh fin
 have e1:IntKind.i64.wrap ((l:Int)+k)=((l+k:Nat):Int):=IntWalk.i64_in _ (by omega)
 have h9:l+k≤ws.length:=by omega
 have h10:n≤k:=hk1
 have h11:l+n≤ws.length:=by omega
 have hcap:=hb1.cap
 clear fin hi1 hi2 hi3 hi4 hb1 hb2 hb4 hm1 hown hG hne
 generalize ws.length=cc at*
 go_wp2_with fail
 go_ret
 exact⟨l,b,n,by rw[Nat.add_sub_cancel_left]<;>rfl,FIN.out⟩
def Stk (w:World) (s l r:Nat) (T:List Nat):Prop:=
 (One w s 302 (.pointer none)∧l=0∧r=s∧T=[s])∨
 ∃(i:Nat) (ws:List Nat),One w s 302 (.pointer (some ⟨i,0,none⟩))∧One w i 306 (.slice (some ⟨r,0,none⟩) l ws.length)∧Blk w r ws∧l≤ws.length∧T=[s,i,r]
theorem Stk.mod {S T:List Nat} {w w':World} {s l r:Nat} (h:Stk w s l r T) (m:Mod S w w') (hd:∀k,k∈T→k∉S):Stk w' s l r T:=by
 rcases h with ⟨h1,h2,h3,h4⟩|⟨i,ws,h1,h2,h3,h4,h5⟩
 ·exact .inl ⟨h1.mod m (hd _ (by simp[h4])),h2,h3,h4⟩
 ·exact .inr ⟨i,ws,h1.mod m (hd _ (by simp[h5])),h2.mod m (hd _ (by simp[h5])),h3.mod m (hd _ (by simp[h5])),h4,h5⟩
theorem Stk.lt {T:List Nat} {w:World} {s l r:Nat} (h:Stk w s l r T):∀k,k∈T→k<w.heap.size:=by
 rcases h with ⟨h1,h2,h3,h4⟩|⟨i,ws,h1,h2,h3,h4,h5⟩
 ·intro k hk;rw[h4] at hk;rw[List.mem_singleton.1 hk];exact h1.lt
 ·intro k hk;rw[h5] at hk
  simp at hk
  rcases hk with rfl|rfl|rfl
  ·exact h1.lt
  ·exact h2.lt
  ·exact h3.lt
structure SRes (w:World) (s l r n:Nat) (T:List Nat) (b o c:Nat) (w':World):Prop where
 row:∃ws:List Nat,Blk w' b ws∧o+n≤ws.length∧n≤c∧o+c≤ws.length
 stk:∃(l' r':Nat) (T':List Nat),Stk w' s l' r' T'∧l≤l'∧l'≤l+110∧(∀k,k∈T'→k∈T∨w.heap.size≤k)∧(b=r'→o+n≤l')
 mod:Mod T w w'
 own:w.heap.size≤b∨(b=r∧l≤o)
 keep:Keep w w' r l
def SRet (w:World) (s l r n:Nat) (T:List Nat) (e:Ending) (w':World):Prop:=∃b o c,e=.returned (.slice (some ⟨b,o,none⟩) n c)∧SRes w s l r n T b o c w'
theorem snat_small (w:World) (s n:Nat) (hs:One w s 302 (.pointer none)) (hn:0<n) (hn2:n≤4):
 Calls Tryz.prog 184 #[.pointer (some ⟨s,0,none⟩),.int .i64 (n:Int)] w (SRet w s 0 s n [s]):=by
 have c1:=hs.cell
 have hG:=Grow_nil207 w n hn (by omega)
 have t1:decide ((n:Int)≤4)=true:=by simp;omega
 have t2:decide ((0:Int)<n)=true:=by simp;omega
 have HS:=Lh hs
 clear hs
 go_enter Tryz.func184,Tryz.ntmps184
 go_wp2_with fail
 refine hG.mono ?_
 rintro e w1 ⟨b,ws,rfl,hb1,hle1,hm1,hown⟩
 have hw:w.heap.size≤b:=by simpa using hown
 have f0:=hb1.free 0
 have r0:=hb1.cell (i:=0) (by omega)
 have hb2:=hb1.set 0 (x:=11259375) (by rw[B_eq];omega)
 have h4:n≤ws.length:=by omega
 have fin:SRes w s 0 s n [s] b 0 ws.length (w1.setCell ⟨b,0,none⟩ (.int .u64 ((11259375:Nat):Int))):=by
  have hs1:=HS.out.mod hm1 (by simp)
  have hne:s≠b:=hs1.ne_blk hb1 (by decide)
  refine⟨⟨_,hb2,by rw[List.length_set];omega,h4,by rw[List.length_set];omega⟩,⟨0,s,[s],.inl ⟨(Below.heap_setCell _ _ _ _ hne).trans hs1,rfl,rfl,rfl⟩,Nat.le_refl _,by omega,fun k h=>.inl h,fun h=>absurd h.symm hne⟩,(hm1.mono (by simp)).setCell _ (.inr hw),.inl hw,fun b' xs ox k hx _=>⟨xs,(hx.mod hm1 (by simp)).set_other (fun h=>by have:=hx.lt;simp at h;omega) _,rfl,rfl⟩⟩
 have FIN:=Lh fin
 clear fin hb2 hb1 hm1 hown
 generalize ws.length=cc at*
 go_wp2_with fail
 go_ret
 exact⟨b,0,cc,rfl,FIN.out⟩
theorem snat_new (w:World) (s n:Nat) (hs:One w s 302 (.pointer none)) (hn:4<n) (hn2:n≤100):
 Calls Tryz.prog 184 #[.pointer (some ⟨s,0,none⟩),.int .i64 (n:Int)] w (SRet w s 0 s n [s]):=by
 have c1:=hs.cell
 have t1:decide ((n:Int)≤4)=false:=by simp;omega
 have hs1:One (w.alloc (.cells #[.slice none 0 0] 306)) s 302 (.pointer none):=hs.mod ((Mod.refl [] w).alloc _) (by simp)
 have cs:=hs1.cell
 have fs:=hs1.free
 have hne:s≠w.heap.size:=by have:=hs.lt;omega
 have hi:One ((w.alloc (.cells #[.slice none 0 0] 306)).setCell ⟨s,0,none⟩ (.pointer (some ⟨w.heap.size,0,none⟩))) w.heap.size 306 (.slice none 0 0):=by
  refine(Below.heap_setCell _ _ _ _ hne.symm).trans ?_
  show (w.heap.push _)[w.heap.size]?=_
  simp
 have hs2:=hs1.set (.pointer (some ⟨w.heap.size,0,none⟩))
 have hm:Mod [s] w ((w.alloc (.cells #[.slice none 0 0] 306)).setCell ⟨s,0,none⟩ (.pointer (some ⟨w.heap.size,0,none⟩))):=((Mod.refl [s] w).alloc _).setCell _ (.inl (by simp))
 have hk:(n+3)/4*4≤104:=by omega
 have hG:=inat_grow _ w.heap.size 0 n ((n+3)/4*4) _ none 0 [] rfl hi (by omega) hn2 (by omega) rfl (Grow_nil _ _ (by omega) (by omega)) (by simp)
 have HG:=Lh (Aj hG (Aj hm (Aj hs2 hs)))
 clear hG hm hs2 hs1 hs hi
 go_enter Tryz.func184,Tryz.ntmps184
 go_wp2_with fail
 refine HG.out.1.mono ?_
 rintro e w' ⟨o,b,c,rfl,hres⟩
 have fin:SRes w s 0 s n [s] b o c w':=by
  obtain⟨_,hm,hs2,hs⟩:=HG.out
  obtain⟨ws,l',hb,hi,h1,h2,h3,h4⟩:=hres.row
  have ho:=hres.at_
  have hsz:w.heap.size≤b:=by
   have:=hres.own
   simp at this;omega
  have hsn:s∉w.heap.size::([]:List Nat):=by simpa using hne
  refine⟨⟨ws,hb,by omega,by omega,by omega⟩,⟨l',b,[s,w.heap.size,b],.inr ⟨_,ws,hs2.mod hres.mod hsn,hi,hb,h1,rfl⟩,by omega,h4,fun k hk=>?_,fun _=>h2⟩,?_,.inl hsz,?_⟩
  ·simp at hk
   rcases hk with rfl|rfl|rfl
   ·simp
   ·simp
   ·exact .inr hsz
  ·exact hm.step hres.mod (fun x hx=>by simp at hx;exact .inr (by omega))
  ·intro b' xs ox k hx _
   have hx2:=hx.mod hm (by simpa using (hs.ne_blk hx (by decide)).symm)
   exact hres.keep b' xs ox k hx2 (fun h=>by have:=hx.lt;omega)
 have FIN:=Lh fin
 clear fin
 go_wp2_with fail
 go_ret
 exact⟨b,o,c,rfl,FIN.out⟩
theorem snat_more (w:World) (s i r l n:Nat) (ws:List Nat) (hs:One w s 302 (.pointer (some ⟨i,0,none⟩))) (hi:One w i 306 (.slice (some ⟨r,0,none⟩) l ws.length)) (hr:Blk w r ws) (hl:l≤ws.length) (hl2:l≤200) (hn:0<n) (hn2:n≤100):
 Calls Tryz.prog 184 #[.pointer (some ⟨s,0,none⟩),.int .i64 (n:Int)] w (SRet w s l r n [s,i,r]):=by
 have c1:=hs.cell
 have hsi:s≠i:=hs.ne hi (by decide)
 have hsr:s≠r:=hs.ne_blk hr (by decide)
 have hir:i≠r:=hi.ne_blk hr (by decide)
 have hG:Calls Tryz.prog 233 #[.slice (some ⟨r,0,none⟩) l ws.length,.int .i64 (((n+3)/4*4:Nat):Int)] w (GRet w [r] l ((n+3)/4*4)):=by
  rcases Nat.lt_or_ge ws.length (l+(n+3)/4*4) with h|h
  ·refine(Grow_full w r l _ ws hr hl h (by omega)).mono ?_
   rintro e w' ⟨b,ws',h1,h2,h3,h4,h5⟩
   exact⟨b,ws',h1,h2,h3,h4,.inr (by simpa using h5)⟩
  ·exact Grow_room w r l _ ws hr h
 have hN:=inat_grow w i l n ((n+3)/4*4) _ _ ws.length [r] rfl hi hn hn2 hl2 rfl hG (by simpa using hir)
 have HN:=Lh (Aj hN (Aj hs (Aj hi hr)))
 clear hN hG hs hi hr
 generalize ws.length=cc at*
 go_enter Tryz.func184,Tryz.ntmps184
 go_wp2_with fail
 refine HN.out.1.mono ?_
 rintro e w' ⟨o,b,c,rfl,hres⟩
 have fin:SRes w s l r n [s,i,r] b o c w':=by
  obtain⟨_,hs,hi,hr⟩:=HN.out
  obtain⟨ws,l',hb,hi',h1,h2,h3,h4⟩:=hres.row
  have ho:=hres.at_
  have hown:b=r∨w.heap.size≤b:=by simpa using hres.own
  refine⟨⟨ws,hb,by omega,by omega,by omega⟩,⟨l',b,[s,i,b],.inr ⟨i,ws,hs.mod hres.mod (by simp[hsi,hsr]),hi',hb,h1,rfl⟩,by omega,h4,fun k hk=>?_,fun _=>h2⟩,?_,?_,?_⟩
  ·simp at hk
   rcases hk with rfl|rfl|rfl
   ·simp
   ·simp
   ·exact hown.imp (fun h=>by simp[h]) id
  ·exact hres.mod.mono (fun x hx=>by simp at hx;rcases hx with rfl|rfl<;>simp)
  ·exact hown.elim (fun h=>.inr ⟨h,by omega⟩) .inl
  ·intro b' xs ox k hx h
   refine hres.keep b' xs ox k hx (fun e=>?_)
   rcases hown with h'|h'
   ·exact h (e.trans h')
   ·have:=hx.lt;omega
 have FIN:=Lh fin
 clear fin
 go_wp2_with fail
 go_ret
 exact⟨b,o,c,rfl,FIN.out⟩
theorem snat_calls (w:World) (s l r n:Nat) (T:List Nat) (h:Stk w s l r T) (hl2:l≤200) (hn:0<n) (hn2:n≤100):
 Calls Tryz.prog 184 #[.pointer (some ⟨s,0,none⟩),.int .i64 (n:Int)] w (SRet w s l r n T):=by
 rcases h with ⟨h1,rfl,rfl,rfl⟩|⟨i,ws,h1,h2,h3,h4,rfl⟩
 ·rcases Nat.lt_or_ge 4 n with h|h
  ·exact snat_new w r n h1 h hn2
  ·exact snat_small w r n h1 hn h
 ·exact snat_more w s i r l n ws h1 h2 h3 h4 hl2 hn hn2
theorem isave_calls (w:World) (i r l c:Nat) (hi:One w i 306 (.slice (some ⟨r,0,none⟩) l c)):
 Calls Tryz.prog 206 #[.pointer (some ⟨i,0,none⟩)] w fun e w'=>e=.returned (.int .i64 (l:Int))∧w=w':=by
 have c1:=hi.cell
 clear hi
 go_enter Tryz.func206,Tryz.ntmps206
 go_wp2_with fail
 go_ret
 exact⟨rfl,rfl⟩
theorem save_calls (w:World) (s l r:Nat) (T:List Nat) (h:Stk w s l r T):
 Calls Tryz.prog 183 #[.pointer (some ⟨s,0,none⟩)] w fun e w'=>e=.returned (.int .i64 (l:Int))∧w=w':=by
 rcases h with ⟨h1,rfl,rfl,rfl⟩|⟨i,ws,h1,h2,h3,h4,rfl⟩
 ·have c1:=h1.cell
  clear h1
  go_enter Tryz.func183,Tryz.ntmps183
  go_wp2_with fail
  go_ret
  exact⟨rfl,rfl⟩
 ·have c1:=h1.cell
  have hs:=isave_calls w i r l _ h2
  clear h1 h2 h3 h4
  go_enter Tryz.func183,Tryz.ntmps183
  go_wp2_with fail
  refine hs.mono ?_
  rintro e w' ⟨rfl,rfl⟩
  go_wp2_with fail
  go_ret
  exact⟨rfl,rfl⟩
theorem irestore_calls (w:World) (i r l n:Nat) (ws:List Nat) (hi:One w i 306 (.slice (some ⟨r,0,none⟩) l ws.length)) (hn:n≤l) (hl:l≤ws.length):
 Calls Tryz.prog 205 #[.pointer (some ⟨i,0,none⟩),.int .i64 (n:Int)] w fun e w'=>e=.returned (.tuple #[])∧w'=w.setCell ⟨i,0,none⟩ (.slice (some ⟨r,0,none⟩) n ws.length):=by
 have c1:=hi.cell
 have f1:=hi.free
 have h5:n≤ws.length:=by omega
 clear hi
 generalize ws.length=c at*
 go_enter Tryz.func205,Tryz.ntmps205
 go_wp2_with fail
 go_end0
 exact⟨rfl,rfl⟩
theorem ifree_calls (w:World) (i r l:Nat) (ws:List Nat) (hi:One w i 306 (.slice (some ⟨r,0,none⟩) l ws.length)):
 Calls Tryz.prog 203 #[.pointer (some ⟨i,0,none⟩)] w fun e w'=>e=.returned (.tuple #[])∧w'=w.setCell ⟨i,0,none⟩ (.slice (some ⟨r,0,none⟩) 0 ws.length):=by
 have c1:=hi.cell
 have f1:=hi.free
 clear hi
 generalize ws.length=c at*
 go_enter Tryz.func203,Tryz.ntmps203
 go_wp2_with fail
 go_end0
 exact⟨rfl,rfl⟩
theorem restore_calls (w:World) (s l r n:Nat) (T:List Nat) (h:Stk w s l r T) (hn:n≤l) (u:FrameMode):
 CallsD Tryz.prog 182 #[.pointer (some ⟨s,0,none⟩),.int .i64 (n:Int)] u w fun e u' w'=>u'=u∧e=.returned (.tuple #[])∧Stk w' s n r T∧Mod T w w':=by
 rcases h with ⟨h1,rfl,rfl,rfl⟩|⟨i,ws,h1,h2,h3,h4,rfl⟩
 ·obtain rfl:n=0:=by omega
  have c1:=h1.cell
  have H:=Lh h1
  clear h1
  go_enter_d Tryz.func182,Tryz.ntmps182
  go_wp2_with fail
  refine bodyPost_ret (results_none rfl _ _ _) rfl ?_
  exact⟨rfl,.inl ⟨H.out,rfl,rfl,rfl⟩,Mod.refl _ _⟩
 ·have c1:=h1.cell
  have hs:=irestore_calls w i r l n ws h2 hn h4
  have hsi:s≠i:=h1.ne h2 (by decide)
  have hir:i≠r:=h2.ne_blk h3 (by decide)
  have fin:Stk (w.setCell ⟨i,0,none⟩ (.slice (some ⟨r,0,none⟩) n ws.length)) s n r [s,i,r]∧Mod [s,i,r] w (w.setCell ⟨i,0,none⟩ (.slice (some ⟨r,0,none⟩) n ws.length)):=
   ⟨.inr ⟨i,ws,(Below.heap_setCell _ _ _ _ hsi).trans h1,h2.set _,h3.set_other hir _,by omega,rfl⟩,(Mod.refl _ w).setCell _ (.inl (by simp))⟩
  have FIN:=Lh fin
  clear fin h1 h2 h3 h4 hsi hir
  go_enter_d Tryz.func182,Tryz.ntmps182
  go_wp2_with fail
  refine hs.mono ?_
  rintro e w' ⟨rfl,rfl⟩
  go_wp2_with fail
  go_end0
  exact⟨rfl,FIN.out⟩
theorem free_calls (w:World) (s l r:Nat) (T:List Nat) (h:Stk w s l r T) (u:FrameMode):
 CallsD Tryz.prog 177 #[.pointer (some ⟨s,0,none⟩)] u w fun e u' w'=>u'=u∧e=.returned (.tuple #[])∧Mod T w w':=by
 rcases h with ⟨h1,rfl,rfl,rfl⟩|⟨i,ws,h1,h2,h3,h4,rfl⟩
 ·have c1:=h1.cell
  clear h1
  go_enter_d Tryz.func177,Tryz.ntmps177
  go_wp2_with fail
  go_end0
  exact⟨rfl,Mod.refl _ _⟩
 ·have c1:=h1.cell
  have hs:=ifree_calls w i r l ws h2
  have fin:Mod [s,i,r] w (w.setCell ⟨i,0,none⟩ (.slice (some ⟨r,0,none⟩) 0 ws.length)):=(Mod.refl _ w).setCell _ (.inl (by simp))
  have FIN:=Lh fin
  clear fin h1 h2 h3 h4
  go_enter_d Tryz.func177,Tryz.ntmps177
  go_wp2_with fail
  refine hs.mono ?_
  rintro e w' ⟨rfl,rfl⟩
  go_wp2_with fail
  go_end0
  exact⟨rfl,FIN.out⟩
theorem getStack_calls (w:World):Calls Tryz.prog 176 #[] w fun e w'=>∃s,e=.returned (.pointer (some ⟨s,0,none⟩))∧Stk w' s 0 s [s]∧Mod [] w w'∧w.heap.size≤s:=by
 have h:Stk (w.alloc (.cells #[.pointer none] 302)) w.heap.size 0 w.heap.size [w.heap.size]:=by
  refine .inl ⟨?_,rfl,rfl,rfl⟩
  show (w.heap.push _)[w.heap.size]?=_
  simp
 have hm:Mod [] w (w.alloc (.cells #[.pointer none] 302)):=(Mod.refl [] w).alloc _
 have H:=Lh (Aj h hm)
 clear h hm
 go_enter Tryz.func176,Tryz.ntmps176
 go_wp2_with fail
 go_ret
 exact⟨w.heap.size,rfl,H.out.1,H.out.2,Nat.le_refl _⟩
end Go.Proofs.YtcpjclakdpjjfaaGreatDoor
namespace Go.Proofs.YtcpjclakdpjjfaaGreatDoor
open Go.RowKit Wd
theorem nlz_ex {y:Nat} (h0:y≠0) (h:y<B):∃s,NlzOk y s:=by
 have h1:=Nat.log2_self_le h0
 have h2:=Nat.lt_log2_self (n:=y)
 have h3:Nat.log2 y<64:=(Nat.log2_lt h0).2 (by rw[B_eq] at h;exact h)
 refine⟨63-Nat.log2 y,by omega,?_,?_⟩
 ·have e:2^63=2^Nat.log2 y*2^(63-Nat.log2 y):=by rw[←Nat.pow_add];congr 1;omega
  rw[e];exact Nat.mul_le_mul_right _ h1
 ·have e:2^64=2^(Nat.log2 y+1)*2^(63-Nat.log2 y):=by rw[←Nat.pow_add];congr 1;omega
  rw[e];exact Nat.mul_lt_mul_of_pos_right h2 (Nat.pow_pos (by omega))
def DWRet (w:World) (z:Value) (X y:Nat) (e:Ending) (w':World):Prop:=∃v,e=.returned (.tuple #[v,.int .u64 ((X%y:Nat):Int)])∧NRes w z (X/y) v w'
theorem divW_one (z x:Value) (X:Nat) (w:World) (hz:Zs w z) (hx:Nv w x X) (hXb:X<Big):
 Calls Tryz.prog 239 #[z,x,.int .u64 1] w (DWRet w z X 1):=by
 have hset:=set_calls z x X w hz hx hXb
 obtain⟨a,l,c,rfl,_⟩:=hx.zs.slice
 have HS:=Lh hset
 clear hset hx
 go_enter Tryz.func239,Tryz.ntmps239
 go_wp2_with fail
 refine HS.out.mono ?_
 rintro e w1 ⟨v,rfl,hres⟩
 go_wp2_with fail
 go_ret2
 exact⟨v,by rw[Nat.mod_one]<;>rfl,by rw[Nat.div_one];exact hres⟩
theorem divW_zero (z:Value) (a:Option Addr) (c y:Nat) (w:World) (hz:Zs w z) (h1:1<y):
 Calls Tryz.prog 239 #[z,.slice a 0 c,.int .u64 y] w (DWRet w z 0 y):=by
 obtain⟨az,lz,cz,rfl,_⟩:=hz.slice
 have hr:=head_res hz
 have HR:=Lh hr
 have t1:((y:Int)==0)=false:=by simp;omega
 have t2:((y:Int)==1)=false:=by simp;omega
 have t3:(((0:Nat):Int)==0)=true:=by decide
 clear hr hz
 go_enter Tryz.func239,Tryz.ntmps239
 go_wp2_with fail
 go_ret2
 exact⟨_,by rw[Nat.zero_mod]<;>rfl,by rw[Nat.zero_div];exact HR.out⟩
theorem divW_pos (z:Value) (bx m y:Nat) (xs:List Nat) (w:World) (hz:Zs w z) (hx:Blk w bx xs) (hmx:m≤xs.length) (h0:0<m) (hm:m≤90000) (hy:y<B) (h1:1<y):
 Calls Tryz.prog 239 #[z,.slice (some ⟨bx,0,none⟩) m xs.length,.int .u64 y] w (DWRet w z (val (xs.take m)) y):=by
 obtain⟨s,hs⟩:=nlz_ex (y:=y) (by omega) hy
 have t1:((y:Int)==0)=false:=by simp;omega
 have t2:((y:Int)==1)=false:=by simp;omega
 have t3:((m:Int)==0)=false:=by simp;omega
 have hmake:=make_calls z m w hz h0 (by omega)
 have HMK:=Lh hmake
 have HS:=Lh hs
 clear hmake hs
 go_enter Tryz.func239,Tryz.ntmps239
 go_wp2_with fail
 refine HMK.out.mono ?_
 rintro e w1 ⟨b,ws,rfl,hres⟩
 have hx1:=hx.mod hres.mod (by simp)
 have hb1:=hres.blk
 have hle:=hres.le
 have HR:=Lh hres
 clear hres HMK
 go_wp2_with fail
 refine(divWVW_calls b 0 _ bx 0 _ m y s ws xs _ hb1 hx1 (by omega) (by omega) (fun _=>rfl) (by omega) h0 hy (by omega) HS.out).mono ?_
 rintro e w2 ⟨r,rs,rfl,hv,hry,hval⟩
 rw[seg_all] at hval
 have hq:val rs=val (xs.take m)/y∧r=val (xs.take m)%y:=by
  have:=(Nat.div_mod_unique (a:=val (xs.take m)) (b:=y) (c:=r) (d:=val rs) (by omega)).2 ⟨by rw[Nat.mul_comm y];omega,hry⟩
  exact⟨this.1.symm,this.2.symm⟩
 have hlen:(spl ws 0 rs).length=ws.length:=spl0_length (by rw[hv.len];exact hle)
 have fin:NRes w z (val (xs.take m)/y) (.slice (some ⟨b,0,none⟩) (nlen (spl ws 0 rs) m) ws.length) w2:=by
  rw[←hlen]
  refine norm_nv (ws:=spl ws 0 rs) hv.blk (by rw[hlen];exact hle) ?_ ?_ HR.out.own
  ·have:=spl_take ws rs
   rw[hv.len] at this
   rw[this];exact hq.1
  ·exact(HR.out.mod.mono (by simp)).step hv.mod (fun x hx=>by rw[List.mem_singleton.1 hx];exact HR.out.own)
 have hblk:=hv.blk
 have FIN:=Lh (Aj fin hq.2)
 clear fin hv hval hq hb1 hx1 hx
 generalize spl ws 0 rs=fs at*
 go_wp2_with fail
 refine(norm_calls b m ws.length _ _ hblk (by rw[hlen];exact hle) hle (by omega)).mono ?_
 rintro e w' ⟨rfl,rfl⟩
 go_wp2_with fail
 go_ret2
 exact⟨_,by rw[FIN.out.2]<;>rfl,FIN.out.1⟩
theorem divW_calls (z x:Value) (X y:Nat) (w:World) (hz:Zs w z) (hx:Nv w x X) (hXb:X<Big) (hy:y<B) (h0:y≠0):
 Calls Tryz.prog 239 #[z,x,.int .u64 y] w (DWRet w z X y):=by
 by_cases h1:y=1
 ·subst h1;exact divW_one z x X w hz hx hXb
 ·rcases nv_form hx hXb with ⟨a,c,rfl,rfl⟩|⟨b,l,ws,rfl,h2,h3,h4,h5,h6,h7⟩
  ·exact divW_zero z a c y w hz (by omega)
  ·have:=divW_pos z b l y ws w hz h3 h4 h2 (by omega) hy (by omega)
   rw[h6] at this
   exact this
end Go.Proofs.YtcpjclakdpjjfaaGreatDoor
namespace Go.Proofs.YtcpjclakdpjjfaaGreatDoor
open Go.RowKit Wd
structure Dig (v1 v2 u2 u1 u0 Q:Nat):Prop where
 hv1:v1<B
 hv2:v2<B
 hu1:u1<B
 hu0:u0<B
 hn:B≤2*v1
 hQ:Q*(v1*B+v2)≤(u2*B+u1)*B+u0
structure QG (v1 v2 u2 u1 Q q r x1 x2:Nat):Prop where
 qB:q<B
 rem:r+q*v1=u2*B+u1
 rB:r<B
 low:Q≤q
 first:q≤(u2*B+u1)/v1
 prod:x1*B+x2=q*v2
 x2B:x2<B
 x1B:x1<B
structure QF (v1 v2 u2 u1 u0 Q q:Nat):Prop where
 qB:q<B
 low:Q≤q
 first:q≤(u2*B+u1)/v1
 fit:q*(v1*B+v2)≤(u2*B+u1)*B+u0
theorem QG.start {v1 v2 u2 u1 u0 Q q r x1 x2:Nat} (D:Dig v1 v2 u2 u1 u0 Q) (hlt:u2<v1) (hq:q=(u2*B+u1)/v1) (hr:r=(u2*B+u1)%v1) (hm:MulOk q v2 0 x1 x2):QG v1 v2 u2 u1 Q q r x1 x2:=by
 have h1:=D.hv1
 have h0:0<v1:=by omega
 refine⟨?_,?_,?_,?_,by rw[hq];exact Nat.le_refl _,by have:=hm.2.2;omega,hm.2.1,hm.1⟩
 ·rw[hq,Nat.div_lt_iff_lt_mul h0]
  have:(u2+1)*B≤v1*B:=Nat.mul_le_mul_right _ hlt
  have:=D.hu1
  rw[Nat.mul_comm B v1]
  rw[Nat.add_mul] at*;omega
 ·have:=Nat.mod_add_div (u2*B+u1) v1
  rw[Nat.mul_comm v1] at this
  rw[hq,hr];exact this
 ·rw[hr];exact Nat.lt_trans (Nat.mod_lt _ h0) h1
 ·rw[hq];exact guess_first h0 D.hu0 D.hQ
theorem QG.stop {v1 v2 u2 u1 u0 Q q r x1 x2:Nat} (G:QG v1 v2 u2 u1 Q q r x1 x2) (h:x1*B+x2≤r*B+u0):QF v1 v2 u2 u1 u0 Q q:=
 ⟨G.qB,G.low,G.first,guess_ok G.rem (by rw[←G.prod,Nat.mul_comm B r];exact h)⟩
theorem QG.pos {v1 v2 u2 u1 u0 Q q r x1 x2:Nat} (D:Dig v1 v2 u2 u1 u0 Q) (G:QG v1 v2 u2 u1 Q q r x1 x2) (h:r*B+u0<x1*B+x2):Q<q:=by
 have h1:=guess_dec (b:=B) (n0:=u0) G.rem (d0:=v2) (by rw[←G.prod,Nat.mul_comm B r];exact h)
 have h2:=D.hQ
 exact Nat.lt_of_mul_lt_mul_right (Nat.lt_of_le_of_lt h2 h1)
theorem QG.out {v1 v2 u2 u1 u0 Q q r x1 x2:Nat} (D:Dig v1 v2 u2 u1 u0 Q) (G:QG v1 v2 u2 u1 Q (q+1) r x1 x2) (h:r*B+u0<x1*B+x2) (hB:B≤r+v1):QF v1 v2 u2 u1 u0 Q q:=by
 have h1:=G.pos D h
 have hq:=G.qB
 have hrem:=G.rem
 have h2:=G.first
 refine⟨by omega,by omega,by omega,guess_ok (r:=r+v1) (by rw[Nat.add_mul] at hrem;omega) ?_⟩
 have:q*v2≤B*B:=Nat.mul_le_mul (by omega) (by have:=D.hv2;omega)
 have h3:B*B≤B*(r+v1):=Nat.mul_le_mul_left _ hB
 omega
theorem QG.next {v1 v2 u2 u1 u0 Q q r x1 x2:Nat} (D:Dig v1 v2 u2 u1 u0 Q) (G:QG v1 v2 u2 u1 Q (q+1) r x1 x2) (h:r*B+u0<x1*B+x2) (hB:r+v1<B):
 (x2<v2→0<x1∧QG v1 v2 u2 u1 Q q (r+v1) (x1-1) (x2+B-v2))∧(v2≤x2→QG v1 v2 u2 u1 Q q (r+v1) x1 (x2-v2)):=by
 have h1:=G.pos D h
 have hq:=G.qB
 have hrem:=G.rem
 have h2:=G.first
 have h3:=G.prod
 have h4:=G.x2B
 have h5:=G.x1B
 have h6:=D.hv2
 rw[Nat.add_mul] at hrem h3
 refine⟨fun hx=>?_,fun hx=>⟨by omega,by omega,by omega,by omega,by omega,by omega,by omega,by omega⟩⟩
 have hx1:0<x1:=by
  rcases Nat.eq_zero_or_pos x1 with h|h
  ·subst h;omega
  ·exact h
 obtain⟨y,rfl⟩:∃y,x1=y+1:=⟨x1-1,by omega⟩
 rw[Nat.add_sub_cancel]
 rw[Nat.add_mul] at h3
 exact⟨by omega,⟨by omega,by omega,by omega,by omega,by omega,by omega,by omega,by omega⟩⟩
theorem QF.near {v1 v2 u2 u1 u0 q p V D:Nat} (F:QF v1 v2 u2 u1 u0 (D/V) q) (hv:B≤2*v1) (hV:V<(v1*B+v2+1)*p) (hV0:0<V) (hD:((u2*B+u1)*B+u0)*p≤D):q≤D/V+1:=by
 have h1:=guess_refined (m:=p) (U:=D) (V:=V) F.fit (by
  have:=F.qB
  have h0:1≤v1:=by have:=B_pos;omega
  have:1*B≤v1*B:=Nat.mul_le_mul_right _ h0
  omega) hV hD
 have:=(Nat.le_div_iff_mul_le hV0).2 h1
 omega
theorem top_near {v1 V D p:Nat} (hv:B≤2*v1) (hV:V<(v1+1)*p) (hV0:0<V) (hU:v1*B*p≤D) (hD:D<B*V):D/V≤B-1∧B-1≤D/V+1:=by
 have h1:=guess_top (m:=p) (by omega) hV hU
 have h2:=(Nat.le_div_iff_mul_le hV0).2 h1
 have h3:D/V<B:=(Nat.div_lt_iff_lt_mul hV0).2 hD
 omega
theorem dig_ok {v1 v2 u2 u1 u0 p V D:Nat} (h1:v1<B) (h2:v2<B) (h3:u1<B) (h4:u0<B) (hn:B≤2*v1) (hV:(v1*B+v2)*p≤V) (hD:D<((u2*B+u1)*B+u0+1)*p):Dig v1 v2 u2 u1 u0 (D/V):=by
 refine⟨h1,h2,h3,h4,hn,?_⟩
 have k1:D/V*((v1*B+v2)*p)≤D/V*V:=Nat.mul_le_mul_left _ hV
 have k2:=Nat.div_mul_le_self D V
 rw[←Nat.mul_assoc] at k1
 have k3:D/V*(v1*B+v2)*p<((u2*B+u1)*B+u0+1)*p:=by omega
 have:=Nat.lt_of_mul_lt_mul_right k3
 omega
theorem take_off {D V q P r c1 p:Nat} (hlow:D/V≤q) (hnear:q≤D/V+1) (hV0:0<V) (hP:P=q*V) (hr:r<p) (h:r+P=D+p*c1) (hc:c1≤1):
 (c1=0→q=D/V∧r=D%V)∧(c1=1→q=D/V+1∧r+V=D%V+p):=by
 have h1:=Nat.div_add_mod D V
 have h2:=Nat.mod_lt D hV0
 generalize hQ:D/V=Q at*
 generalize D%V=R at*
 rw[Nat.mul_comm] at h1
 rcases (show q=Q∨q=Q+1 by omega) with rfl|rfl
 ·refine⟨fun hc=>⟨rfl,by subst hc;omega⟩,fun hc=>?_⟩
  subst hc;omega
 ·rw[Nat.add_mul] at hP
  refine⟨fun hc=>by subst hc;omega,fun hc=>⟨rfl,by subst hc;omega⟩⟩
end Go.Proofs.YtcpjclakdpjjfaaGreatDoor
namespace Go.Proofs.YtcpjclakdpjjfaaGreatDoor
open Go.RowKit Wd
structure DL (n m V U0 k ujn:Nat) (us qs:List Nat):Prop where
 small:val (seg us k (n-1))+B^(n-1)*ujn<V
 ujnB:ujn<B
 top:k≤m→wat us (k+n-1)=ujn
 last:k=m+1→ujn=0
 zero:∀i,k+n≤i→i<m+n→wat us i=0
 sum:val (us.take k)+B^k*(val (seg us k (n-1))+B^(n-1)*ujn)+V*(B^k*val (seg qs k (m-k)))=U0
theorem seg_last {us:List Nat} {o n:Nat} (h0:0<n) (h:o+n≤us.length):val (seg us o n)=val (seg us o (n-1))+B^(n-1)*wat us (o+n-1):=by
 obtain⟨k,rfl⟩:∃k,n=k+1:=⟨n-1,by omega⟩
 rw[Nat.add_sub_cancel,val_seg_succ (by omega),show o+(k+1)-1=o+k by omega]
theorem take_step {us:List Nat} {j:Nat} (h:j<us.length):val (us.take (j+1))=val (us.take j)+B^j*wat us j:=by
 rw[val_take_succ _ _ h,←wat_eq h]
theorem take_seg {us:List Nat} {j n:Nat} (h:j+n≤us.length):val (us.take (j+n))=val (us.take j)+B^j*val (seg us j n):=by
 have:=seg_append (xs:=us) (o:=0) (j:=j) (n:=j+n) (by omega) (by omega)
 rw[seg_all,seg_all,Nat.zero_add,Nat.add_sub_cancel_left] at this
 rw[this,val_append,List.length_take,Nat.min_eq_left (by omega)]
theorem DL.start {n m V:Nat} {us qs:List Nat} (hn:2≤n) (hl:m+n≤us.length) (hw:WL us) (hV:B^(n-1)≤V):DL n m V (val (us.take (m+n))) (m+1) 0 us qs:=by
 have hV':=Lh hV
 clear hV
 have e0:m+n=(m+1)+(n-1):=by omega
 have e1:(m+1)+(n-1)≤us.length:=by omega
 have e2:m-(m+1)=0:=by omega
 have a1:¬m+1≤m:=by omega
 have a2:∀i,m+1+n≤i→¬i<m+n:=fun i h1 h2=>by omega
 have hsm:val (seg us (m+1) (n-1))<V:=by
  have h1:=val_lt (WL_seg hw (m+1) (n-1))
  rw[seg_length e1] at h1
  exact Nat.lt_of_lt_of_le h1 hV'.out
 refine⟨by rw[Nat.mul_zero,Nat.add_zero];exact hsm,B_pos,fun h=>absurd h a1,fun _=>rfl,fun i h1 h2=>absurd h2 (a2 i h1),?_⟩
 rw[e0,take_seg e1,e2,seg_zero,val_nil,Nat.mul_zero,Nat.mul_zero,Nat.add_zero,Nat.mul_zero,Nat.add_zero (val (seg us (m+1) (n-1))),Nat.add_zero]
theorem DL.sect {n m V U0 j ujn:Nat} {us qs:List Nat} (h:DL n m V U0 (j+1) ujn us qs) (hn:2≤n) (hj:j<m) (hl:m+n≤us.length) (hw:WL us):
 val (seg us j (n+1))<B*V∧val (seg us j (n+1))=wat us j+B*(val (seg us (j+1) (n-1))+B^(n-1)*ujn):=by
 have e:val (seg us j (n+1))=wat us j+B*(val (seg us (j+1) (n-1))+B^(n-1)*ujn):=by
  rw[seg_cons' (by omega),val_cons,seg_last (by omega) (by omega),show j+1+n-1=j+1+n-1 from rfl,h.top (by omega)]
 refine⟨?_,e⟩
 have h1:=wat_lt hw j
 have h2:B*(val (seg us (j+1) (n-1))+B^(n-1)*ujn+1)≤B*V:=Nat.mul_le_mul_left _ h.small
 rw[Nat.mul_add] at h2
 rw[e];omega
theorem DL.step {n m V U0 j ujn q:Nat} {us us' qs:List Nat} (h:DL n m V U0 (j+1) ujn us qs) (hn:2≤n) (hj:j<m) (hl:m+n≤us.length) (hw:WL us) (hV:0<V)
 (hl':us'.length=us.length) (hw':WL us') (htake:us'.take j=us.take j) (hq:q=val (seg us j (n+1))/V) (hr:val (seg us' j n)=val (seg us j (n+1))%V) (hz:wat us' (j+n)=0)
 (hb:∀i,j+n<i→wat us' i=wat us i) (hqs:m≤qs.length):DL n m V U0 j (wat us' (j+n-1)) us' (qs.set j q):=by
 have hs:=seg_last (us:=us') (o:=j) (n:=n) (by omega) (by omega)
 have hR:val (seg us' j (n-1))+B^(n-1)*wat us' (j+n-1)=val (seg us j (n+1))%V:=by rw[←hs];exact hr
 refine⟨by rw[hR];exact Nat.mod_lt _ hV,wat_lt hw' _,fun _=>rfl,fun e=>by omega,fun i h1 h2=>?_,?_⟩
 ·rcases Nat.eq_or_lt_of_le h1 with e|e
  ·rw[←e];exact hz
  ·rw[hb i e];exact h.zero i (by omega) h2
 ·have e1:val (seg (qs.set j q) j (m-j))=q+B*val (seg qs (j+1) (m-(j+1))):=by
   obtain⟨p,hp⟩:∃p,m-j=p+1:=⟨m-j-1,by omega⟩
   rw[hp,show m-(j+1)=p by omega,seg_cons' (by rw[List.length_set];omega),val_cons]
   have a1:wat (qs.set j q) j=q:=by rw[wat_eq (by rw[List.length_set];omega)];simp
   have a2:seg (qs.set j q) (j+1) p=seg qs (j+1) p:=by simp only[seg];rw[List.drop_set_of_lt (by omega)]
   rw[a1,a2]
  have h1:=h.sum
  rw[take_step (by omega)] at h1
  have h2:=(h.sect hn hj hl hw).2
  have h3:=Nat.div_add_mod (val (seg us j (n+1))) V
  rw[←hq] at h3
  rw[hR,htake,e1]
  generalize val (seg us j (n+1))%V=R at*
  generalize val (seg us j (n+1))=D at*
  generalize val (seg us (j+1) (n-1))+B^(n-1)*ujn=S at*
  generalize val (seg qs (j+1) (m-(j+1)))=T at*
  generalize val (us.take j)=A at*
  generalize wat us j=u at*
  rw[Nat.pow_succ] at h1
  generalize B^j=p at*
  generalize B=b at*
  subst h2
  clear hr hs hR hq hb hz htake
  have e4:p*(V*q+R)=p*(u+b*S):=by rw[h3]
  rw[←h1]
  grind -mbtc
theorem DL.skip {n m V U0 ujn:Nat} {us qs:List Nat} (h:DL n m V U0 (m+1) ujn us qs) (hn:2≤n) (hl:m+n≤us.length) (hw:WL us) (hs:val (seg us m n)<V):DL n m V U0 m (wat us (m+n-1)) us qs:=by
 have hu:=h.last rfl
 subst hu
 have f1:m<us.length:=by omega
 have f2:m-(m+1)=0:=by omega
 have a1:¬m=m+1:=by omega
 have a2:∀i,m+n≤i→¬i<m+n:=fun i h1 h2=>by omega
 have f3:0<n:=by omega
 have e1:val (seg us m n)=wat us m+B*val (seg us (m+1) (n-1)):=by
  obtain⟨p,rfl⟩:∃p,n=p+1:=⟨n-1,by omega⟩
  rw[seg_cons' (by omega),val_cons,Nat.add_sub_cancel]
 have e:=seg_last (us:=us) (o:=m) (n:=n) f3 hl
 refine⟨by rw[←e];exact hs,wat_lt hw _,fun _=>rfl,fun e=>absurd e a1,fun i h1 h2=>absurd h2 (a2 i h1),?_⟩
 have h1:=h.sum
 rw[take_step f1,f2,seg_zero,val_nil,Nat.mul_zero,Nat.mul_zero,Nat.add_zero,Nat.mul_zero,Nat.add_zero (val (seg us (m+1) (n-1))),Nat.add_zero,Nat.pow_succ] at h1
 rw[←e,Nat.sub_self,seg_zero,val_nil,e1,Nat.mul_zero,Nat.mul_zero,Nat.add_zero,←h1,Nat.mul_add,Nat.mul_assoc,Nat.add_assoc]
theorem DL.fin {n m V U0 ujn:Nat} {us qs:List Nat} (h:DL n m V U0 0 ujn us qs) (hn:2≤n) (hl:m+n≤us.length):val (us.take (m+n))=U0%V∧val (qs.take m)=U0/V:=by
 have h1:=h.sum
 rw[Nat.pow_zero,Nat.one_mul,Nat.one_mul,List.take_zero,val_nil,Nat.zero_add,Nat.sub_zero,seg_all qs] at h1
 have e:=seg_last (us:=us) (o:=0) (n:=n) (by omega) (by omega)
 have ht:=h.top (by omega)
 rw[ht] at e
 have hz:∀p,p≤m→val (us.take (n+p))=val (seg us 0 n):=by
  intro p
  induction p with
  |zero=>intro _;rw[seg_all];rfl
  |succ p ih=>
   intro hp
   rw[←Nat.add_assoc,take_step (by omega),ih (by omega),h.zero (n+p) (by omega) (by omega)];simp
 have h3:=hz m (Nat.le_refl _)
 rw[Nat.add_comm n m] at h3
 have hsm:=h.small
 rw[←e] at h1 hsm
 rw[←h3] at h1 hsm
 have:=(Nat.div_mod_unique (a:=U0) (b:=V) (c:=val (us.take (m+n))) (d:=val (qs.take m)) (by omega)).2 ⟨h1,hsm⟩
 exact⟨this.2.symm,this.1.symm⟩
end Go.Proofs.YtcpjclakdpjjfaaGreatDoor
namespace Go.Proofs.YtcpjclakdpjjfaaGreatDoor
open Go.RowKit Wd
theorem seg_spl_apart {ws rs:List Nat} {o ox k:Nat} (hl:o+rs.length≤ws.length) (hd:ox+k≤o∨o+rs.length≤ox):seg (spl ws o rs) ox k=seg ws ox k:=by
 rcases hd with h|h
 ·simp only[seg,spl]
  rw[List.append_assoc,List.drop_append_of_le_length (by simp;omega),List.take_append_of_le_length (by simp;omega),List.drop_take,List.take_take]
  congr 1;omega
 ·obtain⟨p,rfl⟩:∃p,ox=o+rs.length+p:=⟨ox-(o+rs.length),by omega⟩
  have e1:(ws.take o++rs).length=o+rs.length:=by simp;omega
  simp only[seg,spl]
  rw[←List.drop_drop,List.drop_left' e1,List.drop_drop]
theorem VecPost.keep {w w1:World} {b o n bx ox k:Nat} {ws xs rs:List Nat} (h:VecPost w w1 b o n ws rs) (hb:Blk w b ws) (hl:o+n≤ws.length) (hx:Blk w bx xs) (hd:bx=b→ox+k≤o∨o+n≤ox):
 ∃xs',Blk w1 bx xs'∧xs'.length=xs.length∧seg xs' ox k=seg xs ox k:=by
 by_cases e:bx=b
 ·subst e
  obtain rfl:=hx.unique hb
  exact⟨_,h.blk,spl_length (by rw[h.len];exact hl),seg_spl_apart (by rw[h.len];exact hl) (by rw[h.len];exact hd rfl)⟩
 ·exact⟨xs,hx.mod h.mod (by simpa using e),rfl,rfl⟩
theorem Stk.vec {w w1:World} {b o n s l r:Nat} {T:List Nat} {ws rs:List Nat} (h:Stk w s l r T) (hv:VecPost w w1 b o n ws rs) (hb:Blk w b ws) (hl:o+n≤ws.length):Stk w1 s l r T:=by
 rcases h with ⟨h1,h2,h3,h4⟩|⟨i,us,h1,h2,h3,h4,h5⟩
 ·exact .inl ⟨h1.mod hv.mod (by simpa using h1.ne_blk hb (by decide)),h2,h3,h4⟩
 ·have n1:=h1.ne_blk hb (by decide)
  have n2:=h2.ne_blk hb (by decide)
  obtain⟨us',k1,k2,_⟩:=hv.keep (ox:=0) (k:=0) hb hl h3 (fun _=>.inl (Nat.zero_le _))
  exact .inr ⟨i,us',h1.mod hv.mod (by simpa using n1),by rw[k2];exact h2.mod hv.mod (by simpa using n2),k1,by rw[k2];exact h4,h5⟩
structure Off (us us':List Nat) (j n R:Nat):Prop where
 len:us'.length=us.length
 take:us'.take j=us.take j
 low:val (seg us' j n)=R
 high:wat us' (j+n)=0
 rest:∀i,j+n<i→wat us' i=wat us i
theorem top_zero {rs:List Nat} {n:Nat} (hl:rs.length=n+1) (hR:val rs<B^n):val (rs.take n)=val rs∧wat rs n=0:=by
 have h:=take_step (us:=rs) (j:=n) (by omega)
 rw[←hl,List.take_length] at h
 have h0:wat rs n=0:=by
  rcases Nat.eq_zero_or_pos (wat rs n) with e|e
  ·exact e
  ·have:B^n*1≤B^n*wat rs n:=Nat.mul_le_mul_left _ e
   rw[Nat.mul_one] at this
   generalize B^n=p at*
   omega
 rw[h0,Nat.mul_zero,Nat.add_zero] at h
 exact⟨h.symm,h0⟩
theorem wat_spl_in {zs:List Nat} {o:Nat} {rs:List Nat} {i:Nat} (hi:i<rs.length) (hz:o≤zs.length):wat (spl zs o rs) (o+i)=wat rs i:=by
 simp only[wat,spl,List.getD_eq_getElem?_getD]
 rw[List.append_assoc,List.getElem?_append_right (by simp;omega),List.getElem?_append_left (by simp;omega)]
 congr 2;simp;omega
theorem seg_spl_head {zs:List Nat} {o n:Nat} {rs:List Nat} (hn:n≤rs.length) (hz:o≤zs.length):seg (spl zs o rs) o n=rs.take n:=by
 simp only[seg,spl,List.append_assoc]
 rw[List.drop_left' (by simp;omega),List.take_append_of_le_length hn]
theorem take_spl {zs:List Nat} {o:Nat} {rs:List Nat} (hz:o≤zs.length):(spl zs o rs).take o=zs.take o:=by
 simp only[spl,List.append_assoc]
 rw[List.take_left' (by simp;omega)]
theorem Off.exact {us rs:List Nat} {j n R:Nat} (hl:rs.length=n+1) (hu:j+n+1≤us.length) (hv:val rs=R) (hR:R<B^n):Off us (spl us j rs) j n R:=by
 obtain⟨h1,h2⟩:=top_zero hl (by rw[hv];exact hR)
 clear hR
 refine⟨spl_length (by omega),take_spl (by omega),?_,?_,fun i hi=>wat_spl_ge (by omega) (by omega)⟩
 ·rw[seg_spl_head (by omega) (by omega),h1,hv]
 ·rw[wat_spl_in (by omega) (by omega)];exact h2
theorem back_law {a b c p q t V R:Nat} (h1:a+p*t+V=R+p*q) (h2:b+p*c=a+V) (hR:R<p) (hb:b<p) (hq:0<p):t+c=q∧b=R:=by
 have e:b+p*(t+c)=R+p*q:=by rw[Nat.mul_add];omega
 have k1:=congrArg (· /p) e
 have k2:=congrArg (· %p) e
 simp only[Nat.add_mul_div_left _ _ hq,Nat.add_mul_mod_self_left,Nat.div_eq_of_lt hR,Nat.div_eq_of_lt hb,Nat.mod_eq_of_lt hR,Nat.mod_eq_of_lt hb,Nat.zero_add] at k1 k2
 exact⟨k1,k2⟩
theorem Off.back {us rs rs2:List Nat} {j n c2 V R:Nat} (hl:rs.length=n+1) (hu:j+n+1≤us.length) (hl2:rs2.length=n) (hw2:WL rs2) (hv:val rs+V=R+B^(n+1))
 (hv2:val rs2+B^n*c2=val (seg (spl us j rs) j n)+V) (hR:R<B^n):
 wat (spl (spl us j rs) j rs2) (j+n)+c2=B∧Off us ((spl (spl us j rs) j rs2).set (j+n) 0) j n R:=by
 have hb:=val_lt hw2
 rw[hl2] at hb
 have ht:wat (spl (spl us j rs) j rs2) (j+n)=wat rs n:=by
  have e1:(spl us j rs).length=us.length:=spl_length (by rw[hl];exact hu)
  have f1:j+rs2.length≤j+n:=by rw[hl2];exact Nat.le_refl _
  have f2:j+rs2.length≤(spl us j rs).length:=by rw[hl2,e1];exact Nat.le_trans (Nat.le_succ _) hu
  rw[wat_spl_ge f1 f2,wat_spl_in (by rw[hl];exact Nat.lt_succ_self n) (Nat.le_trans (Nat.le_add_right j (n+1)) hu)]
 have e2:val rs=val (rs.take n)+B^n*wat rs n:=by
  have:=take_step (us:=rs) (j:=n) (by rw[hl];exact Nat.lt_succ_self n)
  rwa [←hl,List.take_length] at this
 rw[seg_spl_head (by rw[hl];exact Nat.le_succ n) (Nat.le_trans (Nat.le_add_right j (n+1)) hu)] at hv2
 rw[e2,Nat.pow_succ] at hv
 obtain⟨k1,k2⟩:=back_law hv hv2 hR hb (Nat.pow_pos B_pos)
 clear hv hv2 hR hb e2
 have e1:(spl us j rs).length=us.length:=spl_length (by omega)
 have e3:(spl (spl us j rs) j rs2).length=us.length:=by rw[spl_length (by rw[hl2,e1];omega),e1]
 refine⟨by rw[ht];exact k1,⟨by rw[List.length_set];exact e3,?_,?_,?_,fun i hi=>?_⟩⟩
 ·rw[List.take_set_of_le (by omega),take_spl (by rw[e1];omega),take_spl (by omega)]
 ·rw[←k2]
  have:seg ((spl (spl us j rs) j rs2).set (j+n) 0) j n=seg (spl (spl us j rs) j rs2) j n:=by
   simp only[seg]
   rw[List.drop_set,if_neg (by omega),List.take_set_of_le (by omega)]
  rw[this,seg_spl_head (by omega) (by rw[e1];omega),←hl2,List.take_length]
 ·rw[wat_eq (by rw[List.length_set];omega)];simp
 ·have:wat ((spl (spl us j rs) j rs2).set (j+n) 0) i=wat (spl (spl us j rs) j rs2) i:=by
   simp only[wat,List.getD_eq_getElem?_getD]
   rw[List.getElem?_set_ne (by omega)]
  rw[this,wat_spl_ge (by omega) (by omega),wat_spl_ge (by omega) (by omega)]
end Go.Proofs.YtcpjclakdpjjfaaGreatDoor
