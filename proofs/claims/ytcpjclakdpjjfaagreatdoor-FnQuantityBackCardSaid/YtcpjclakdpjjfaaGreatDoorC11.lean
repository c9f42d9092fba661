/- Long division, the frame (bigall/natdiv. -/
import Derived.Test.YtcpjclakdpjjfaaGreatDoorC08
import Derived.Test.YtcpjclakdpjjfaaGreatDoorC10
import Derived.StillTailTactics
import Derived.Deep.RegionHeld3
import Derived.Deep.RegionLaw
set_option maxHeartbeats 1600000
set_option maxRecDepth 10000
namespace Go.Proofs.YtcpjclakdpjjfaaGreatDoor
open Go.RowKit Wd
structure QRes (w:World) (z z2:Value) (S:List Nat) (q r:Nat) (v v2:Value) (w':World):Prop where
 q:Nv w' v q
 r:Nv w' v2 r
 mod:Mod (sb z++sb z2++S) w w'
 ownq:∀k,k∈sb v→k∈sb z∨w.heap.size≤k
 ownr:∀k,k∈sb v2→k∈sb z2∨w.heap.size≤k
 apart:∀k,k∈sb v→k∉sb v2
def QRet' (w:World) (z z2:Value) (S:List Nat) (q r:Nat) (e:Ending) (w':World):Prop:=∃v v2,e=.returned (.tuple #[v,v2])∧QRes w z z2 S q r v v2 w'
def DLRet (w:World) (z z2:Value) (s q r:Nat) (e:Ending) (w':World):Prop:=
 ∃v v2 r' T',e=.returned (.tuple #[v,v2])∧QRes w z z2 [s] q r v v2 w'∧Stk w' s 0 r' T'∧(∀k,k∈T'→k∈[s]∨w.heap.size≤k)∧∀k,k∈T'→k∉sb v∧k∉sb v2
structure DS (w1 wx:World) (bu bv ov n LU s l r sf X Y:Nat) (T:List Nat) (lu:Nat):Prop where
 mod:Mod [bu,bv] w1 wx
 u:∃us,Blk wx bu us∧us.length=lu∧val (us.take (LU+1))=X*2^sf∧∃vs,Blk wx bv vs∧ov+n≤vs.length∧val (seg vs ov n)=Y*2^sf∧B≤2*wat vs (ov+n-1)∧wat us LU<wat vs (ov+n-1)
 stk:Stk wx s l r T
theorem norm_abs {Y yl yt p t c v b h d:Nat} (hY:Y=yl+p*yt) (hyl:yl<p) (h1:yt*t<b) (hd:b=d*t) (ht:0<t) (h2:h≤yt*t) (hv:v+p*b*c=Y*t):c=0∧v=Y*t∧h*p≤v:=by
 have h4:(yt+1)*t≤b:=by
  rw[hd] at h1 ⊢
  exact Nat.mul_le_mul_right _ (Nat.lt_of_mul_lt_mul_right h1)
 have h5:Y*t<p*b:=by
  have k1:Y+1≤p*(yt+1):=by rw[hY,Nat.mul_add];omega
  have k2:(Y+1)*t≤p*(yt+1)*t:=Nat.mul_le_mul_right _ k1
  have k3:p*((yt+1)*t)≤p*b:=Nat.mul_le_mul_left _ h4
  rw[Nat.add_mul] at k2
  rw[Nat.mul_assoc] at k2
  omega
 have hc:c=0:=by
  rcases Nat.eq_zero_or_pos c with h|h
  ·exact h
  ·have:p*b*1≤p*b*c:=Nat.mul_le_mul_left _ h
   omega
 rw[hc,Nat.mul_zero,Nat.add_zero] at hv
 refine⟨hc,hv,?_⟩
 have k:h*p≤yt*t*p:=Nat.mul_le_mul_right _ h2
 have k2:yt*t*p≤Y*t:=by
  have:p*yt≤Y:=by omega
  have:=Nat.mul_le_mul_right t this
  rw[Nat.mul_right_comm,Nat.mul_comm yt p];exact this
 omega
theorem norm_shift {Y yl yt p sf c v:Nat} (hY:Y=yl+p*yt) (hyl:yl<p) (hn:NlzOk yt sf) (hv:v+p*B*c=Y*2^sf):c=0∧v=Y*2^sf∧9223372036854775808*p≤v:=by
 obtain⟨h1,h2,h3⟩:=hn
 have hB:B=2^(64-sf)*2^sf:=by
  rw[←Nat.pow_add,show 64-sf+sf=64 by omega,B_eq]
 have hb2:yt*2^sf<B:=by rw[B_eq];exact h3
 exact norm_abs hY hyl hb2 hB (Nat.pow_pos (by decide)) h2 hv
theorem Blk.ne_i64 {w:World} {b g:Nat} {ws:List Nat} {x:Int} (h:Blk w b ws) (c:w.cell? ⟨g,0,none⟩=some (.int .i64 x)):g≠b:=by
 rintro rfl
 rcases Nat.eq_zero_or_pos ws.length with h0|h0
 ·have:ws=[]:=List.length_eq_zero_iff.1 h0
  subst this
  simp[World.cell?,h.heap,wc] at c
 ·rw[h.cell h0] at c;simp at c
theorem One.ne_i64 {w:World} {b g:Nat} {t:TypeId} {v:Value} {x:Int} (h:One w b t v) (hv:∀y,v≠.int .i64 y) (c:w.cell? ⟨g,0,none⟩=some (.int .i64 x)):g≠b:=by
 rintro rfl
 rw[h.cell] at c
 exact hv _ (Option.some.inj c)
theorem top_big {rs:List Nat} {n h:Nat} (hl:rs.length=n) (h0:0<n) (hw:WL rs) (hv:h*B^(n-1)≤val rs):h≤wat rs (n-1):=by
 have e:=take_step (us:=rs) (j:=n-1) (by omega)
 rw[show n-1+1=rs.length by omega,List.take_length] at e
 have k:=val_lt (WL_take hw (n-1))
 rw[List.length_take,Nat.min_eq_left (by omega)] at k
 rw[e] at hv
 clear e
 generalize B^(n-1)=p at*
 have:p*h<p*(wat rs (n-1)+1):=by rw[Nat.mul_add,Nat.mul_comm p h];omega
 have:=Nat.lt_of_mul_lt_mul_left this
 omega
theorem shift_top {ys rs:List Nat} {n sf c yt:Nat} (h0:0<n) (hyl:n≤ys.length) (hyw:WL ys) (hyt:wat ys (n-1)=yt) (hsf:NlzOk yt sf) (hl:rs.length=n) (hw:WL rs) (hval:val rs+B^n*c=val (seg ys 0 n)*2^sf):
 val rs=val (ys.take n)*2^sf∧9223372036854775808≤wat rs (n-1):=by
 have hY:=take_step (us:=ys) (j:=n-1) (by omega)
 have hp:=val_lt (WL_take hyw (n-1))
 rw[List.length_take,Nat.min_eq_left (by omega)] at hp
 have e:n-1+1=n:=by omega
 rw[hyt,e] at hY
 have e2:B^n=B^(n-1)*B:=by rw[←Nat.pow_succ];congr 1;omega
 rw[seg_all,e2] at hval
 obtain⟨_,h1,h2⟩:=norm_shift hY hp hsf hval
 exact⟨h1,top_big hl h0 hw h2⟩
theorem divLarge_calls (w:World) (z z2:Value) (s bx bY LU n:Nat) (xs ys:List Nat) (he:Env w) (hz:Zs w z) (hz2:Zs w z2) (hs:One w s 302 (.pointer none)) (hx:Blk w bx xs) (hy:Blk w bY ys)
 (hn2:2≤n) (hn40:n<40) (hLU:n≤LU) (hLU2:LU≤64) (hxl:LU≤xs.length) (hyl:n≤ys.length) (hny:wat ys (n-1)≠0) (hbx:bx∉sb z2):
 Calls Tryz.prog 240 #[z,.pointer (some ⟨s,0,none⟩),z2,.slice (some ⟨bx,0,none⟩) LU xs.length,.slice (some ⟨bY,0,none⟩) n ys.length] w
  (DLRet w z z2 s (val (xs.take LU)/val (ys.take n)) (val (xs.take LU)%val (ys.take n))):=by
 have hst:Stk w s 0 s [s]:=.inl ⟨hs,rfl,rfl,rfl⟩
 have hsv:=save_calls w s 0 s [s] hst
 have hnat:=snat_calls w s 0 s n [s] hst (by omega) (by omega) (by omega)
 have ry:=hy.cell (i:=n-1) (by omega)
 have hyB:=wat_lt hy.wl (n-1)
 have hnlz:=nlz_calls (wat ys (n-1)) w hyB hny
 have HN:=Lh hnat
 have HS:=Lh hsv
 have HNZ:=Lh hnlz
 have HST:=Lh hst
 have e1:LU-n+n=LU:=by omega
 clear hnat hsv hnlz hst
 generalize hyt:wat ys (n-1)=yt at*
 have HYT:=Lh hyt
 clear hyt
 have k1:((n-1:Nat):Int)=(n:Int)-1:=by omega
 go_enter_defers Tryz.func240,Tryz.ntmps240
 go_wp2_with fail
 refine HS.out.mono ?_
 rintro e w' ⟨rfl,rfl⟩
 go_wp2_with fail
 refine HNZ.out.mono ?_
 rintro e w' ⟨sf,rfl,rfl,hsf⟩
 have HSF:=Lh hsf
 clear hsf
 go_wp2_with fail
 refine HN.out.mono ?_
 rintro e w1 ⟨bv,ov,cv,rfl,hres⟩
 obtain⟨vs0,hv1,hv2,hv3,hv4⟩:=hres.row
 obtain⟨l',r',T',hstk,hl1,hl2,hT',hbr⟩:=hres.stk
 have hsx:s≠bx:=hs.ne_blk hx (by decide)
 have hsy:s≠bY:=hs.ne_blk hy (by decide)
 have hx1:=hx.mod hres.mod (by simpa using hsx.symm)
 have hy1:=hy.mod hres.mod (by simpa using hsy.symm)
 have sz2:s∉sb z2:=by
  rcases hz2 with rfl|⟨b,l,us,rfl,h2,_⟩
  ·simp[sb]
  ·simp[sb];exact hs.ne_blk h2 (by decide)
 have sz:s∉sb z:=by
  rcases hz with rfl|⟨b,l,us,rfl,h2,_⟩
  ·simp[sb]
  ·simp[sb];exact hs.ne_blk h2 (by decide)
 have hz2':=hz2.mod hres.mod (fun k hk h=>sz2 (by rw[←List.mem_singleton.1 h];exact hk))
 have hmk:=make_calls z2 (LU+1) w1 hz2' (by omega) (by omega)
 have e2:IntKind.i64.wrap ((LU:Int)+1)=((LU+1:Nat):Int):=IntWalk.i64_in _ (by omega)
 have hbvn:w.heap.size≤bv:=hres.own.elim id (fun h=>by
  have:=(HST.out.lt s (by simp))
  exact absurd (h.1▸hv1) (fun hb=>by
   obtain⟨l2,r2,T2,h3,_⟩:=hres.stk
   rcases h3 with ⟨h4,_⟩|⟨_,_,h4,_⟩
   ·exact h4.ne_blk hb (by decide) rfl
   ·exact h4.ne_blk hb (by decide) rfl))
 have HMK:=Lh hmk
 have H1:=Lh (Aj hres.mod (Aj hv1 (Aj hv2 (Aj hv3 (Aj hv4 (Aj hstk (Aj hl1 (Aj hl2 (Aj hT' (Aj hbr (Aj hx1 (Aj hy1 hbvn))))))))))))
 have hcv:n≤cv:=hv3
 clear hres hv1 hv2 hv3 hv4 hstk hl1 hl2 hT' hbr hx1 hy1 hmk ry HN HS HNZ hbvn
 go_wp2_with fail
 rw[show (LU:Int)+1=((LU+1:Nat):Int) from rfl]
 refine HMK.out.mono ?_
 rintro e w2 ⟨bu,us0,rfl,hu⟩
 obtain⟨hm1,hvb,hvl,hvc,hvk,hstk,hl1,hl2,hT',hbr,hx1,hy1,hbvn⟩:=H1.out
 have hbub:bu∈sb z2∨w1.heap.size≤bu:=hu.own
 have nuv:bu≠bv:=fun h=>by
  have:=hvb.lt
  rcases hbub with h'|h'
  ·have:=hz2.lt _ h';omega
  ·omega
 have nux:bu≠bx:=fun h=>hbub.elim (fun h'=>hbx (h▸h')) (fun h'=>by have:=hx1.lt;omega)
 have nvx:bv≠bx:=fun h=>by have:=hx.lt;omega
 have nvy:bv≠bY:=fun h=>by have:=hy.lt;omega
 have hx2:=hx1.mod hu.mod (by simp)
 have hy2:=hy1.mod hu.mod (by simp)
 have hv2:=hvb.mod hu.mod (by simp)
 have hub:=hu.blk
 have hule:=hu.le
 have hst2:=hstk.mod hu.mod (by simp)
 have HU:=Lh hu
 have HN:=Lh (Aj nuv (Aj nux (Aj nvx nvy)))
 clear hm1 hvb hvl hvc hvk hstk hl1 hl2 hT' hbr hx1 hy1 hbvn hbub hu nuv nux nvx nvy
 go_upto_if 40 with fail
 go_cut [] from 40 to 68 (fun wx=>DS w2 wx bu bv ov n LU s l' r' sf (val (xs.take LU)) (val (ys.take n)) T' us0.length)
 case first=>
  have hlv:ov+n≤vs0.length:=H1.out.2.2.1
  rcases Nat.eq_zero_or_pos sf with h0|h0
  ·subst h0
   have t1:(((0:Nat):Int)==0)=true:=by decide
   obtain⟨w3,hr3,hm3,hb3⟩:=copy_words w2 118 118 bv ov n cv bY 0 n ys.length n vs0 ys Tryz.underlying118 hv2 hy2 (by simp) hlv (by omega)
   have hx3:=hx2.mod hm3 (by simpa using HN.out.2.2.1.symm)
   have hu3:=hub.mod hm3 (by simpa using HN.out.1)
   obtain⟨w4,hr4,hm4,hb4⟩:=copy_words w3 118 118 bu 0 LU us0.length bx 0 LU xs.length LU us0 xs Tryz.underlying118 hu3 hx3 (by simp) (by omega) (by omega)
   have hv4:=hb3.mod hm4 (by simpa using HN.out.1.symm)
   have hl4:(spl us0 0 (seg xs 0 LU)).length=us0.length:=spl0_length (by rw[seg_length (by omega)];omega)
   have ru:=hb4.cell (i:=LU) (by rw[hl4];omega)
   have fu:=hb4.free LU
   have hsame:wat (spl vs0 ov (seg ys 0 n)) (ov+n-1)=yt:=by
    have:ov+n-1=ov+(n-1):=by omega
    rw[this,wat_spl_in (by rw[seg_length (by omega)];omega) (by omega),seg_all,←HYT.out]
    simp only[wat,List.getD_eq_getElem?_getD]
    rw[List.getElem?_take_of_lt (by omega)]
   have hB63:B≤2*yt:=by
    have:=HSF.out.2.1
    rw[Nat.pow_zero,Nat.mul_one] at this
    rw[B_eq];omega
   have hul:val (((spl us0 0 (seg xs 0 LU)).set LU 0).take (LU+1))=val (xs.take LU)*2^0:=by
    have e1:=seg_length (xs:=xs) (o:=0) (n:=LU) (by omega)
    have e2:=spl_take us0 (seg xs 0 LU)
    rw[e1] at e2
    have e3:wat ((spl us0 0 (seg xs 0 LU)).set LU 0) LU=0:=by rw[wat_eq (by rw[List.length_set,hl4];omega)];simp
    rw[take_step (by rw[List.length_set,hl4];omega),e3,List.take_set_of_le (Nat.le_refl _),e2,seg_all,Nat.pow_zero,Nat.mul_one,Nat.mul_zero,Nat.add_zero]
   have hsv:val (seg (spl vs0 ov (seg ys 0 n)) ov n)=val (ys.take n)*2^0:=by
    rw[seg_spl_head (by rw[seg_length (by omega)];exact Nat.le_refl _) (by omega),Nat.pow_zero,Nat.mul_one,seg_all]
    rw[List.take_take,Nat.min_self]
   have hvp3:VecPost w2 w3 bv ov n vs0 (seg ys 0 n):=⟨seg_length (by omega),WL_seg hy.wl _ _,hm3,hb3⟩
   have hvp4:VecPost w3 w4 bu 0 LU us0 (seg xs 0 LU):=⟨seg_length (by omega),WL_seg hx.wl _ _,hm4,hb4⟩
   have hst4:=(hst2.vec hvp3 hv2 hlv).vec hvp4 hu3 (by omega)
   have hfin:DS w2 (w4.setCell ⟨bu,LU,none⟩ (.int .u64 0)) bu bv ov n LU s l' r' 0 (val (xs.take LU)) (val (ys.take n)) T' us0.length:=by
    refine⟨((hm3.mono (by simp)).trans (hm4.mono (by simp))).setCell _ (.inl (by simp)),⟨_,hb4.set LU (x:=0) B_pos,by rw[List.length_set];exact hl4,hul,_,hv4.set_other HN.out.1 _,by rw[spl_length (by rw[seg_length (by omega)];exact hlv)];exact hlv,hsv,by rw[hsame];exact hB63,?_⟩,hst4.set hb4 (by rw[hl4];omega) B_pos⟩
    rw[hsame,wat_eq (by rw[List.length_set,hl4];omega)]
    simp only[List.getElem_set_self]
    have:=B_pos
    omega
   have HFIN:=Lh hfin
   clear hfin hst4 hvp3 hvp4 hsv hul hB63 hsame hl4 hv4 hb3 hb4 hm3 hm4 hu3 hx3
   generalize spl us0 0 (seg xs 0 LU)=us4 at*
   go_wp2_with fail
   go_meet
   case rel=>exact HFIN.out
  ·have t1:((sf:Int)==0)=false:=by simp;omega
   have hl1:=lshVU_calls bv ov cv bY 0 ys.length n sf vs0 ys w2 hv2 hy2 hlv (by omega) HN.out.2.2.2.symm (by omega) (by omega) h0 HSF.out.1
   have hl2:=fun w' (hu:Blk w' bu us0) (hx:Blk w' bx xs)=>lshVU_calls bu 0 us0.length bx 0 xs.length LU sf us0 xs w' hu hx (by omega) (by omega) HN.out.2.1.symm (by omega) (by omega) h0 HSF.out.1
   have HL1:=Lh hl1
   have HL2:=Lh hl2
   clear hl1 hl2
   go_wp2_with fail
   refine HL1.out.mono ?_
   rintro e w3 ⟨c,rs,rfl,hv,hc,hval⟩
   go_wp2_with fail
   refine(HL2.out _ (hub.mod hv.mod (by simpa using HN.out.1)) (hx2.mod hv.mod (by simpa using HN.out.2.2.1.symm))).mono ?_
   rintro e w4 ⟨c2,rs2,rfl,hv2',hc2,hval2⟩
   obtain⟨hV,htop⟩:=shift_top (by omega) hyl hy.wl HYT.out HSF.out hv.len hv.wl hval
   have hub3:=hub.mod hv.mod (by simpa using HN.out.1)
   have hc2B:c2<9223372036854775808:=Nat.lt_of_lt_of_le hc2 (Nat.pow_le_pow_right (by decide) (by have:=HSF.out.1;omega:sf≤63))
   have hB2:c2<B:=by rw[B_eq];omega
   have hnext:=hv2'.next (s:=c2) (by omega) hB2
   rw[Nat.zero_add] at hnext
   have hlu4:(spl us0 0 rs2).length=us0.length:=spl0_length (by rw[hv2'.len];omega)
   have hlu5:(spl us0 0 (rs2++[c2])).length=us0.length:=spl0_length (by rw[hnext.len];omega)
   have ru:=hv2'.blk.cell (i:=LU) (by rw[hlu4];omega)
   have fu:=hv2'.blk.free LU
   have hv4:=hv.blk.mod hnext.mod (by simpa using HN.out.1.symm)
   have hfin:DS w2 (w4.setCell ⟨bu,LU,none⟩ (.int .u64 (c2:Int))) bu bv ov n LU s l' r' sf (val (xs.take LU)) (val (ys.take n)) T' us0.length:=by
    have e1:wat (spl vs0 ov rs) (ov+n-1)=wat rs (n-1):=by
     rw[show ov+n-1=ov+(n-1) by omega]
     exact wat_spl_in (by rw[hv.len];omega) (by omega)
    have e2:(spl us0 0 (rs2++[c2])).take (LU+1)=rs2++[c2]:=by
     have:=spl_take us0 (rs2++[c2])
     rwa [hnext.len] at this
    have e3:wat (spl us0 0 (rs2++[c2])) LU=c2:=by
     have:=wat_spl_in (zs:=us0) (o:=0) (rs:=rs2++[c2]) (i:=LU) (by rw[hnext.len];omega) (Nat.zero_le _)
     rw[Nat.zero_add] at this
     rw[this]
     simp[wat,List.getD_eq_getElem?_getD,←hv2'.len]
    refine⟨(hv.mod.mono (by simp)).trans (hnext.mod.mono (by simp)),⟨_,hnext.blk,hlu5,?_,_,hv4,by rw[spl_length (by rw[hv.len];exact hlv)];exact hlv,?_,?_,?_⟩,(hst2.vec hv hv2 hlv).vec hnext hub3 (by omega)⟩
    ·rw[e2,val_snoc,hv2'.len,hval2,seg_all]
    ·have:=seg_spl (zs:=vs0) (o:=ov) (rs:=rs) (by rw[hv.len];exact hlv)
     rw[hv.len] at this
     rw[this];exact hV
    ·rw[e1,B_eq];omega
    ·rw[e1,e3];omega
   have HFIN:=Lh hfin
   clear hfin hnext hv hval hv2' hval2 hv4 hub3 hV htop hlu4 hlu5
   generalize spl us0 0 rs2=us4 at*
   go_wp2_with fail
   go_meet
   case rel=>exact HFIN.out
 case rest=>
  obtain⟨us,hus,hul,huv,vs,hvs,hvsl,hvsv,hvt,hut⟩:=hcut.u
  have hmod:=hcut.mod
  have hstk:=hcut.stk
  have g1:=H1.out.1
  have hbub:bu∈sb z2∨w1.heap.size≤bu:=HU.out.own
  have hbvn:=H1.out.2.2.2.2.2.2.2.2.2.2.2.2
  have hzc:Zs wc z:=by
   rcases hz with rfl|⟨b,l,ws,rfl,h2,h3⟩
   ·exact .inl rfl
   ·have nb:b≠s:=(hs.ne_blk h2 (by decide)).symm
    have b1:=(h2.mod g1 (by simpa using nb)).mod HU.out.mod (by simp)
    by_cases e:b=bu
    ·subst e
     obtain rfl:=b1.unique hub
     exact .inr ⟨b,l,us,by rw[hul],hus,by rw[hul];exact h3⟩
    ·have nv:b≠bv:=fun h=>by have:=h2.lt;omega
     exact .inr ⟨b,l,ws,rfl,b1.mod hmod (by simp[e,nv]),h3⟩
  have hzu:Zs wc (.slice (some ⟨bu,0,none⟩) (LU+1) us0.length):=.inr ⟨bu,LU+1,us,by rw[hul],hus,by rw[hul];exact hule⟩
  have hal:=alias_calls z _ wc hzc hzu
  have HAL:=Lh hal
  have hc16:wc.cell? ⟨16,0,none⟩=some (.int .i64 40):=by
   have c0:=he.g16
   have n1:=hs.ne_i64 (by simp) c0
   have c1:w1.cell? ⟨16,0,none⟩=some (.int .i64 40):=(g1.cell (by have:=he.big;simp;omega) (by simpa using n1)).trans c0
   have c2:w2.cell? ⟨16,0,none⟩=some (.int .i64 40):=(HU.out.mod.cell (by have:=he.big;have:=g1.size;simp;omega) (by simp)).trans c1
   have n2:=hub.ne_i64 c2
   have n3:=hv2.ne_i64 c2
   exact(hmod.cell (by have:=he.big;have:=g1.size;have:=HU.out.mod.size;simp;omega) (by simp[n2,n3])).trans c2
  have HC:=Lh (Aj hus (Aj hul (Aj huv (Aj hvs (Aj hvsl (Aj hvsv (Aj hvt (Aj hut (Aj hmod (Aj hstk (Aj g1 (Aj hbub hbvn))))))))))))
  clear hus hul huv hvs hvsl hvsv hvt hut hmod hstk g1 hbub hbvn hal hcut hx2 hy2 hv2 hub hst2
  generalize hq1:aliasB z (.slice (some ⟨bu,0,none⟩) (LU+1) us0.length)=ra at*
  have HQ1:=Lh hq1
  clear hq1
  go_wp2_with fail
  refine HAL.out.mono ?_
  rintro e w' ⟨rfl,k,rfl⟩
  go_upto_if 71 with fail
  go_cut [0] from 69 to 71 (fun t0 wx=>wx=wc.drewN k∧Zs wc t0∧(∀j,j∈sb t0→j∈sb z)∧bu∉sb t0)
  case first=>
   cases ra
   ·have h1:bu∉sb z:=by
     have h2:=HQ1.out
     rw[←HC.out.2.1] at h2
     exact alias_no hzc HC.out.1 (by rw[HC.out.2.1];omega) h2
    have H:=Lh h1
    clear h1
    go_wp2_with fail
    go_meet
    case rel=>exact⟨rfl,hzc,fun _ h=>h,H.out⟩
   ·go_wp2_with fail
    go_meet
    case rel=>exact⟨rfl,Zs.nil _,fun _ h=>by simp[sb] at h,by simp[sb]⟩
  case rest=>
   obtain⟨rfl,hz',hsub,hnu⟩:=hcut
   obtain⟨M,hM⟩:∃M,M+n=LU+1:=⟨LU+1-n,by omega⟩
   have hmake:=make_calls u0 M _ (hz'.drewN k) (by omega) (by omega)
   have em:(LU:Int)-n+1=(M:Int):=by omega
   have em2:IntKind.i64.wrap (M:Int)=(M:Int):=IntWalk.i64_in _ (by omega)
   have HSB:=Lh (Aj hsub hnu)
   have HMQ:=Lh hmake
   have HM:=Lh hM
   clear hmake hsub hnu hM
   go_wp2_with fail
   refine HMQ.out.mono ?_
   rintro e w5 ⟨bq,qs0,rfl,hq⟩
   obtain⟨hus,hul,huv,hvs,hvsl,hvsv,hvt,hut,hmod,hstk,g1,hbub,hbvn⟩:=HC.out
   obtain⟨nuv,nux,nvx,nvy⟩:=HN.out
   have md:=((Mod.refl [] wc).drewN k).trans hq.mod
   have hM:=HM.out
   have hu5:=hus.mod md (by simp)
   have hv5:=hvs.mod md (by simp)
   have hs5:=hstk.mod md (by simp)
   have c5:w5.cell? ⟨16,0,none⟩=some (.int .i64 40):=(md.cell (by have:=(hstk.lt s (by rcases hstk with ⟨_,_,_,h⟩|⟨_,_,_,_,_,_,h⟩<;>simp[h]));have:=he.big;have:=g1.size;have:=HU.out.mod.size;have:=hmod.size;simp;omega) (by simp)).trans hc16
   have t8:decide ((n:Int)<40)=true:=by simp;omega
   have hwc:w.heap.size≤wc.heap.size:=Nat.le_trans g1.size (Nat.le_trans HU.out.mod.size hmod.size)
   have hw1c:w1.heap.size≤wc.heap.size:=Nat.le_trans HU.out.mod.size hmod.size
   have hbq:bq∈sb z∨wc.heap.size≤bq:=hq.own.imp (HSB.out.1 bq) id
   have hT1:∀j,j∈T'→j<w1.heap.size:=H1.out.2.2.2.2.2.1.lt
   have hT2:=H1.out.2.2.2.2.2.2.2.2.1
   have notT:∀b,(b<w.heap.size∧b≠s)∨w1.heap.size≤b→b∉T':=fun b hb h=>by
    have h1:=hT1 _ h
    have h2:=hT2 _ h
    simp at h2
    rcases hb with ⟨h3,h4⟩|h3
    ·rcases h2 with h2|h2
     ·exact h4 h2
     ·omega
    ·omega
   have huT:bu∉T':=notT _ (hbub.imp (fun h=>⟨hz2.lt _ h,fun e=>sz2 (e▸h)⟩) id)
   have hqT:bq∉T':=notT _ (hbq.imp (fun h=>⟨hz.lt _ h,fun e=>sz (e▸h)⟩) (fun h=>by omega))
   have nuq:bu≠bq:=fun h=>hq.own.elim (fun h'=>HSB.out.2 (h▸h')) (fun h'=>by have:=hus.lt;simp at h';omega)
   have nqv:bq≠bv:=fun h=>by
    have h1:=hvs.lt
    rcases hbq with h'|h'
    ·have:=hz.lt _ h';omega
    ·omega
   have hdb:=divBasic_calls w5 bu us0.length bq qs0.length bv ov cv n M s l' r' T' us qs0 vs hu5 hq.blk hv5 hs5 hn2 (by omega) (by omega) (by have:=H1.out.2.2.2.2.2.2.2.1;omega) (by rw[hul];omega) hq.le hvsl (by omega) nuq nuv nqv huT hqT H1.out.2.2.2.2.2.2.2.2.2.1 hvt (by rw[show M+n-1=LU by omega];exact hut)
   rw[hM,huv,hvsv,hul] at hdb
   have HDB:=Lh hdb
   have HK:=Lh (Aj md (Aj hq (Aj hwc (Aj hw1c (Aj hbq (Aj huT (Aj hqT (Aj nuq nqv))))))))
   clear hdb hus hul huv hvs hvsl hvsv hvt hut hmod hstk g1 hbub hbvn nuv nux nvx nvy md hM hu5 hv5 hs5 hc16 hwc hw1c hbq hT1 hT2 notT huT hqT nuq nqv hq
   go_wp2_with fail
   refine HDB.out.mono ?_
   rintro e w6 ⟨us6,qs6,rfl,hm6,hu6,hul6,hq6,hql6,hur,hqv,r6,T6,hst6,hT6⟩
   have hnq:=norm_calls bq M qs0.length qs6 w6 hq6 (by rw[hql6];exact HK.out.2.1.le) HK.out.2.1.le (by omega)
   have HNQ:=Lh hnq
   have H6:=Lh (Aj hm6 (Aj hu6 (Aj hul6 (Aj hq6 (Aj hql6 (Aj hur (Aj hqv (Aj hst6 hT6))))))))
   clear hnq hm6 hu6 hul6 hq6 hql6 hur hqv hst6 hT6
   go_wp2_with fail
   refine HNQ.out.mono ?_
   rintro e w' ⟨rfl,rfl⟩
   go_upto_if 92 with fail
   go_cut [] from 91 to 96 (fun wx=>∃us7,Mod [bu] w6 wx∧Blk wx bu us7∧us7.length=us0.length∧val (us7.take (LU+1))=val (xs.take LU)%val (ys.take n))
   case first=>
    rcases Nat.eq_zero_or_pos sf with h0|h0
    ·subst h0
     have t1:(((0:Nat):Int) !=0)=false:=by decide
     have hur:=H6.out.2.2.2.2.2.1
     rw[HM.out,Nat.pow_zero,Nat.mul_one,Nat.mul_one] at hur
     have HR:=Lh hur
     clear hur
     go_wp2_with fail
     go_meet
     case rel=>exact⟨us6,Mod.refl _ _,H6.out.2.1,H6.out.2.2.1,HR.out⟩
    ·have t1:((sf:Int) !=0)=true:=by simp;omega
     have hl6:us6.length=us0.length:=H6.out.2.2.1
     have hr:=rshVU_calls bu 0 us0.length bu 0 us0.length (LU+1) sf us6 us6 _ H6.out.2.1 H6.out.2.1 (by omega) (by omega) (fun _=>Nat.le_refl _) (by omega) (by omega) h0 HSF.out.1
     have HRS:=Lh hr
     have HL6:=Lh hl6
     clear hr hl6
     go_wp2_with fail
     refine HRS.out.mono ?_
     rintro e w7 ⟨c7,rs,rfl,hv7,hval7⟩
     have hl7:(spl us6 0 rs).length=us0.length:=by rw[spl0_length (by rw[hv7.len,HL6.out];exact hule),HL6.out]
     have hfin:val ((spl us6 0 rs).take (LU+1))=val (xs.take LU)%val (ys.take n):=by
      have:=spl_take us6 rs
      rw[hv7.len] at this
      have hur:=H6.out.2.2.2.2.2.1
      rw[HM.out,Nat.mul_mod_mul_right] at hur
      rw[this,hval7,seg_all,hur,Nat.mul_div_cancel _ (Nat.pow_pos (by decide))]
     have HFIN:=Lh (Aj hv7.mod (Aj hv7.blk (Aj hl7 hfin)))
     clear hv7 hval7 hl7 hfin
     go_wp2_with fail
     go_meet
     case rel=>exact⟨_,HFIN.out.1,HFIN.out.2.1,HFIN.out.2.2.1,HFIN.out.2.2.2⟩
   case rest=>
    obtain⟨us7,hm7,hu7,hl7,hv7⟩:=hcut
    have hnr:=norm_calls bu (LU+1) us0.length us7 wc hu7 (by rw[hl7];exact hule) hule (by omega)
    have HNR:=Lh hnr
    have H7:=Lh (Aj hm7 (Aj hu7 (Aj hl7 hv7)))
    clear hnr hm7 hu7 hl7 hv7
    go_wp2_with fail
    refine HNR.out.mono ?_
    rintro e w' ⟨rfl,rfl⟩
    go_wp2_with fail
    obtain⟨hm6,hu6,hul6,hq6,hql6,hur,hqv,hst6,hT6⟩:=H6.out
    obtain⟨md,hq,hwc,hw1c,hbq,huT,hqT,nuq,nqv⟩:=HK.out
    obtain⟨_,_,_,_,_,_,_,_,hmod,_,g1,hbub,hbvn⟩:=HC.out
    obtain⟨hm7,hu7,hl7,hv7⟩:=H7.out
    have hT2:=H1.out.2.2.2.2.2.2.2.2.1
    have hsz:=md.size
    have g1s:=g1.size
    have notT6:∀b,b∉T'→b<w5.heap.size→b∉T6:=fun b h1 h2 h=>(hT6 _ h).elim h1 (fun h=>by omega)
    have bu5:bu<w5.heap.size:=by have:=HC.out.1.lt;have:=md.size;omega
    have hst7:=hst6.mod hm7 (by intro k hk h;rw[List.mem_singleton.1 h] at hk;exact notT6 bu huT bu5 hk)
    refine leaves_cons (f:=182) (args:=#[.pointer (some ⟨s,0,none⟩),.int .i64 (0:Int)]) (by simp) (by simp[go_sem]) ?_
    refine(restore_calls _ s l' r6 0 T6 hst7 (Nat.zero_le _) .returning).mono ?_
    rintro e u' w'' ⟨rfl,rfl,h1,h2⟩
    have okT':∀x,x∈T'→x∈sb z++sb z2++[s]∨w.heap.size≤x:=fun x hx=>(hT2 _ hx).imp (fun h=>by simp at h;simp[h]) id
    have okb:bu∈sb z++sb z2++[s]∨w.heap.size≤bu:=hbub.imp (fun h=>by simp[h]) (fun h=>by omega)
    have okq:bq∈sb z++sb z2++[s]∨w.heap.size≤bq:=hbq.imp (fun h=>by simp[h]) (fun h=>by omega)
    have m1:Mod (sb z++sb z2++[s]) w w1:=g1.mono (fun x hx=>.inl (by simp at hx;simp[hx]))
    have m2:=m1.step HU.out.mod (by simp)
    have m3:=m2.step hmod (fun x hx=>by simp at hx;rcases hx with rfl|rfl;exact okb;exact .inr hbvn)
    have m5:=m3.step md (by simp)
    have m6:=m5.step hm6 (fun x hx=>by simp only[List.mem_cons] at hx;rcases hx with rfl|rfl|hx;exact okb;exact okq;exact okT' _ hx)
    have m7:=m6.step hm7 (fun x hx=>by rw[List.mem_singleton.1 hx];exact okb)
    have m8:=m7.step h2 (fun x hx=>(hT6 _ hx).elim (okT' x) (fun h=>.inr (by omega)))
    have bq5:bq<w5.heap.size:=hq.blk.lt
    have q7:=(hq6.mod hm7 (by simpa using nuq.symm)).mod h2 (notT6 bq hqT bq5)
    have u7:=hu7.mod h2 (notT6 bu huT bu5)
    have nq:=nlen_val (ws:=qs6) (n:=M) (by rw[hql6];exact hq.le)
    have nu:=nlen_val (ws:=us7) (n:=LU+1) (by rw[hl7];exact hule)
    refine⟨_,results_tmp2 rfl _ _ _,_,_,r6,T6,rfl,?_,h1,fun k hk=>(hT6 _ hk).elim (hT2 k) (fun h=>.inr (by omega)),fun k hk=>⟨fun h=>notT6 bq hqT bq5 (by have e:k=bq:=List.mem_singleton.1 h;rw[←e];exact hk),fun h=>notT6 bu huT bu5 (by have e:k=bu:=List.mem_singleton.1 h;rw[←e];exact hk)⟩⟩
    refine⟨.inr ⟨bq,_,qs6,by rw[hql6]<;>rfl,q7,Nat.le_trans (nlen_le _ _) (by rw[hql6];exact hq.le),nq.2,?_⟩,.inr ⟨bu,_,us7,by rw[hl7]<;>rfl,u7,Nat.le_trans (nlen_le _ _) (by rw[hl7];exact hule),nu.2,nu.1.trans hv7⟩,m8,?_,?_,?_⟩
    ·rw[nq.1,hqv,Nat.mul_div_mul_right _ _ (Nat.pow_pos (by decide))]
    ·intro k hk;have e:k=bq:=List.mem_singleton.1 hk;rw[e];exact hbq.imp id (fun h=>by omega)
    ·intro k hk;have e:k=bu:=List.mem_singleton.1 hk;rw[e];exact hbub.imp id (fun h=>by omega)
    ·intro k hk h;rw[List.mem_singleton.1 hk] at h;exact nuq (List.mem_singleton.1 h).symm
end Go.Proofs.YtcpjclakdpjjfaaGreatDoor
namespace Go.Proofs.YtcpjclakdpjjfaaGreatDoor
open Go.RowKit Wd
theorem div_one (z z2 x:Value) (X bY:Nat) (ys:List Nat) (w:World) (hz:Zs w z) (hz2:Zs w z2) (hx:Nv w x X) (hXb:X<Big) (hy:Blk w bY ys) (hyl:1≤ys.length) (hy0:wat ys 0≠0) (hd:∀k,k∈sb z→k∉sb z2):
 Calls Tryz.prog 214 #[z,.pointer none,z2,x,.slice (some ⟨bY,0,none⟩) 1 ys.length] w (QRet' w z z2 [] (X/wat ys 0) (X%wat ys 0)):=by
 have ry:=hy.cell (i:=0) hyl
 have hyB:=wat_lt hy.wl 0
 have hdw:=divW_calls z x X (wat ys 0) w hz hx hXb hyB hy0
 generalize wat ys 0=y at*
 have HD:=Lh hdw
 clear hdw
 have t1:(((1:Nat):Int)==0)=false:=by decide
 have t2:(((1:Nat):Int)==1)=true:=by decide
 have hm:X%y<B:=Nat.lt_trans (Nat.mod_lt _ (by omega)) hyB
 obtain⟨r,hr⟩:∃r,r=X%y:=⟨_,rfl⟩
 have HR:=Lh hr
 rw[←hr] at hm
 go_enter Tryz.func214,Tryz.ntmps214
 go_wp2_with fail
 refine HD.out.mono ?_
 rintro e w1 ⟨v,rfl,hres⟩
 rw[←HR.out]
 have hz2':=hz2.mod hres.mod (fun k hk h=>hd k h hk)
 have hset:=setWord_calls z2 r w1 hz2' hm
 have HS:=Lh hset
 have HW:=Lh hres
 clear hset hres hr
 go_wp2_with fail
 refine HS.out.mono ?_
 rintro e w2 ⟨v2,rfl,hres2⟩
 have fin:QRes w z z2 [] (X/y) (X%y) v v2 w2:=by
  have h1:=HW.out
  have nd:∀k,k∈sb v→k∉sb z2:=fun k hk h=>(h1.own k hk).elim (fun h'=>hd k h' h) (fun h'=>by have:=hz2.lt k h;omega)
  refine⟨h1.nv.mod hres2.mod nd,HR.out▸hres2.nv,((h1.mod.mono (fun x hx=>.inl (by simp[hx]))).step hres2.mod (fun x hx=>.inl (by simp[hx]))),h1.own,fun k hk=>(hres2.own k hk).imp id (fun h=>Nat.le_trans h1.mod.size h),fun k hk h=>?_⟩
  rcases hres2.own k h with h'|h'
  ·exact nd k hk h'
  ·have:=h1.nv.zs.lt k hk;omega
 have FIN:=Lh fin
 clear fin
 go_wp2_with fail
 go_ret2
 exact⟨_,_,rfl,FIN.out⟩
theorem div_less (z z2 x:Value) (X Y bY l:Nat) (ys:List Nat) (w:World) (hz:Zs w z) (hz2:Zs w z2) (hx:Nv w x X) (hXb:X<Big) (hy:Nv w (.slice (some ⟨bY,0,none⟩) l ys.length) Y) (hYb:Y<Big) (hl:2≤l) (hd:∀k,k∈sb z→k∉sb z2) (hlt:X<Y):
 Calls Tryz.prog 214 #[z,.pointer none,z2,x,.slice (some ⟨bY,0,none⟩) l ys.length] w (QRet' w z z2 [] (X/Y) (X%Y)):=by
 have hc:=cmp_calls x _ X Y w hx hy hXb hYb
 rw[show cmpI X Y=-1 by simp[cmpI,hlt]] at hc
 have hs:=fun k=>set_calls z2 x X (w.drewN k) (hz2.drewN k) (hx.drewN k) hXb
 obtain⟨az,lz,cz,rfl,_⟩:=hz.slice
 have hr:=head_res hz
 have HC:=Lh hc
 have HS:=Lh hs
 have HR:=Lh hr
 have t1:((l:Int)==0)=false:=by simp;omega
 have t2:((l:Int)==1)=false:=by simp;omega
 clear hc hs hr hy
 go_enter Tryz.func214,Tryz.ntmps214
 go_wp2_with fail
 refine HC.out.mono ?_
 rintro e w1 ⟨rfl,k,rfl⟩
 go_wp2_with fail
 refine(HS.out k).mono ?_
 rintro e w2 ⟨v2,rfl,hres⟩
 have fin:QRes w (.slice az lz cz) z2 [] (X/Y) (X%Y) (.slice az 0 cz) v2 w2:=by
  have h1:=HR.out
  have nd:∀k,k∈sb (.slice az 0 cz)→k∉sb z2:=fun k hk h=>(h1.own k hk).elim (fun h'=>hd k h' h) (fun h'=>by have:=hz2.lt k h;omega)
  refine⟨?_,?_,((Mod.refl (sb (.slice az lz cz)++sb z2++[]) w).drewN k).step hres.mod (fun x hx=>.inl (by simp[hx])),h1.own,fun k hk=>(hres.own k hk),fun k hk h=>?_⟩
  ·rw[Nat.div_eq_of_lt hlt];exact(h1.nv.drewN k).mod hres.mod nd
  ·rw[Nat.mod_eq_of_lt hlt];exact hres.nv
  ·rcases hres.own k h with h'|h'
   ·exact nd k hk h'
   ·have:=h1.nv.zs.lt k hk;simp at h';omega
 have FIN:=Lh fin
 clear fin
 go_wp2_with fail
 go_ret2
 exact⟨_,_,rfl,FIN.out⟩
theorem div_more (z z2:Value) (bx m bY l:Nat) (xs ys:List Nat) (w:World) (he:Env w) (hz:Zs w z) (hz2:Zs w z2) (hx:Blk w bx xs) (hmx:m≤xs.length) (hnx:Nrm (xs.take m)) (hm64:m≤64)
 (hy:Blk w bY ys) (hly:l≤ys.length) (hny:Nrm (ys.take l)) (hl:2≤l) (hl40:l<40) (hbx:bx∉sb z2) (hlm:l≤m) (hXb:val (xs.take m)<Big) (hYb:val (ys.take l)<Big) (hle:val (ys.take l)≤val (xs.take m)):
 Calls Tryz.prog 214 #[z,.pointer none,z2,.slice (some ⟨bx,0,none⟩) m xs.length,.slice (some ⟨bY,0,none⟩) l ys.length] w (QRet' w z z2 [] (val (xs.take m)/val (ys.take l)) (val (xs.take m)%val (ys.take l))):=by
 have nx:Nv w (.slice (some ⟨bx,0,none⟩) m xs.length) (val (xs.take m)):=.inr ⟨bx,m,xs,rfl,hx,hmx,hnx,rfl⟩
 have ny:Nv w (.slice (some ⟨bY,0,none⟩) l ys.length) (val (ys.take l)):=.inr ⟨bY,l,ys,rfl,hy,hly,hny,rfl⟩
 have hc:=cmp_calls _ _ _ _ w nx ny hXb hYb
 obtain⟨ci,hci⟩:∃ci,ci=cmpI (val (xs.take m)) (val (ys.take l)):=⟨_,rfl⟩
 rw[←hci] at hc
 have t3:decide (ci<0)=false:=by
  rw[hci];unfold cmpI
  rw[if_neg (by omega)]
  split<;>decide
 have htop:wat ys (l-1)≠0:=by
  obtain⟨p,rfl⟩:∃p,l=p+1:=⟨l-1,by omega⟩
  rw[List.take_succ_eq_append_getElem (by omega)] at hny
  rw[Nat.add_sub_cancel,wat_eq (by omega)]
  exact Nrm_snoc.1 hny
 have t1:((l:Int)==0)=false:=by simp;omega
 have t2:((l:Int)==1)=false:=by simp;omega
 have HC:=Lh hc
 clear hc hci nx ny
 go_enter_defers Tryz.func214,Tryz.ntmps214
 go_wp2_with fail
 refine HC.out.mono ?_
 rintro e w1 ⟨rfl,k,rfl⟩
 go_wp2_with fail
 refine(getStack_calls _).mono ?_
 rintro e w2 ⟨s,rfl,hst,hm2,hsz⟩
 have md:=((Mod.refl [] w).drewN k).trans hm2
 have hs:One w2 s 302 (.pointer none):=by
  rcases hst with ⟨h,_⟩|⟨i,ws,_,_,_,_,h⟩
  ·exact h
  ·simp at h
 have hdl:=divLarge_calls w2 z z2 s bx bY m l xs ys (he.mod md (by simp)) (hz.mod md (by simp)) (hz2.mod md (by simp)) hs (hx.mod md (by simp)) (hy.mod md (by simp)) hl hl40 hlm hm64 hmx hly htop hbx
 have HDL:=Lh hdl
 have HM:=Lh (Aj md hsz)
 clear hdl hs hst hm2 md htop
 go_wp2_with fail
 refine HDL.out.mono ?_
 rintro e w3 ⟨v,v2,r',T',rfl,hres,hst,hT',hap⟩
 have H3:=Lh (Aj hres (Aj hst (Aj hT' hap)))
 clear hres hst hT' hap
 go_wp2_with fail
 obtain⟨hres,hst,hT',hap⟩:=H3.out
 obtain⟨md,hsz⟩:=HM.out
 refine leaves_cons (f:=177) (args:=#[.pointer (some ⟨s,0,none⟩)]) (by simp) (by simp[go_sem]) ?_
 refine(free_calls w3 s 0 r' T' hst .returning).mono ?_
 rintro e u' w4 ⟨rfl,rfl,hm4⟩
 have hsz':w.heap.size≤s:=by simpa using hsz
 have w2s:=md.size
 refine⟨_,results_tmp2 rfl _ _ _,v,v2,rfl,hres.q.mod hm4 (fun k hk h=>(hap k h).1 hk),hres.r.mod hm4 (fun k hk h=>(hap k h).2 hk),?_,fun k hk=>(hres.ownq k hk).imp id (fun h=>by omega),fun k hk=>(hres.ownr k hk).imp id (fun h=>by omega),hres.apart⟩
 have m1:Mod (sb z++sb z2++[]) w w2:=md.mono (by simp)
 have m3:=m1.step hres.mod (fun x hx=>by
  simp only[List.mem_append,List.mem_singleton] at hx
  rcases hx with (hx|hx)|hx
  ·exact .inl (by simp[hx])
  ·exact .inl (by simp[hx])
  ·exact .inr (by omega))
 exact m3.step hm4 (fun x hx=>.inr ((hT' _ hx).elim (fun h=>by have e:x=s:=List.mem_singleton.1 h;omega) (fun h=>by omega)))
theorem div_calls (z z2 x y:Value) (X Y:Nat) (w:World) (he:Env w) (hz:Zs w z) (hz2:Zs w z2) (hx:Nv w x X) (hy:Nv w y Y) (hXb:X<Big) (hYb:Y<B^39) (hY0:0<Y)
 (hd:∀k,k∈sb z→k∉sb z2) (hdx:∀k,k∈sb x→k∉sb z2):
 Calls Tryz.prog 214 #[z,.pointer none,z2,x,y] w (QRet' w z z2 [] (X/Y) (X%Y)):=by
 have hYB:Y<Big:=Nat.lt_trans hYb (by rw[Big_eq];exact Nat.pow_lt_pow_right B_one (by omega))
 have hyy:=hy
 have hxx:=hx
 rcases nv_form hy hYB with ⟨a,c,rfl,h⟩|⟨b',l',ws',rfl,k1,k2,k3,k4,k5,k6,k7⟩
 ·omega
 ·have hl':l'≤39:=by
   have:=length_le_of_val k4 (k:=39) (by rw[k5];exact hYb)
   rwa [List.length_take,Nat.min_eq_left k3] at this
  rcases Nat.lt_or_ge 1 l' with hl|hl
  ·rcases Nat.lt_or_ge X Y with hlt|hge
   ·exact div_less z z2 x X Y b' l' ws' w hz hz2 hxx hXb hyy hYB hl hd hlt
   ·rcases nv_form hx hXb with ⟨a,c,rfl,h⟩|⟨b,l,ws,rfl,h1,h2,h3,h4,h5,h6,h7⟩
    ·omega
    ·have hll:l'≤l:=by
      rcases Nat.lt_or_ge l l' with h|h
      ·have:=val_lt_len (WL_take h2.wl l) k4 (by rw[List.length_take,List.length_take,Nat.min_eq_left h3,Nat.min_eq_left k3];exact h)
       rw[k5,h5] at this;omega
      ·exact h
     have:=div_more z z2 b l b' l' ws ws' w he hz hz2 h2 h3 h4 h6 k2 k3 k4 hl (by omega) (hdx b (by simp[sb])) hll (by rw[h5];exact hXb) (by rw[k5];exact hYB) (by rw[h5,k5];exact hge)
     rw[h5,k5] at this
     exact this
  ·obtain rfl:l'=1:=by omega
   have e:wat ws' 0=Y:=by
    rw[val_take_succ ws' 0 (by omega),←wat_eq (by omega)] at k5
    simpa using k5
   have:=div_one z z2 x X b' ws' w hz hz2 hxx hXb k2 k3 (by rw[e];omega) hd
   rw[e] at this
   exact this
end Go.Proofs.YtcpjclakdpjjfaaGreatDoor
namespace Go.Proofs.YtcpjclakdpjjfaaGreatDoor
open Go.RowKit Wd
theorem clear_zero (w:World) (a:Option Addr) (c:Nat):(Builtin.clear_ #[118] 0 #[.slice a 0 c]).run Tryz.prog w=.ok (.tuple #[]) w:=by
 cases a<;>simp[Builtin.clear_,run_underlying Tryz.underlying118]
theorem lsh_pos (z:Value) (bx m s:Nat) (xs:List Nat) (w:World) (hz:Zs w z) (hx:Blk w bx xs) (hmx:m≤xs.length) (h0:0<m) (hm:m≤90000) (hs0:0<s) (hs:s<64) (hbx:bx∉sb z):
 Calls Tryz.prog 108 #[z,.slice (some ⟨bx,0,none⟩) m xs.length,.int .u64 s] w (NRet w z (val (xs.take m)*2^s)):=by
 have t1:((s:Int)==0)=false:=by simp;omega
 have t2:((m:Int)==0)=false:=by simp;omega
 have e1:IntKind.i64.wrap ((m:Int)+1)=((m+1:Nat):Int):=IntWalk.i64_in _ (by omega)
 have d1:(s:Int).tdiv 64=0:=by rw[Int.tdiv_eq_ediv_of_nonneg (by omega)];omega
 have d2:(s:Int).tmod 64=s:=by rw[Int.tmod_eq_emod_of_nonneg (by omega)];omega
 have d3:s/64=0:=by omega
 have d4:s%64=s:=by omega
 have hmake:=make_calls z (m+1) w hz (by omega) (by omega)
 have HMK:=Lh hmake
 clear hmake
 go_enter Tryz.func108,Tryz.ntmps108
 go_wp2_with fail
 rw[show (m:Int)+1=((m+1:Nat):Int) from rfl]
 refine HMK.out.mono ?_
 rintro e w1 ⟨b,ws,rfl,hres⟩
 have hx1:=hx.mod hres.mod (by simp)
 have hb1:=hres.blk
 have hle:=hres.le
 have hne:bx≠b:=fun h=>hres.own.elim (fun h'=>hbx (h▸h')) (fun h'=>by have:=hx.lt;omega)
 have h4:m≤ws.length:=by omega
 have h5:(m:Int)<(m:Int)+1:=by omega
 have hls:=lshVU_calls b 0 ws.length bx 0 xs.length m s ws xs w1 hb1 hx1 (by omega) (by omega) hne (by omega) h0 hs0 hs
 have HLS:=Lh hls
 have HR:=Lh hres
 clear hres HMK hls hne
 go_wp2_with fail
 refine HLS.out.mono ?_
 rintro e w2 ⟨c,rs,rfl,hv,hc,hval⟩
 rw[seg_all] at hval
 have hcB:c<B:=Nat.lt_of_lt_of_le hc (by rw[B_eq];exact Nat.le_trans (Nat.pow_le_pow_right (by decide) (by omega:s≤64)) (by decide))
 have hnext:=hv.next (s:=c) (by omega) hcB
 rw[Nat.zero_add] at hnext
 have hlen:(spl ws 0 (rs++[c])).length=ws.length:=spl0_length (by rw[hnext.len];exact hle)
 have hlen0:(spl ws 0 rs).length=ws.length:=spl0_length (by rw[hv.len];exact h4)
 have fz:=hv.blk.free m
 have rz:=hv.blk.cell (i:=m) (by rw[hlen0];omega)
 have hvn:val (rs++[c])=val (xs.take m)*2^s:=by rw[val_snoc,hv.len];exact hval
 have fin:NRes w z (val (xs.take m)*2^s) (.slice (some ⟨b,0,none⟩) (nlen (spl ws 0 (rs++[c])) (m+1)) ws.length) (w2.setCell ⟨b,m,none⟩ (.int .u64 (c:Int))):=by
  rw[←hlen]
  refine norm_nv (ws:=spl ws 0 (rs++[c])) hnext.blk (by rw[hlen];exact hle) ?_ ?_ HR.out.own
  ·have:=spl_take ws (rs++[c])
   rw[hnext.len] at this
   rw[this];exact hvn
  ·exact(HR.out.mod.mono (by simp)).step hnext.mod (fun x hx=>by rw[List.mem_singleton.1 hx];exact HR.out.own)
 have hblk:=hnext.blk
 have FIN:=Lh fin
 clear fin hv hval hnext hvn hb1 hx1 hx hlen0 hc
 generalize spl ws 0 (rs++[c])=fs at*
 generalize spl ws 0 rs=gs at*
 have hcl:=clear_zero (w2.setCell ⟨b,m,none⟩ (.int .u64 (c:Int))) (some ⟨b,0,none⟩) ws.length
 go_wp2_with fail
 rw[show (m:Int)+1=((m+1:Nat):Int) from rfl]
 refine(norm_calls b (m+1) ws.length _ _ hblk (by rw[hlen];exact hle) hle (by omega)).mono ?_
 rintro e w' ⟨rfl,rfl⟩
 go_wp2_with fail
 go_ret
 exact⟨_,rfl,FIN.out⟩
end Go.Proofs.YtcpjclakdpjjfaaGreatDoor
namespace Go.Proofs.YtcpjclakdpjjfaaGreatDoor
open Go.RowKit Wd
theorem Hd.ne_blk {w:World} {b c:Nat} {t:TypeId} {cs:Array Value} {ws:List Nat} (h:Hd w b t cs) (k:Blk w c ws) (ht:t≠177):b≠c:=by
 rintro rfl
 have:=h.symm.trans k.heap
 simp only[Option.some.injEq,Obj.cells.injEq] at this
 exact ht this.2.1
theorem Hd.not_sb {w:World} {b:Nat} {t:TypeId} {cs:Array Value} {v:Value} (h:Hd w b t cs) (hz:Zs w v) (ht:t≠177):b∉sb v:=by
 rcases hz with rfl|⟨c,l,ws,rfl,h2,_⟩
 ·simp[sb]
 ·intro hm;exact h.ne_blk h2 ht (List.mem_singleton.1 hm)
def hdr (s:Option Int) (neg:Bool) (v:Value):Array Value:=match s with
 |none=>#[.bool neg,v]
 |some c=>#[.bool neg,v,.int .i32 c]
def hty (s:Option Int):TypeId:=match s with
 |none=>120
 |some _=>123
theorem hty_ne (s:Option Int):hty s≠177:=by cases s<;>simp[hty]
structure IA (w:World) (b:Nat) (s:Option Int) (n:Int) (v:Value):Prop where
 hd:Hd w b (hty s) (hdr s (decide (n<0)) v)
 nv:Nv w v n.natAbs
 lo:19≤b
 vlo:∀k,k∈sb v→19≤k
theorem IA.neg {w:World} {b:Nat} {s:Option Int} {n:Int} {v:Value} (h:IA w b s n v):w.cell? ⟨b,0,none⟩=some (.bool (decide (n<0))):=h.hd.cell (by cases s<;>rfl)
theorem IA.abs {w:World} {b:Nat} {s:Option Int} {n:Int} {v:Value} (h:IA w b s n v):w.cell? ⟨b,1,none⟩=some v:=h.hd.cell (by cases s<;>rfl)
theorem IA.scale {w:World} {b:Nat} {c:Int} {n:Int} {v:Value} (h:IA w b (some c) n v):w.cell? ⟨b,2,none⟩=some (.int .i32 c):=h.hd.cell rfl
theorem IA.free {w:World} {b:Nat} {s:Option Int} {n:Int} {v:Value} (h:IA w b s n v) (i:Nat):w.frozen? ⟨b,i,none⟩=false:=h.hd.free i
theorem IA.lt {w:World} {b:Nat} {s:Option Int} {n:Int} {v:Value} (h:IA w b s n v):b<w.heap.size:=h.hd.lt
theorem IA.not_sb {w:World} {b:Nat} {s:Option Int} {n:Int} {v u:Value} (h:IA w b s n v) (hu:Zs w u):b∉sb u:=h.hd.not_sb hu (hty_ne s)
theorem IA.mod {S:List Nat} {w w':World} {b:Nat} {s:Option Int} {n:Int} {v:Value} (h:IA w b s n v) (m:Mod S w w') (hb:b∉S) (hv:∀k,k∈sb v→k∉S):IA w' b s n v:=
 ⟨h.hd.mod m hb,h.nv.mod m hv,h.lo,h.vlo⟩
theorem IA.drewN {w:World} {b:Nat} {s:Option Int} {n:Int} {v:Value} (h:IA w b s n v) (k:Nat):IA (w.drewN k) b s n v:=h.mod ((Mod.refl [] w).drewN k) (by simp) (by simp)
structure IntRes (w:World) (b:Nat) (v:Value) (s':Option Int) (n':Int) (v':Value) (w':World):Prop where
 ia:IA w' b s' n' v'
 mod:Mod (b::sb v) w w'
 own:∀k,k∈sb v'→k∈sb v∨w.heap.size≤k
def IntRet (w:World) (b:Nat) (v:Value) (s':Option Int) (n':Int) (e:Ending) (w':World):Prop:=e=.returned (.pointer (some ⟨b,0,none⟩))∧∃v',IntRes w b v s' n' v' w'
theorem IntRes.other {w w':World} {b:Nat} {v:Value} {s':Option Int} {n':Int} {v':Value} (h:IntRes w b v s' n' v' w') {c:Nat} {s:Option Int} {n:Int} {u:Value} {s0:Option Int} {n0:Int} (k:IA w c s n u) (hb:IA w b s0 n0 v)
 (hne:c≠b) (hd:∀j,j∈sb u→j∉sb v):IA w' c s n u:=
 k.mod h.mod (by simp only[List.mem_cons,not_or];exact⟨hne,k.not_sb hb.nv.zs⟩) (fun j hj=>by
  simp only[List.mem_cons,not_or];exact⟨fun e=>hb.not_sb k.nv.zs (e▸hj),hd j hj⟩)
theorem IntRes.apart {w w':World} {b:Nat} {v:Value} {s':Option Int} {n':Int} {v':Value} (h:IntRes w b v s' n' v' w') {u:Value} (hu:Zs w u) (hd:∀j,j∈sb u→j∉sb v):∀j,j∈sb u→j∉sb v':=fun j hj hv=>by
 rcases h.own j hv with h1|h1
 ·exact hd j hj h1
 ·have:=hu.lt j hj;omega
end Go.Proofs.YtcpjclakdpjjfaaGreatDoor
namespace Go.Proofs.YtcpjclakdpjjfaaGreatDoor
open Go.RowKit Wd
theorem Nv.len {w:World} {v:Value} {n:Nat} (h:Nv w v n):∃a l c,v=.slice a l c∧(l=0↔n=0)∧l≤c∧l≤9223372036854775807:=by
 rcases h with ⟨rfl,rfl⟩|⟨b,l,ws,rfl,h2,h3,h4,h5⟩
 ·exact⟨_,_,_,rfl,by simp,Nat.le_refl _,by omega⟩
 ·exact⟨_,_,_,rfl,(Nv.eq_zero h4 h5 h3).symm,h3,by have:=h2.cap;omega⟩
theorem info120:∃j,Tryz.prog.info? 120=some j∧j.size≠0:=by
 obtain⟨j,hj,hs⟩:=Option.map_eq_some_iff.1 (show (Tryz.prog.info? 120).map (·.size)=some 2 by kernel_rfl)
 exact⟨j,hj,by rw[hs];decide⟩
theorem iptr_neq {w:World} {b b':Nat} {s s':Option Int} {n n':Int} {v v':Value} (h:IA w b s n v) (h':IA w b' s' n' v'):
 (binOp .neq 128 (.pointer (some ⟨b,0,none⟩)) (.pointer (some ⟨b',0,none⟩))).run Tryz.prog w=.ok (.bool (!decide (b=b'))) w:=by
 obtain⟨j,hj,hs⟩:=info120
 have e:=ptr_neq w (a:=⟨b,0,none⟩) (b:=⟨b',0,none⟩) Tryz.underlying128 hj hs h.hd h'.hd
 rw[e]
 simp
theorem iptr_eql {w:World} {b b':Nat} {s s':Option Int} {n n':Int} {v v':Value} (h:IA w b s n v) (h':IA w b' s' n' v'):
 (binOp .eql 128 (.pointer (some ⟨b,0,none⟩)) (.pointer (some ⟨b',0,none⟩))).run Tryz.prog w=.ok (.bool (decide (b=b'))) w:=by
 obtain⟨j,hj,hs⟩:=info120
 have e:=ptr_eql w (a:=⟨b,0,none⟩) (b:=⟨b',0,none⟩) Tryz.underlying128 hj hs h.hd h'.hd
 rw[e]
 simp
theorem IA.head {w w2:World} {b:Nat} {s:Option Int} {n:Int} {v:Value} {m:Nat} {v':Value} (h:IA w b s n v) {k:Nat} (r:NRes (w.drewN k) v m v' w2):Hd w2 b (hty s) (hdr s (decide (n<0)) v):=
 h.hd.mod (((Mod.refl [] w).drewN k).mono (by simp) |>.trans r.mod) (h.not_sb h.nv.zs)
theorem hdr_set1 (s:Option Int) (x:Bool) (v v':Value):(hdr s x v).setIfInBounds 1 v'=hdr s x v':=by cases s<;>rfl
theorem hdr_set0 (s:Option Int) (x y:Bool) (v:Value):(hdr s x v).setIfInBounds 0 (.bool y)=hdr s y v:=by cases s<;>rfl
theorem hdr_get0 (s:Option Int) (x:Bool) (v:Value):(hdr s x v)[0]?=some (.bool x):=by cases s<;>rfl
theorem hdr_get1 (s:Option Int) (x:Bool) (v:Value):(hdr s x v)[1]?=some v:=by cases s<;>rfl
theorem int_fin {w w2:World} {b:Nat} {s:Option Int} {n:Int} {v:Value} {n':Int} {v':Value} (h:IA w b s n v) {k:Nat} (r:NRes (w.drewN k) v n'.natAbs v' w2):
 IntRes w b v s n' v' ((w2.setCell ⟨b,1,none⟩ v').setCell ⟨b,0,none⟩ (.bool (decide (n'<0)))):=by
 have hh:=h.head r
 have h1:=(hh.set 1 v').set 0 (.bool (decide (n'<0)))
 rw[hdr_set1,hdr_set0] at h1
 have hb':b∉sb v':=fun hm=>(r.own b hm).elim (h.not_sb h.nv.zs) (fun hs=>by have:=h.lt;simp at hs;omega)
 have m1:Mod (b::sb v) w ((w2.setCell ⟨b,1,none⟩ v').setCell ⟨b,0,none⟩ (.bool (decide (n'<0)))):=
  (((((Mod.refl [] w).drewN k).mono (by simp)).step r.mod (fun x hx=>.inl (List.mem_cons_of_mem _ hx))).setCell _ (.inl (by simp))).setCell _ (.inl (by simp))
 have m2:Mod [b] w2 ((w2.setCell ⟨b,1,none⟩ v').setCell ⟨b,0,none⟩ (.bool (decide (n'<0)))):=((Mod.refl [b] w2).setCell _ (.inl (by simp))).setCell _ (.inl (by simp))
 refine⟨⟨h1,r.nv.mod m2 (fun j hj hb=>hb' (List.mem_singleton.1 hb▸hj)),h.lo,fun j hj=>(r.own j hj).elim (h.vlo j) (fun hs=>by have:=h.lo;have:=h.lt;simp at hs;omega)⟩,m1,fun j hj=>r.own j hj⟩
theorem IntRes.refl {w:World} {b:Nat} {s:Option Int} {n:Int} {v:Value} (h:IA w b s n v) (k:Nat):IntRes w b v s n v (w.drewN k):=
 ⟨h.drewN k,((Mod.refl _ w).drewN k),fun _ h=>.inl h⟩
theorem quiet_add {f:FuncId} {args:Array Value} {w:World} {a n:Nat} {v:Value}
 (h:Calls Tryz.prog f args (w.drewN (a+n)) fun e w'=>e=.returned v∧∃m,w'=(w.drewN (a+n)).drewN m):
 Calls Tryz.prog f args (w.drewN (a+n)) fun e w''=>e=.returned v∧∃m,w''=w.drewN (a+m):=
 h.mono fun _ _ ⟨he,m,hm⟩=>⟨he,n+m,by rw[hm,World.drewN_drewN,Nat.add_assoc]⟩
theorem quiet_one {f:FuncId} {args:Array Value} {w:World} {n:Nat} {v:Value}
 (h:Calls Tryz.prog f args (w.drewN n) fun e w'=>e=.returned v∧∃m,w'=(w.drewN n).drewN m):Calls Tryz.prog f args (w.drewN n) fun e w''=>e=.returned v∧∃m,w''=w.drewN m:=
 h.mono fun _ _ ⟨he,m,hm⟩=>⟨he,n+m,by rw[hm,World.drewN_drewN]⟩
theorem IA.z {w w2:World} {b:Nat} {s:Option Int} {n:Int} {v:Value} {m:Nat} {v':Value} (h:IA w b s n v) {k:Nat} (r:NRes (w.drewN k) v m v' w2):
 w2.cell? ⟨b,1,none⟩=some v∧w2.frozen? ⟨b,1,none⟩=false∧w2.cell? ⟨b,0,none⟩=some (.bool (decide (n<0)))∧w2.frozen? ⟨b,0,none⟩=false:=
 have hh:=h.head r
 ⟨hh.cell (hdr_get1 _ _ _),hh.free 1,hh.cell (hdr_get0 _ _ _),hh.free 0⟩
theorem IA.x {w w2:World} {b c:Nat} {s s':Option Int} {n n':Int} {v u:Value} {m:Nat} {v':Value} (h:IA w c s' n' u) (hz:IA w b s n v) {k:Nat} (r:NRes (w.drewN k) v m v' w2):
 w2.cell? ⟨c,0,none⟩=some (.bool (decide (n'<0))):=
 (h.hd.mod (((Mod.refl [] w).drewN k).mono (by simp) |>.trans r.mod) (h.not_sb hz.nv.zs)).cell (hdr_get0 _ _ _)
theorem int_set (bz bx:Nat) (sz sx:Option Int) (nz nx:Int) (vz vx:Value) (w:World) (hz:IA w bz sz nz vz) (hx:IA w bx sx nx vx) (hne:bz≠bx) (hXb:nx.natAbs<Big):
 Calls Tryz.prog 109 #[.pointer (some ⟨bz,0,none⟩),.pointer (some ⟨bx,0,none⟩)] w (IntRet w bz vz sz nx):=by
 have hp:=iptr_neq hz hx
 rw[show (!decide (bz=bx))=true by simp[hne]] at hp
 have z1:=hz.abs
 have x1:=hx.abs
 have hset:=set_calls vz vx nx.natAbs w.drew (hz.nv.zs.drewN 1) (hx.nv.drewN 1) hXb
 have HS:=Lh hset
 clear hset
 go_enter Tryz.func109,Tryz.ntmps109
 go_wp2_with fail
 have hne2:¬bx=bz:=fun h=>hne h.symm
 go_region_law (first|(go_simp;go_at_call 149;refine HS.out.mono ?_;rintro e w2 ⟨v',rfl,hres⟩;obtain⟨a1,l1,c1,rfl,hl1⟩:=hres.nv.len;obtain⟨z2,f1,z0,f0⟩:=hz.z (k:=1) hres;have x0:=hx.x hz (k:=1) hres;have FIN:=Lh (int_fin hz (k:=1) hres);clear hres hl1))
 all_goals
  go_wp2_with fail
  go_ret
  exact⟨rfl,_,FIN.out⟩
theorem IA.z2 {w w2:World} {b:Nat} {s:Option Int} {n:Int} {v:Value} {m:Nat} {v':Value} (h:IA w b s n v) {k:Nat} (r:NRes (w.drewN k) v m v' w2):
 (w2.setCell ⟨b,1,none⟩ v').cell? ⟨b,1,none⟩=some v'∧(w2.setCell ⟨b,1,none⟩ v').cell? ⟨b,0,none⟩=some (.bool (decide (n<0)))∧(w2.setCell ⟨b,1,none⟩ v').frozen? ⟨b,0,none⟩=false:=
 have hh:=(h.head r).set 1 v'
 ⟨hh.cell (by rw[hdr_set1];exact hdr_get1 _ _ _),hh.cell (by rw[hdr_set1];exact hdr_get0 _ _ _),hh.free 0⟩
theorem IA.x2 {w w2:World} {b c:Nat} {s s':Option Int} {n n':Int} {v u:Value} {m:Nat} {v':Value} (h:IA w c s' n' u) (hz:IA w b s n v) {k:Nat} (r:NRes (w.drewN k) v m v' w2):
 (w2.setCell ⟨b,1,none⟩ v').cell? ⟨c,0,none⟩=some (.bool (decide (n'<0))):=by
 have h1:=(h.hd.mod (((Mod.refl [] w).drewN k).mono (by simp) |>.trans r.mod) (h.not_sb hz.nv.zs))
 by_cases e:c=b
 ·subst e
  exact(h1.set 1 v').cell (by rw[hdr_set1];exact hdr_get0 _ _ _)
 ·exact(h1.mod ((Mod.refl [b] w2).setCell (p:=⟨b,1,none⟩) v' (.inl (by simp))) (by simp[e])).cell (hdr_get0 _ _ _)
theorem IntRes.drewN {w w':World} {b:Nat} {v:Value} {s':Option Int} {n':Int} {v':Value} (h:IntRes w b v s' n' v' w') (k:Nat):IntRes w b v s' n' v' (w'.drewN k):=
 ⟨h.ia.drewN k,h.mod.drewN k,h.own⟩
end Go.Proofs.YtcpjclakdpjjfaaGreatDoor
