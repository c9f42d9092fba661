/- The canonical text of a number (spec/quantities. -/
import Derived.Test.YtcpjclakdpjjfaaGreatDoorC48
import Derived.Deep.RegionHeld3
import Derived.Deep.RegionLaw
import Derived.Deep.CutRange
set_option maxHeartbeats 6400000
set_option maxRecDepth 10000
namespace Go.Proofs.YtcpjclakdpjjfaaGreatDoor
open Go.RowKit Wd Dg
def sfT (k:Nat):ByteArray:=⟨(sfxB k).toArray⟩
theorem cell_sft (X:World) (q:Nat) (hq:q<7):(X.alloc (.cells #[.string ⟨#[]⟩,.string ⟨#[75,105]⟩,.string ⟨#[77,105]⟩,.string ⟨#[71,105]⟩,.string ⟨#[84,105]⟩,.string ⟨#[80,105]⟩,.string ⟨#[69,105]⟩] 9)).cell? ⟨X.heap.size,q,none⟩=some (.string (sfT q)):=by
 have hd:=Hd.new X 9 #[.string ⟨#[]⟩,.string ⟨#[75,105]⟩,.string ⟨#[77,105]⟩,.string ⟨#[71,105]⟩,.string ⟨#[84,105]⟩,.string ⟨#[80,105]⟩,.string ⟨#[69,105]⟩]
 have:q=0∨q=1∨q=2∨q=3∨q=4∨q=5∨q=6:=by omega
 rcases this with rfl|rfl|rfl|rfl|rfl|rfl|rfl<;>exact hd.cell rfl
theorem bin_frac {neg:Bool} {l:List Nat} {ex V lo hi:Int} (hF:DF neg l ex V lo hi) (hl:l≠[]) (hx:ex<0):¬CanOk 1 V:=by
 rintro⟨-,-,h3⟩
 rcases h3 rfl with h|⟨h,-⟩
 ·exact hl (hF.eq0.1 h)
 ·rcases (hF.mult (c:=0) (by decide)).1 h with h|h
  ·exact hl h
  ·omega
theorem bin_1000 {neg:Bool} {l:List Nat} {ex V lo hi:Int} (hF:DF neg l ex V lo hi) (hl:l≠[]) (hx:3≤ex) (h:V.natAbs<1024*sc 0):V.natAbs=1000*sc 0:=by
 obtain⟨m,hm⟩:=(hF.mult (c:=3) (by decide)).2 (.inr hx)
 have hp:=sc_pos 0
 have hs:sc 3=sc 0*10^3:=sc_add (e:=0) (k:=3) (by decide)
 have hV0:V≠0:=fun h=>hl (hF.eq0.1 h)
 rw[hm,Int.natAbs_mul,Int.natAbs_natCast,hs,Nat.mul_comm (sc 0),←Nat.mul_assoc] at h
 have h1:=Nat.lt_of_mul_lt_mul_right h
 have hm0:m≠0:=fun h=>hV0 (by rw[hm,h,Int.zero_mul])
 rw[hm,Int.natAbs_mul,Int.natAbs_natCast,hs,Nat.mul_comm (sc 0),←Nat.mul_assoc]
 congr 1
 rw[show (10:Nat)^3=1000 by decide] at*
 omega
theorem bin_small {neg:Bool} {l:List Nat} {ex V lo hi:Int} (hF:DF neg l ex V lo hi) (hl:l≠[]) (hx:ex<3):V.natAbs≠1000*sc 0:=by
 intro h
 have:∃m:Int,V=m*sc 3:=by
  have hs:sc 3=sc 0*10^3:=sc_add (e:=0) (k:=3) (by decide)
  rcases Int.natAbs_eq V with h1|h1
  ·exact⟨1,by rw[h1,h,hs,Nat.mul_comm (sc 0)];simp⟩
  ·exact⟨-1,by rw[h1,h,hs,Nat.mul_comm (sc 0)];simp⟩
 rcases (hF.mult (c:=3) (by decide)).1 this with h|h
 ·exact hl h
 ·omega
def BnSt (n x:Int) (k:Nat):Prop:=n=x*1024^k∧k≤6
theorem BnSt.step {n x:Int} {k:Nat} (h:BnSt n x k) (hk:k<6) (hx:x.tmod 1024=0):BnSt n (x.tdiv 1024) (k+1):=by
 refine⟨?_,hk⟩
 have e:x=x.tdiv 1024*1024:=by have:=Int.mul_tdiv_add_tmod x 1024;omega
 rw[h.1,Int.pow_succ,Int.mul_comm (1024^k) 1024,←Int.mul_assoc,←e]
theorem BnSt.le {n x:Int} {k:Nat} (h:BnSt n x k):x.natAbs≤n.natAbs:=by
 rw[h.1,Int.natAbs_mul,Int.natAbs_pow]
 exact Nat.le_mul_of_pos_right _ (Nat.pow_pos (by decide))
theorem tdiv_small {x:Int} (h:-9223372036854775808≤x∧x≤9223372036854775807):wrap64 (x.tdiv 1024)=x.tdiv 1024:=by
 have h1:=Int.natAbs_tdiv x 1024
 have h2:(x.tdiv 1024).natAbs≤x.natAbs:=by rw[h1];exact Nat.div_le_self _ _
 have h3:(x.tdiv 1024).natAbs≤x.natAbs/1024:=by rw[h1];exact Nat.le_refl _
 exact w64 rfl (by omega) (by omega)
theorem canon_bin (neg:Bool) (sl:Value) (l:List Nat) (ex V lo hi:Int) (w:World) (hir:Ir w sl l) (hF:DF neg l ex V lo hi) (hm:MayV V) (hl:l≠[]) (h8:0≤hi-lo):
 Calls Tryz.prog 18 #[dcv neg sl ex,.int .i64 1] w (QcRet 1 V w):=by
 have MY:=Lh (fun(w':World) (m:Mod [] w w')=>spec_may (dcv neg sl ex) V lo hi w' ⟨neg,sl,l,ex,rfl,hir.mod m,hF⟩)
 have OF:=Lh (fun(w':World)=>decimalOf_calls 1024 0 w' (by unfold i64;decide) (by decide) (by decide))
 have CM:=Lh (fun(w':World) (d2:Value) (m:Mod [] w w') (h2:Dc w' d2 (1024*sc 0) 0 20)=>spec_cmp _ d2 _ _ lo hi 0 20 w' (Dc.abs hir hF m) h2)
 have IN:=Lh (fun(w':World) (n:Int) (m:Mod [] w w') (hn:V=n*sc 0) (hb:n.natAbs≤9223372036854775807)=>spec_int (dcv neg sl ex) V lo hi n w' ⟨neg,sl,l,ex,rfl,hir.mod m,hF⟩ hn hb h8)
 obtain⟨a,c,rfl,-,-⟩:=hir.form
 have hV0:V≠0:=fun h=>hl (hF.eq0.1 h)
 have H1:=Lh (Aj (fun h=>bin_frac hF hl h) (Aj (fun h g=>bin_1000 hF hl h g) (fun h=>bin_small hF hl h)))
 have HN:0≤ex→∃n:Int,V=n*sc 0∧n.natAbs≤9223372036854775807∧n≠0:=fun h=>by
  obtain⟨n,hn⟩:=(hF.mult (c:=0) (by decide)).2 (.inr h)
  refine⟨n,hn,?_,fun h=>hV0 (by rw[hn,h,Int.zero_mul])⟩
  have:=hm.1
  rw[hn,Int.natAbs_mul,Int.natAbs_natCast] at this
  exact Nat.le_of_mul_le_mul_right this (sc_pos 0)
 have HH:=Lh (Aj hm (Aj hV0 HN))
 have mA:Mod [] w (w.alloc (.cells #[.bool neg,.slice a l.length c,.int .i64 ex] 27)):=(Mod.refl [] w).alloc _
 have hd:=Hd.new w 27 #[.bool neg,.slice a l.length c,.int .i64 ex]
 have t1:((l.length:Int)==0)=false:=by simp;exact hl
 clear hir hF hm hl h8 hV0 HN
 unfold dcv at*
 generalize l.length=n1 at*
 rcases Int.lt_or_le ex 0 with hx|hx
 ·have g1:decide (ex<0)=true:=by simpa using hx
  have HX:=Lh hx
  clear hx
  go_enter Tryz.func18,Tryz.ntmps18
  go_wp2_with fail
  refine(MY.out _ mA).mono ?_
  rintro _ w1 ⟨⟨b,rfl,hb⟩,m1⟩
  obtain rfl:b=true:=hb.2 HH.out.1
  have hd1:=Hd.mod hd m1 (by simp)
  have c0:=hd1.cell (i:=0) rfl
  have c1:=hd1.cell (i:=1) rfl
  have c2:=hd1.cell (i:=2) rfl
  have HB:=Lh (mA.trans m1)
  have d2:=Hd.cell (Hd.mod hd1 ((Mod.refl [] w1).alloc (.cells #[.bool false,.slice a n1 c,.int .i64 ex] 27)) (by simp)) (i:=2) rfl
  clear hb m1 hd hd1 mA
  go_wp2_with fail
  go_quiet (fail)
  go_wp2_with fail
  go_ret2
  exact⟨[],false,rfl,⟨fun h=>(by cases h),fun h=>(H1.out.1 HX.out h).elim⟩,fun h=>(by cases h),(HB.out.alloc _).drewN _⟩
 ·have g0:decide (ex<0)=false:=by simp;omega
  have HX:=Lh hx
  rcases Int.lt_or_le 2 ex with hx2|hx2
  ·have g9:decide (2<ex)=true:=by simpa using hx2
   have HX2:=Lh hx2
   clear hx hx2
   go_enter Tryz.func18,Tryz.ntmps18
   go_wp2_with fail
   refine(MY.out _ mA).mono ?_
   rintro _ w1 ⟨⟨b,rfl,hb⟩,m1⟩
   obtain rfl:b=true:=hb.2 HH.out.1
   have hd1:=Hd.mod hd m1 (by simp)
   have c0:=hd1.cell (i:=0) rfl
   have c1:=hd1.cell (i:=1) rfl
   have c2:=hd1.cell (i:=2) rfl
   have q1:=Hd.mod hd1 ((Mod.refl [] w1).alloc (.cells #[.bool false,.slice a n1 c,.int .i64 ex] 27)) (by simp)
   have q2:=Hd.new w1 27 #[.bool false,.slice a n1 c,.int .i64 ex]
   have mW:=(mA.trans m1).alloc (.cells #[.bool false,.slice a n1 c,.int .i64 ex] 27)
   have hsz:w.heap.size<w1.heap.size:=Nat.lt_of_lt_of_le (Hd.lt hd) m1.size
   clear hb m1 hd hd1 mA
   go_upto_region 7 with fail
   clear c0 c1 c2
   generalize w1.alloc (.cells #[.bool false,.slice a n1 c,.int .i64 ex] 27)=WW at*
   generalize w1.heap.size=b6 at*
   have HP:=Lh (fun(w':World) (m:Mod [] WW w')=>show (w'.cell? ⟨w.heap.size,0,none⟩=some (.bool neg)∧w'.cell? ⟨w.heap.size,1,none⟩=some (.slice a n1 c)∧w'.cell? ⟨w.heap.size,2,none⟩=some (.int .i64 ex))∧(w'.cell? ⟨b6,0,none⟩=some (.bool false)∧w'.cell? ⟨b6,1,none⟩=some (.slice a n1 c)∧w'.cell? ⟨b6,2,none⟩=some (.int .i64 ex)) from
    ⟨⟨Hd.cell (Hd.mod q1 m (by simp)) rfl,Hd.cell (Hd.mod q1 m (by simp)) rfl,Hd.cell (Hd.mod q1 m (by simp)) rfl⟩,⟨Hd.cell (Hd.mod q2 m (by simp)) rfl,Hd.cell (Hd.mod q2 m (by simp)) rfl,Hd.cell (Hd.mod q2 m (by simp)) rfl⟩⟩)
   have MA:=Lh mW
   clear q1 q2 mW hsz
   obtain⟨⟨a0,a1,a2⟩,⟨b0,b1,b2⟩⟩:=HP.out WW (Mod.refl [] WW)
   first|(go_region_held3 (fun w'=>(w'.cell? ⟨w.heap.size,0,none⟩=some (.bool neg)∧w'.cell? ⟨w.heap.size,1,none⟩=some (.slice a n1 c)∧w'.cell? ⟨w.heap.size,2,none⟩=some (.int .i64 ex))∧(w'.cell? ⟨b6,0,none⟩=some (.bool false)∧w'.cell? ⟨b6,1,none⟩=some (.slice a n1 c)∧w'.cell? ⟨b6,2,none⟩=some (.int .i64 ex))) (go_keep)
    (first|(go_at_call 24;refine(OF.out _).mono ?_;rintro e w2 ⟨d2,rfl,hd2,m2⟩;have M2:=Lh (((Mod.refl [] WW).drewN _).trans m2);obtain⟨⟨c0,c1,c2⟩,⟨e0,e1,e2⟩⟩:=HP.out w2 M2.out;have CC:=Lh (CM.out w2 d2 (MA.out.trans M2.out) hd2);clear m2 hd2 OF)|(go_at_call 22;refine CC.out.mono ?_;rintro e w3 ⟨rfl,m3⟩;have M3:=Lh (M2.out.trans m3);obtain⟨⟨f0,f1,f2⟩,⟨g0,g1,g2⟩⟩:=HP.out w3 M3.out;clear m3)))|fail "the region"
   rcases Int.lt_or_le (cmpV (V.natAbs:Int) (1024*sc 0)) 0 with hcc|hcc
   ·have HV:=Lh (show V.natAbs<1024*sc 0 by
     have e:(1024*(sc 0:Int))=((1024*sc 0:Nat):Int):=by rw[Int.natCast_mul];rfl
     rw[e] at hcc
     rcases Nat.lt_trichotomy V.natAbs (1024*sc 0) with h|h|h
     ·exact h
     ·rw[cmpV_eq (by omega)] at hcc;omega
     ·rw[cmpV_gt (by omega)] at hcc;omega)
    have gc:decide (cmpV (V.natAbs:Int) (1024*sc 0)<0)=true:=by simpa using hcc
    rw[gc]
    clear hcc gc
    generalize cmpV (V.natAbs:Int) (1024*sc 0)=cc at*
    go_wp2_with fail
    go_ret2
    exact⟨[],false,rfl,⟨fun h=>(by cases h),fun h=>by
     rcases h.2.2 rfl with h1|⟨-,h1⟩
     ·exact(HH.out.2.1 h1).elim
     ·exact(h1 (H1.out.2.1 (by have:=HX2.out;omega) HV.out)).elim⟩,fun h=>(by cases h),MA.out.trans M3.out⟩
   ·have HV:=Lh (show V.natAbs≠1000*sc 0 by
     intro h0
     have hp:=sc_pos 0
     have e:(1024*(sc 0:Int))=((1024*sc 0:Nat):Int):=by rw[Int.natCast_mul];rfl
     rw[e,cmpV_lt (by omega)] at hcc
     omega)
    have gc:decide (cmpV (V.natAbs:Int) (1024*sc 0)<0)=false:=by simpa using hcc
    rw[gc]
    clear hcc gc
    generalize cmpV (V.natAbs:Int) (1024*sc 0)=cc at*
    obtain⟨n,hn,hnb,hn0⟩:=HH.out.2.2 HX.out
    have IN2:=Lh (IN.out _ n (MA.out.trans M3.out) hn hnb)
    have HNN:=Lh (Aj hn (Aj hnb hn0))
    clear hn hnb hn0
    go_wp2_with fail
    refine IN2.out.mono ?_
    rintro _ w4 ⟨rfl,m4⟩
    have M4:=Lh ((MA.out.trans M3.out).trans m4)
    clear m4 IN2
    go_wp2_with fail
    go_loop [7,9] (fun t7 t9=>∃(x:Int) (k:Nat),t7=.int .i64 x∧t9=.int .i64 k∧BnSt n x k) (fun _ t9=>6-(intOf t9).toNat)
    case atStart=>exact⟨n,0,rfl,rfl,by simp,by omega⟩
    case round=>
     obtain⟨x,k,rfl,rfl,hst⟩:=hrel
     have hxn:=hst.le
     have hxb:-9223372036854775808≤x∧x≤9223372036854775807:=by have:=HNN.out.2.1;omega
     have hdone:(x.tmod 1024≠0∨k=6)→Bn n x k:=fun h=>bn_done hst.1 HNN.out.2.2 (by have:=HNN.out.2.1;omega) (h.imp_left (fun h=>by
      intro h1
      exact h (Int.tmod_eq_zero_of_dvd (Int.dvd_of_emod_eq_zero h1))))
     by_cases hx0:x.tmod 1024=0∧k<6
     ·have f1:(x.tmod 1024==0)=true:=by simpa using hx0.1
      have f2:decide (k<6)=true:=by simpa using hx0.2
      have hs:=hst.step hx0.2 hx0.1
      have f3:=tdiv_small hxb
      have hk6:=hx0.2
      have HS:=Lh (Aj hs f3)
      clear hst hxn hdone hx0 hs f3
      go_wp2_with fail
      go_round
      case rel=>exact⟨x.tdiv 1024,k+1,by first|rfl|rw[HS.out.2],by go_num,HS.out.1⟩
      case measure=>simp[intOf];omega
     ·have hfin:=hdone (by
      by_cases h:x.tmod 1024=0
      ·have:=hst.2
       exact .inr (by have h9:¬k<6:=fun h2=>hx0 ⟨h,h2⟩
                      omega)
      ·exact .inl h)
      have hk7:k<7:=by have:=hst.2;omega
      have hk7i:(k:Int)<7:=by omega
      have CE:=fun X=>cell_sft X k hk7
      have TXX:=Lh (fun(w':World)=>decimalOf_calls x 0 w' hxb (by decide) (by decide))
      obtain⟨tb,htb⟩:∃tb,tb=(⟨(Lib.itoa x).toArray⟩:ByteArray):=⟨_,rfl⟩
      have htl:tb.size≤100:=by
       have e:tb.size=(Lib.itoa x).length:=by rw[htb];rfl
       rw[e,itoa_dg,List.length_append]
       have h8:(10:Nat)^22=10000000000000000000000:=by decide
       have hE22:x.natAbs<10^22:=by omega
       have:=dg_length_le (n:=x.natAbs) (k:=22) (by decide) hE22
       simp only[dch,List.length_map]
       split<;>simp<;>omega
      obtain⟨sb,hsb⟩:∃sb,sb=sfT k:=⟨_,rfl⟩
      have hsl:sb.size≤2:=by
       rw[hsb]
       show (sfxB k).length≤2
       unfold sfxB
       repeat' split
       all_goals simp
      rw[←hsb] at CE
      have hsum:¬9223372036854775807<tb.size+sb.size:=by omega
      have TT:=Lh (fun(w':World) (d:Value) (h:Dc w' d (x*sc 0) 0 (0+20))=>spec_text d _ _ _ x w' h rfl (by decide) (by decide) (by decide))
      rw[←htb] at TT
      have HS:=Lh (Aj hfin (Aj htb hsb))
      rcases (show ((x.tmod 1024==0)=false)∨((x.tmod 1024==0)=true∧decide ((k:Int)<6)=false∧decide (k<6)=false) by
       by_cases h:x.tmod 1024=0
       ·exact .inr ⟨by simpa using h,by simp;omega,by simp;omega⟩
       ·exact .inl (by simpa using h)) with f1|⟨f1,f2,f3⟩
      all_goals
       clear hst hxn hdone hx0 hfin htb hsb hxb
       go_upto_region 15 with fail
       go_region_law (first|(go_simp;go_at_call 24;refine(TXX.out _).mono ?_;rintro e w5 ⟨d5,rfl,hd5,m5⟩;have T5:=Lh (fun(w':World) (m:Mod [] w5 w')=>TT.out w' d5 (hd5.mod m));have M5:=Lh (show Mod [] w4 w5 from (by first|exact((Mod.refl [] w4).drewN _).trans m5|exact(((Mod.refl [] w4).drewN _).alloc _).trans m5));(try have c5:w5.cell? ⟨w4.heap.size,k,none⟩=some (.string sb):=(m5.cell (p:=⟨w4.heap.size,k,none⟩) (by simp) (by simp)).trans (CE (w4.drewN 1)));clear hd5 m5 TXX)|(go_simp;go_at_call 42;refine(T5.out _ (by first|exact Mod.refl [] _|exact(Mod.refl [] _).alloc _)).mono ?_;rintro e w6 ⟨rfl,m6⟩;have M6:=Lh (show Mod [] w4 w6 from (by first|exact M5.out.trans m6|exact(M5.out.alloc _).trans m6));(try have c6:w6.cell? ⟨w5.heap.size,k,none⟩=some (.string sb):=(m6.cell (p:=⟨w5.heap.size,k,none⟩) (by simp) (by simp)).trans (CE w5));(try have c7:w6.cell? ⟨w4.heap.size,k,none⟩=some (.string sb):=(m6.cell (p:=⟨w4.heap.size,k,none⟩) (World.block_lt_of_cell? w5 _ c5) (by simp)).trans c5);clear m6 T5))
       all_goals
        go_wp2_with fail
        go_ret2
        refine⟨Lib.itoa x++sfxB k,true,?_,⟨fun _=>⟨HH.out.1.1,HH.out.1.2,fun _=>.inr ⟨⟨n,HNN.out.1⟩,HV.out⟩⟩,fun _=>rfl⟩,fun _=>?_,?_⟩
        ·rw[←ba_app,←HS.out.2.1]
         have e:(⟨(sfxB k).toArray⟩:ByteArray)=sb:=HS.out.2.2.symm
         rw[e];rfl
        ·rw[HNN.out.1]
         refine can_bin HS.out.1 HNN.out.2.2 (fun h=>HV.out ?_)
         rw[HNN.out.1,Int.natAbs_mul,Int.natAbs_natCast,h]
        ·first|exact M4.out.trans M6.out|exact M4.out.trans (M6.out.alloc _)
  ·have g9:decide (2<ex)=false:=by simp;omega
   have HV:=Lh (H1.out.2.2 (by omega))
   clear hx hx2
   go_enter Tryz.func18,Tryz.ntmps18
   go_wp2_with fail
   refine(MY.out _ mA).mono ?_
   rintro _ w1 ⟨⟨b,rfl,hb⟩,m1⟩
   obtain rfl:b=true:=hb.2 HH.out.1
   have hd1:=Hd.mod hd m1 (by simp)
   have c0:=hd1.cell (i:=0) rfl
   have c1:=hd1.cell (i:=1) rfl
   have c2:=hd1.cell (i:=2) rfl
   have q1:=Hd.mod hd1 ((Mod.refl [] w1).alloc (.cells #[.bool false,.slice a n1 c,.int .i64 ex] 27)) (by simp)
   have q2:=Hd.new w1 27 #[.bool false,.slice a n1 c,.int .i64 ex]
   have mW:=(mA.trans m1).alloc (.cells #[.bool false,.slice a n1 c,.int .i64 ex] 27)
   have hsz:w.heap.size<w1.heap.size:=Nat.lt_of_lt_of_le (Hd.lt hd) m1.size
   clear hb m1 hd hd1 mA
   go_upto_region 7 with fail
   clear c0 c1 c2
   generalize w1.alloc (.cells #[.bool false,.slice a n1 c,.int .i64 ex] 27)=WW at*
   generalize w1.heap.size=b6 at*
   have HP:=Lh (fun(w':World) (m:Mod [] WW w')=>show (w'.cell? ⟨w.heap.size,0,none⟩=some (.bool neg)∧w'.cell? ⟨w.heap.size,1,none⟩=some (.slice a n1 c)∧w'.cell? ⟨w.heap.size,2,none⟩=some (.int .i64 ex))∧(w'.cell? ⟨b6,0,none⟩=some (.bool false)∧w'.cell? ⟨b6,1,none⟩=some (.slice a n1 c)∧w'.cell? ⟨b6,2,none⟩=some (.int .i64 ex)) from
    ⟨⟨Hd.cell (Hd.mod q1 m (by simp)) rfl,Hd.cell (Hd.mod q1 m (by simp)) rfl,Hd.cell (Hd.mod q1 m (by simp)) rfl⟩,⟨Hd.cell (Hd.mod q2 m (by simp)) rfl,Hd.cell (Hd.mod q2 m (by simp)) rfl,Hd.cell (Hd.mod q2 m (by simp)) rfl⟩⟩)
   have MA:=Lh mW
   clear q1 q2 mW hsz
   obtain⟨⟨a0,a1,a2⟩,⟨b0,b1,b2⟩⟩:=HP.out WW (Mod.refl [] WW)
   go_quiet (fail)
   have M3:=Lh (show Mod [] WW (WW.drewN nq) from (Mod.refl [] WW).drewN nq)
   obtain⟨⟨f0,f1,f2⟩,⟨g0,g1,g2⟩⟩:=HP.out _ M3.out
   generalize WW.drewN nq=w3 at*
   obtain⟨n,hn,hnb,hn0⟩:=HH.out.2.2 HX.out
   have IN2:=Lh (IN.out _ n (MA.out.trans M3.out) hn hnb)
   have HNN:=Lh (Aj hn (Aj hnb hn0))
   clear hn hnb hn0
   go_wp2_with fail
   refine IN2.out.mono ?_
   rintro _ w4 ⟨rfl,m4⟩
   have M4:=Lh ((MA.out.trans M3.out).trans m4)
   clear m4 IN2
   go_wp2_with fail
   go_loop [7,9] (fun t7 t9=>∃(x:Int) (k:Nat),t7=.int .i64 x∧t9=.int .i64 k∧BnSt n x k) (fun _ t9=>6-(intOf t9).toNat)
   case atStart=>exact⟨n,0,rfl,rfl,by simp,by omega⟩
   case round=>
    obtain⟨x,k,rfl,rfl,hst⟩:=hrel
    have hxn:=hst.le
    have hxb:-9223372036854775808≤x∧x≤9223372036854775807:=by have:=HNN.out.2.1;omega
    have hdone:(x.tmod 1024≠0∨k=6)→Bn n x k:=fun h=>bn_done hst.1 HNN.out.2.2 (by have:=HNN.out.2.1;omega) (h.imp_left (fun h=>by
     intro h1
     exact h (Int.tmod_eq_zero_of_dvd (Int.dvd_of_emod_eq_zero h1))))
    by_cases hx0:x.tmod 1024=0∧k<6
    ·have f1:(x.tmod 1024==0)=true:=by simpa using hx0.1
     have f2:decide (k<6)=true:=by simpa using hx0.2
     have hs:=hst.step hx0.2 hx0.1
     have f3:=tdiv_small hxb
     have hk6:=hx0.2
     have HS:=Lh (Aj hs f3)
     clear hst hxn hdone hx0 hs f3
     go_wp2_with fail
     go_round
     case rel=>exact⟨x.tdiv 1024,k+1,by first|rfl|rw[HS.out.2],by go_num,HS.out.1⟩
     case measure=>simp[intOf];omega
    ·have hfin:=hdone (by
      by_cases h:x.tmod 1024=0
      ·have:=hst.2
       exact .inr (by have h9:¬k<6:=fun h2=>hx0 ⟨h,h2⟩
                      omega)
      ·exact .inl h)
     have hk7:k<7:=by have:=hst.2;omega
     have hk7i:(k:Int)<7:=by omega
     have CE:=fun X=>cell_sft X k hk7
     have TXX:=Lh (fun(w':World)=>decimalOf_calls x 0 w' hxb (by decide) (by decide))
     obtain⟨tb,htb⟩:∃tb,tb=(⟨(Lib.itoa x).toArray⟩:ByteArray):=⟨_,rfl⟩
     have htl:tb.size≤100:=by
      have e:tb.size=(Lib.itoa x).length:=by rw[htb];rfl
      rw[e,itoa_dg,List.length_append]
      have h8:(10:Nat)^22=10000000000000000000000:=by decide
      have hE22:x.natAbs<10^22:=by omega
      have:=dg_length_le (n:=x.natAbs) (k:=22) (by decide) hE22
      simp only[dch,List.length_map]
      split<;>simp<;>omega
     obtain⟨sb,hsb⟩:∃sb,sb=sfT k:=⟨_,rfl⟩
     have hsl:sb.size≤2:=by
      rw[hsb]
      show (sfxB k).length≤2
      unfold sfxB
      repeat' split
      all_goals simp
     rw[←hsb] at CE
     have hsum:¬9223372036854775807<tb.size+sb.size:=by omega
     have TT:=Lh (fun(w':World) (d:Value) (h:Dc w' d (x*sc 0) 0 (0+20))=>spec_text d _ _ _ x w' h rfl (by decide) (by decide) (by decide))
     rw[←htb] at TT
     have HS:=Lh (Aj hfin (Aj htb hsb))
     rcases (show ((x.tmod 1024==0)=false)∨((x.tmod 1024==0)=true∧decide ((k:Int)<6)=false∧decide (k<6)=false) by
      by_cases h:x.tmod 1024=0
      ·exact .inr ⟨by simpa using h,by simp;omega,by simp;omega⟩
      ·exact .inl (by simpa using h)) with f1|⟨f1,f2,f3⟩
     all_goals
      clear hst hxn hdone hx0 hfin htb hsb hxb
      go_upto_region 15 with fail
      go_region_law (first|(go_simp;go_at_call 24;refine(TXX.out _).mono ?_;rintro e w5 ⟨d5,rfl,hd5,m5⟩;have T5:=Lh (fun(w':World) (m:Mod [] w5 w')=>TT.out w' d5 (hd5.mod m));have M5:=Lh (show Mod [] w4 w5 from (by first|exact((Mod.refl [] w4).drewN _).trans m5|exact(((Mod.refl [] w4).drewN _).alloc _).trans m5));(try have c5:w5.cell? ⟨w4.heap.size,k,none⟩=some (.string sb):=(m5.cell (p:=⟨w4.heap.size,k,none⟩) (by simp) (by simp)).trans (CE (w4.drewN 1)));clear hd5 m5 TXX)|(go_simp;go_at_call 42;refine(T5.out _ (by first|exact Mod.refl [] _|exact(Mod.refl [] _).alloc _)).mono ?_;rintro e w6 ⟨rfl,m6⟩;have M6:=Lh (show Mod [] w4 w6 from (by first|exact M5.out.trans m6|exact(M5.out.alloc _).trans m6));(try have c6:w6.cell? ⟨w5.heap.size,k,none⟩=some (.string sb):=(m6.cell (p:=⟨w5.heap.size,k,none⟩) (by simp) (by simp)).trans (CE w5));(try have c7:w6.cell? ⟨w4.heap.size,k,none⟩=some (.string sb):=(m6.cell (p:=⟨w4.heap.size,k,none⟩) (World.block_lt_of_cell? w5 _ c5) (by simp)).trans c5);clear m6 T5))
      all_goals
       go_wp2_with fail
       go_ret2
       refine⟨Lib.itoa x++sfxB k,true,?_,⟨fun _=>⟨HH.out.1.1,HH.out.1.2,fun _=>.inr ⟨⟨n,HNN.out.1⟩,HV.out⟩⟩,fun _=>rfl⟩,fun _=>?_,?_⟩
       ·rw[←ba_app,←HS.out.2.1]
        have e:(⟨(sfxB k).toArray⟩:ByteArray)=sb:=HS.out.2.2.symm
        rw[e];rfl
       ·rw[HNN.out.1]
        refine can_bin HS.out.1 HNN.out.2.2 (fun h=>HV.out ?_)
        rw[HNN.out.1,Int.natAbs_mul,Int.natAbs_natCast,h]
       ·first|exact M4.out.trans M6.out|exact M4.out.trans (M6.out.alloc _)
theorem spec_canonical (fn:Nat) (hfn:fn=0∨fn=1∨fn=2) (d:Value) (V lo hi:Int) (w:World) (h:Dc w d V lo hi) (h7:hi-lo≤900) (h8:0≤hi-lo):Calls Tryz.prog 18 #[d,.int .i64 fn] w (QcRet fn V w):=by
 obtain⟨neg,sl,l,ex,rfl,hir,hF⟩:=h
 by_cases hm:MayV V
 ·by_cases hl:l=[]
  ·exact canon_edge fn neg sl l ex V lo hi w hir hF (.inr hl)
  ·rcases hfn with rfl|rfl|rfl
   ·exact canon_ten 0 (.inl rfl) neg sl l ex V lo hi w hir hF hm hl h7
   ·exact canon_bin neg sl l ex V lo hi w hir hF hm hl h8
   ·exact canon_ten 2 (.inr rfl) neg sl l ex V lo hi w hir hF hm hl h7
 ·exact canon_edge fn neg sl l ex V lo hi w hir hF (.inl hm)
end Go.Proofs.YtcpjclakdpjjfaaGreatDoor
