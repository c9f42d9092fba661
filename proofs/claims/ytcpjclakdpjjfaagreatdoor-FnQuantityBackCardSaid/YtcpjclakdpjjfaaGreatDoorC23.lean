/- Whole numbers written (bigall/intconv. -/
import Derived.Test.YtcpjclakdpjjfaaGreatDoorC20
import Derived.Test.YtcpjclakdpjjfaaGreatDoorC09
import Derived.Test.YtcpjclakdpjjfaaGreatDoorC11
import Derived.Laws.BytesArg
import Derived.Lib.SlBytesConst
import Derived.Test.YtcpjclakdpjjfaaGreatDoorC18
import Derived.Test.YtcpjclakdpjjfaaGreatDoorC19
import Derived.Test.YtcpjclakdpjjfaaGreatDoorC21
import Derived.Test.YtcpjclakdpjjfaaGreatDoorC22
set_option maxHeartbeats 8000000
set_option maxRecDepth 20000
namespace Go.Proofs.YtcpjclakdpjjfaaGreatDoor
open Go.RowKit Wd Dg
theorem Byt.conv {w:World} {bs o l c:Nat} {ds:List Nat} (h:Byt w bs ds) (hl:o+l=ds.length):(convert 79 9 (.slice (some ⟨bs,o,none⟩) l c)).run Tryz.prog w=.ok (.string ⟨((ds.drop o).map UInt8.ofNat).toArray⟩) w:=by
 have hlen:((ds.drop o).map Int.ofNat).length=l:=by simp;omega
 have:=run_convert_bytes_arg w 79 5 Tryz.underlying79 Tryz.underlying5 bs o l c ((ds.drop o).map Int.ofNat) hlen (fun i hi=>by
  have hil:o+i<ds.length:=by omega
  have:=h.cell hil
  rw[this]
  simp only[wat,List.getD_eq_getElem?_getD,List.getElem?_map,List.getElem?_drop,List.getElem?_eq_getElem hil,Option.map_some,Option.getD_some]
  rfl) 9 Tryz.underlying9
 rw[this]
 have e:strOfNums ((ds.drop o).map Int.ofNat)=⟨((ds.drop o).map UInt8.ofNat).toArray⟩:=by
  simp[strOfNums,List.map_map];rfl
 rw[e]
def ItR2 (neg:Bool) (n:Nat) (w:World) (e:Ending) (w':World):Prop:=
 ∃(a:Addr) (l c:Nat),e=.returned (.slice (some a) l c)∧(convert 79 9 (.slice (some a) l c)).run Tryz.prog w'=.ok (.string ⟨((itx neg n).map UInt8.ofNat).toArray⟩) w'∧Mod [] w w'
theorem itoa_zero (a:Option Addr) (c:Nat) (w:World):Calls Tryz.prog 197 #[.slice a 0 c,.bool false,.int .i64 10] w (ItR2 false 0 w):=by
 have kc:=fun(w:World) (C:Array Value) (n c:Nat)=>Lib.run_convert_bytes_const (P:=Tryz.prog) w 79 5 C n c Tryz.underlying79 Tryz.underlying5
 go_enter Tryz.func197,Tryz.ntmps197
 go_wp2_with fail
 go_ret
 refine⟨_,1,1,rfl,?_,(Mod.refl [] w).alloc _⟩
 have h:=run_convert_bytes_arg (P:=Tryz.prog) (w.alloc (.cells #[.int .u8 48] 5 (1,2))) 79 5 Tryz.underlying79 Tryz.underlying5 w.heap.size 0 1 1 [48] rfl (fun i hi=>by
  obtain rfl:i=0:=by omega
  have:(w.alloc (.cells #[.int .u8 48] 5 (1,2))).heap[w.heap.size]?=some (.cells #[.int .u8 48] 5 (1,2)):=by
   show (w.heap.push _)[w.heap.size]?=_
   simp
  simp only[World.cell?]
  rw[this];rfl) 9 Tryz.underlying9
 have e:strOfNums [48]=⟨((itx false 0).map UInt8.ofNat).toArray⟩:=by simp[strOfNums,itx,dg_small]
 rw[e] at h
 exact h
theorem itoa_calls (neg:Bool) (v:Value) (n:Nat) (w:World) (he:Env w) (hv:Nv w v n) (hB:n<B^8) (h0:n=0→neg=false):
 Calls Tryz.prog 197 #[v,.bool neg,.int .i64 10] w (ItR2 neg n w):=by
 have hBig:n<Big:=Nat.lt_trans hB (by rw[Big_eq];exact Nat.pow_lt_pow_right B_one (by omega))
 rcases nv_form hv hBig with ⟨a,c,rfl,rfl⟩|⟨b,l,ws,rfl,h1,h2,h3,h4,h5,h6,h7⟩
 ·rw[h0 rfl];exact itoa_zero a c w
 ·have hl8:l≤8:=by
   have:=length_le_of_val h4 (k:=8) (by rw[h5];exact hB)
   rwa [List.length_take,Nat.min_eq_left h3] at this
  have:=itoa_pos b l ws neg w he h2 h1 h3 hl8 (by rw[h5];omega) (by rw[h5];exact hv) (by rw[h5];exact hBig)
  rw[h5] at this
  refine this.mono ?_
  rintro e w' ⟨bs,o,l,c,ds,rfl,h1,h2,h3,-,h5⟩
  refine⟨_,l,c,rfl,?_,h5⟩
  rw[←h2];exact h1.conv h3
theorem itx_itoa (n:Int):(itx (decide (n<0)) n.natAbs).map UInt8.ofNat=Lib.itoa n:=by
 rw[itoa_dg]
 unfold itx dch
 by_cases h:n<0<;>simp[h]
theorem int_text (b:Nat) (s:Option Int) (n:Int) (v:Value) (w:World) (he:Env w) (hx:IA w b s n v) (hB:n.natAbs<B^8):
 Calls Tryz.prog 162 #[.pointer (some ⟨b,0,none⟩),.int .i64 10] w fun e w'=>e=.returned (.string ⟨(Lib.itoa n).toArray⟩)∧Mod [] w w':=by
 have x0:=hx.neg
 have x1:=hx.abs
 have IT:=Lh (fun k=>itoa_calls (decide (n<0)) v n.natAbs (w.drewN k) (he.drewN k) (hx.nv.drewN k) hB (fun h=>by simp;omega))
 have hp:∀k,(binOp .eql 128 (.pointer (some ⟨b,0,none⟩)) (.pointer none)).run Tryz.prog (w.drewN k)=.ok (.bool false) (w.drewN k):=fun k=>by kernel_rfl
 have hp0:=hp 0
 have e:=itx_itoa n
 generalize decide (n<0)=g at*
 generalize n.natAbs=m at*
 have E:=Lh e
 clear e he hx hB
 go_enter Tryz.func162,Tryz.ntmps162
 go_wp2_with fail
 go_region_law (first|(go_simp;go_at_call 197;refine(IT.out _).mono ?_;rintro e w1 ⟨a,l,c,rfl,cv,h5⟩;rw[E.out] at cv;have HM:=Lh h5;clear h5))
 all_goals
  go_wp2_with fail
  go_ret
  exact⟨rfl,((Mod.refl [] w).drewN _).trans HM.out⟩
theorem int_string (b:Nat) (s:Option Int) (n:Int) (v:Value) (w:World) (he:Env w) (hx:IA w b s n v) (hB:n.natAbs<B^8):
 Calls Tryz.prog 126 #[.pointer (some ⟨b,0,none⟩)] w fun e w'=>e=.returned (.string ⟨(Lib.itoa n).toArray⟩)∧Mod [] w w':=by
 have T:=Lh (int_text b s n v w he hx hB)
 clear he hx hB
 go_enter Tryz.func126,Tryz.ntmps126
 go_wp2_with fail
 refine T.out.mono ?_
 rintro e w1 ⟨rfl,h1⟩
 have H:=Lh h1
 clear h1
 go_wp2_with fail
 go_ret
 exact⟨rfl,H.out⟩
end Go.Proofs.YtcpjclakdpjjfaaGreatDoor
namespace Go.Proofs.YtcpjclakdpjjfaaGreatDoor
open Go.RowKit Wd Dg
def CnRet (V:Int) (w:World) (e:Ending) (w':World):Prop:=
 ∃(v:Value) (M ex:Int),e=.returned (.tuple #[v,.int .i32 ex])∧Cn V M ex∧Bs w' w.heap.size v (Lib.itoa M)∧Mod [] w w'∧-800≤ex∧ex≤5000
theorem tmod3 (x:Int):((x.tmod 3) !=0)=decide (x%3≠0):=by
 by_cases h:x%3=0
 ·have:x.tmod 3=0:=Int.tmod_eq_zero_of_dvd (Int.dvd_of_emod_eq_zero h)
  simp[this,h]
 ·have:x.tmod 3≠0:=fun h1=>h (Int.emod_eq_zero_of_dvd (Int.dvd_of_tmod_eq_zero h1))
  simp[this,h]
theorem itoa_len (n:Int) (h:n.natAbs<B^8):(Lib.itoa n).length≤1000:=by
 rw[itoa_dg]
 have h1:=dg_length_le (n:=n.natAbs) (k:=160) (by decide) (Nat.lt_of_lt_of_le h (by rw[B_eq];decide+kernel))
 have h2:(dch (dg n.natAbs)).length=(dg n.natAbs).length:=by simp[dch]
 split<;>simp[h2]<;>omega
def CnSt (w:World) (n1 e0:Int) (s:Option Int) (b:Nat) (x:Int) (wr:World):Prop:=∃(j:Nat) (v':Value),x=e0-j∧(j:Int)≤e0%3∧NewRes w s (n1*((10^j:Nat):Int)) b v' wr
theorem abs_mul_le {n n1:Int} {m j:Nat} (h:n=n1*(m:Int)) (hm:0<m) (hj:j≤2):(n1*((10^j:Nat):Int)).natAbs≤n.natAbs*100:=by
 have h1:n.natAbs=n1.natAbs*m:=by rw[h,Int.natAbs_mul,Int.natAbs_natCast]
 have h2:(n1*((10^j:Nat):Int)).natAbs=n1.natAbs*10^j:=by rw[Int.natAbs_mul,Int.natAbs_natCast]
 rw[h1,h2]
 refine Nat.mul_le_mul (Nat.le_mul_of_pos_right _ hm) ?_
 exact Nat.le_trans (Nat.pow_le_pow_right (by decide) hj) (by decide)
theorem cn_end {n n1 c:Int} {k j:Nat} (hn:n=n1*((10^k:Nat):Int)) (h10:n1%10≠0) (hc:c≤300) (hj:(j:Int)≤(-c+k)%3) (h3:(-c+k-j)%3=0):Cn (n*sc (-c)) (n1*((10^j:Nat):Int)) (-c+k-j):=by
 have h:=cn_of (V:=n*sc (-c)) (a:=n1) (e:=-c+k) (j:=j) (by
  rw[sc_add (by omega),hn,Int.natCast_mul,Int.mul_assoc,Int.mul_comm (sc (-c):Int)]) h10 (by omega) h3 (by omega)
 have e:((10^j:Nat):Int)=10^j:=by simp
 rw[e];exact h
theorem infCanon_calls (bd:Nat) (c n:Int) (vd:Value) (w:World) (he:Env w) (hx:IA w bd (some c) n vd) (hn0:n≠0) (hc1:-300≤c) (hc2:c≤300) (hB:n.natAbs<B^20) (hM:∀M e,Cn (n*sc (-c)) M e→M.natAbs<B^8) (o:Value) (ho:o=.slice none 0 0):
 Calls Tryz.prog 84 #[.agg #[.pointer (some ⟨bd,0,none⟩)],o] w (CnRet (n*sc (-c)) w):=by
 have ma:Mod [] w (w.alloc (.cells #[.pointer (some ⟨bd,0,none⟩)] 67)):=(Mod.refl [] w).alloc _
 have hx1:=hx.mod ma (by simp) (by simp)
 have he1:=he.mod ma (by simp)
 have DS:=Lh (dec_scale bd c n vd _ hx1)
 have N0:=Lh (newInt_calls 0 _ he1.big (by decide) (by decide))
 have hnB:n.natAbs<Big:=Nat.lt_trans hB (by rw[Big_eq];exact Nat.pow_lt_pow_right B_one (by omega))
 have H0:=Lh (Aj hx1 (Aj he1 (Aj hn0 (Aj hB (Aj hnB (Aj ma (Aj he (Aj ho hM))))))))
 have HC:=Lh (Aj hc1 hc2)
 clear hx he hn0 hc1 hc2 hB hx1 he1 hnB ma ho hM
 obtain⟨i5,hi5,hz5⟩:=Option.map_eq_some_iff.1 info5
 simp only[Prod.mk.injEq] at hz5
 have INF:=Lh (Aj hi5 hz5)
 clear hi5 hz5
 go_enter Tryz.func84,Tryz.ntmps84
 go_wp2_with fail
 refine(dec_unscaledBig bd _).mono ?_
 rintro e w1 ⟨rfl,rfl⟩
 go_wp2_with fail
 refine DS.out.mono ?_
 rintro e w1 ⟨rfl,rfl⟩
 go_wp2_with fail
 refine N0.out.mono ?_
 rintro e w1 ⟨b0,v0,rfl,hr0⟩
 have hx2:=(hr0.apart H0.out.1)
 have IS:=Lh (int_set b0 bd none (some c) 0 n v0 vd w1 hr0.ia hx2.2.2 hx2.1.symm H0.out.2.2.2.2.1)
 have HR0:=Lh hr0
 clear hr0 hx2 N0 DS
 go_wp2_with fail
 refine IS.out.mono ?_
 rintro e w2 ⟨rfl,v1,hr1⟩
 have h12:=HR0.out.step hr1
 have he2:=h12.env H0.out.2.1
 have N10:=Lh (newInt_calls 10 w2 he2.big (by decide) (by decide))
 have H12:=Lh (Aj h12 he2)
 clear hr1 h12 he2 IS
 go_wp2_with fail
 refine N10.out.mono ?_
 rintro e w3 ⟨b10,v10,rfl,hr10⟩
 have hap:=hr10.apart H12.out.1.ia
 have he3:=hr10.env H12.out.2
 have m03:Mod [] w w3:=(H0.out.2.2.2.2.2.1.trans H12.out.1.mod).trans hr10.mod
 have hsz:=H0.out.2.2.2.2.2.1.size
 have RM:=Lh (removeBig_calls w n 10 b0 b10 none v1 v10 w3 he3 m03 hap.2.2 hr10.ia hap.1 (fun j hj hj2=>hap.2.1 j hj2 hj) (by decide) (by rw[B_eq];decide+kernel) H0.out.2.2.2.2.1 (by have:=H12.out.1.own.1;omega) (fun j hj=>by have:=H12.out.1.own.2 j hj;omega))
 have H3:=Lh he3
 clear hap he3 m03 hsz hr10 N10
 go_wp2_with fail
 refine RM.out.mono ?_
 rintro e w4 ⟨b,k,v2,s,n1,rfl,hn,hn1,hn2,-,hk⟩
 have hnn:n=n1*((10^k:Nat):Int):=hn1
 obtain⟨e0,he0⟩:∃e0,e0=-c+(k:Int):=⟨_,rfl⟩
 have hc1:=HC.out.1
 have hc2:=HC.out.2
 have TE:=Lh<| show wrap32 (wrap32 (-c)+(k:Int))=e0 by rw[he0];unfold wrap32;omega
 have hst0:CnSt w n1 e0 s b e0 w4:=⟨0,v2,by simp,by omega,by simpa using hn⟩
 have HN:=Lh (Aj hnn (Aj (hn2 H0.out.2.2.1) (Aj he0 (Aj hst0 hk))))
 clear hn hn1 hn2 hnn hk he0 hst0 hc1 hc2 RM
 have te:=TE.out
 go_wp2_with fail
 go_loopw [5] (fun t5 wr=>∃x:Int,t5=.int .i32 x∧CnSt w n1 e0 s b x wr) (fun t5 _=>(intOf t5-e0+2).toNat)
 case atStart=>exact⟨e0,by first|rfl|rw[te],HN.out.2.2.2.1⟩
 case round=>
  obtain⟨x,rfl,j,v',hxj,hj3,hnr⟩:=hrel
  have hew:=hnr.env H0.out.2.2.2.2.2.2.1
  have hj2:j≤2:=by omega
  have hab:=abs_mul_le HN.out.1 (Nat.pow_pos (by decide)) hj2
  have hB7:=H0.out.2.2.2.1
  have hBig:(n1*((10^j:Nat):Int)).natAbs<Big:=by
   have h1:n.natAbs*100<B^20*B:=Nat.lt_of_lt_of_le (Nat.mul_lt_mul_of_pos_right hB7 (by decide)) (Nat.mul_le_mul_left _ (by rw[B_eq];decide))
   rw[←Nat.pow_succ] at h1
   exact Nat.lt_trans (Nat.lt_of_le_of_lt hab h1) (by rw[Big_eq];exact Nat.pow_lt_pow_right B_one (by omega))
  by_cases h3:x%3=0
  ·have t1:((x.tmod 3) !=0)=false:=by rw[tmod3];simp[h3]
   obtain⟨M,hM⟩:∃M,M=n1*((10^j:Nat):Int):=⟨_,rfl⟩
   rw[←hM] at hnr
   have hcn:=cn_end (j:=j) HN.out.1 HN.out.2.1 HC.out.2 (by rw[←HN.out.2.2.1];exact hj3) (by rw[←HN.out.2.2.1,←hxj];exact h3)
   rw[←HN.out.2.2.1,←hxj,←hM] at hcn
   have hB8:=H0.out.2.2.2.2.2.2.2.2 M x hcn
   have ST:=Lh (int_string b s M v' wr hew hnr.ia hB8)
   have hlen:=itoa_len M hB8
   have hx1:-800≤x∧x≤5000:=by
    have:=HC.out.1
    have:=HC.out.2
    have:=HN.out.2.2.1
    have:=HN.out.2.2.2.2
    omega
   have HE:=Lh (Aj hcn (Aj hnr (Aj hlen hx1)))
   clear hcn hnr hlen hx1 hew hab hB7 hB8 hBig hxj hj3 hM h3 te
   go_wp2_with fail
   refine ST.out.mono ?_
   rintro e w5 ⟨rfl,hm5⟩
   have HM5:=Lh (HE.out.2.1.mod.trans hm5)
   have hown:w5.ownsRow w.heap.size 5 1 o 0 []:=by rw[H0.out.2.2.2.2.2.2.2.1];exact World.ownsRow_nil w5 w.heap.size 5 1
   have HO:=Lh hown
   clear hm5 hown ST
   go_wp2_with (at_builtin;refine Lib.wpList_append_own_string _ rfl _ _ 79 9 rfl w.heap.size 5 i5 Tryz.underlying79 Tryz.underlying9 INF.out.1 INF.out.2.1 INF.out.2.2.1 INF.out.2.2.2 o 0 [] rfl HO.out ⟨(Lib.itoa M).toArray⟩ rfl (by have:=HE.out.2.2.1;show 0+(Lib.itoa M).toArray.size≤maxLen;unfold maxLen;simp;omega) (by have:=HE.out.2.2.1;show 0+(Lib.itoa M).toArray.size≤_;simp;omega) HM5.out.size ?_;intro v5 w6 hown hgr hnil)
   have HV:=Lh (Aj hown hgr)
   clear hown hgr hnil
   go_wp2_with fail
   go_ret2
   refine⟨v5,M,x,rfl,HE.out.1,?_,HM5.out.trans (Mod.grown HV.out.2 (fun q hq=>by rw[H0.out.2.2.2.2.2.2.2.1] at hq;cases hq)),HE.out.2.2.2⟩
   have h1:=HV.out.1
   have e1:0+(⟨(Lib.itoa M).toArray⟩:ByteArray).size=(Lib.itoa M).length:=by
    show 0+(Lib.itoa M).toArray.size=_
    simp
   rw[e1] at h1
   exact h1
  ·have t1:((x.tmod 3) !=0)=true:=by rw[tmod3];simp[h3]
   have N10:=Lh (newInt_calls 10 wr hew.big (by decide) (by decide))
   obtain⟨x1,hx1⟩:∃x1,x1=x-1:=⟨_,rfl⟩
   have hxb:-800≤x∧x≤5000:=by
    have:=HC.out.1
    have:=HC.out.2
    have:=HN.out.2.2.1
    have:=HN.out.2.2.2.2
    omega
   have TX:=Lh<| show wrap32 (x-1)=x1 by rw[hx1];unfold wrap32;omega
   have hj1:((j+1:Nat):Int)≤e0%3:=by omega
   have HE:=Lh (Aj hnr (Aj hew (Aj hBig (Aj hxj (Aj hj1 hx1)))))
   clear hnr hew hBig hxj hj1 hx1 hxb h3 hj3 hj2 hab hB7 te
   go_wp2_with fail
   refine N10.out.mono ?_
   rintro e w5 ⟨bt,vt,rfl,hrt⟩
   have hap:=hrt.apart HE.out.1.ia
   have MU:=Lh (int_mul b b bt s s none _ _ 10 v' v' vt w5 hap.2.2 hap.2.2 hrt.ia (hrt.env HE.out.2.1) hap.1 HE.out.2.2.1 (by rw[B_eq];decide+kernel))
   have HT:=Lh hrt
   clear hap hrt N10
   go_wp2_with fail
   refine MU.out.mono ?_
   rintro e w6 ⟨rfl,v6,hr6⟩
   have h6:NewRes w s (n1*((10^j:Nat):Int)*10) b v6 w6:=by
    have h1:NewRes w s (n1*((10^j:Nat):Int)) b v' w5:=⟨(HT.out.apart HE.out.1.ia).2.2,HE.out.1.mod.trans HT.out.mod,HE.out.1.own⟩
    exact h1.step hr6
   have hst:CnSt w n1 e0 s b x1 w6:=⟨j+1,v6,by rw[HE.out.2.2.2.2.2,HE.out.2.2.2.1];omega,HE.out.2.2.2.2.1,by
    rw[Nat.pow_succ,Int.natCast_mul,←Int.mul_assoc];exact h6⟩
   have HS:=Lh hst
   clear hr6 h6 hst MU
   have tx:=TX.out
   go_wp2_with fail
   go_roundw
   case rel=>exact⟨x1,by first|rfl|rw[tx],HS.out⟩
   case measure=>
    have q1:=HE.out.2.2.2.2.2
    have q2:=HE.out.2.2.2.1
    have q3:=HE.out.2.2.2.2.1
    try rw[tx]
    clear tx
    simp only[intOf]
    omega
end Go.Proofs.YtcpjclakdpjjfaaGreatDoor
namespace Go.Proofs.YtcpjclakdpjjfaaGreatDoor
open Go.RowKit Wd Dg
theorem tmod3_cases (x:Int):(x%3=1∧(x.tmod 3=1∨x.tmod 3=-2))∨(x%3=2∧(x.tmod 3=2∨x.tmod 3=-1))∨(x%3=0∧x.tmod 3=0):=by
 rcases Int.lt_or_le x 0 with h|h
 ·obtain⟨m,rfl⟩:∃m:Nat,x=-(m:Int):=⟨x.natAbs,by omega⟩
  rw[Int.neg_tmod,show ((m:Int).tmod 3)=((m%3:Nat):Int) from rfl]
  omega
 ·obtain⟨m,rfl⟩:∃m:Nat,x=(m:Int):=⟨x.natAbs,by omega⟩
  rw[show ((m:Int).tmod 3)=((m%3:Nat):Int) from rfl]
  omega
theorem i64_B7 {v:Int} (hv:i64 v):v.natAbs<B^20:=by
 unfold i64 at hv
 have h:(9223372036854775808:Nat)<B^20:=by rw[B_eq];decide+kernel
 omega
theorem ex_strip (k:Nat):∀v:Int,v.natAbs≤k→v≠0→∃(r:Int) (t:Nat),v=r*((10^t:Nat):Int)∧r%10≠0∧t≤k:=by
 induction k with
 |zero=>intro v h h0;omega
 |succ k ih=>
  intro v h h0
  by_cases h10:v%10=0
  ·obtain⟨m,hm⟩:∃m,v=m*10:=⟨v/10,by omega⟩
   obtain⟨r,t,h1,h2,h3⟩:=ih m (by omega) (by omega)
   exact⟨r,t+1,by rw[hm,h1,Nat.pow_succ,Int.natCast_mul,Int.mul_assoc];rfl,h2,by omega⟩
  ·exact⟨v,0,by simp,h10,by omega⟩
theorem cn_small {v s M e:Int} (hs:-390≤s) (h0:v≠0) (h:Cn (v*sc s) M e):M.natAbs≤v.natAbs*100:=by
 obtain⟨r,t,h1,h2,-⟩:=ex_strip v.natAbs v (Nat.le_refl _) h0
 obtain⟨j,hj⟩:∃j:Nat,(j:Int)=(s+t)%3:=⟨((s+t)%3).toNat,by omega⟩
 have hc:=cn_of (V:=v*sc s) (a:=r) (e:=s+t) (j:=j) (by
  rw[sc_add (by omega),h1,Int.natCast_mul,Int.mul_assoc,Int.mul_comm (sc s:Int)]) h2 (by omega) (by omega) (by omega)
 have hu:=(h.unique hc).1
 have e10:(r*10^j)=r*((10^j:Nat):Int):=by simp
 rw[hu,e10]
 exact abs_mul_le h1 (Nat.pow_pos (by decide)) (by omega)
theorem i64_cn {v s:Int} (hv:i64 v) (hs:-390≤s) (h0:v≠0):∀M e,Cn (v*sc s) M e→M.natAbs<B^8:=fun M e h=>by
 have h1:=cn_small hs h0 h
 unfold i64 at hv
 have h2:(9223372036854775808*100:Nat)<B^8:=by rw[B_eq];decide+kernel
 omega
theorem cn_amt {v s r e0:Int} {t j:Nat} (hr:v=r*((10^t:Nat):Int)) (h10:r%10≠0) (hs:-400≤s-2) (he:e0=s+t) (hj:j≤2) (h3:(e0-j)%3=0):Cn (v*sc s) (r*10^j) (e0-j):=
 cn_of (V:=v*sc s) (a:=r) (e:=e0) (j:=j) (by
  rw[he,sc_add (by omega),hr,Int.natCast_mul,Int.mul_assoc,Int.mul_comm (sc s:Int)]) h10 hj h3 (by omega)
theorem amtCanon (v s:Int) (w:World) (he:Env2 w) (hv:i64 v) (h0:v≠0) (h1:-250≤s) (h2:s≤250) (o:Value) (ho:o=.slice none 0 0):
 Calls Tryz.prog 85 #[amt v s,o] w (CnRet (v*sc s) w):=by
 have ma:Mod [] w (w.alloc (.cells #[.int .i64 v,.int .i32 s] 64)):=(Mod.refl [] w).alloc _
 have he1:=he.new ma
 have hbx:=Hd.new w 64 #[.int .i64 v,.int .i32 s]
 have RF:=Lh (rmI_calls v (w.alloc (.cells #[.int .i64 v,.int .i32 s] 64)) hv)
 have FB:=Lh (fun(w1:World) (m:Mod [] (w.alloc (.cells #[.int .i64 v,.int .i32 s] 64)) w1)=>amtAsDec v s w1 (he1.new m).env.big hv (by omega) (by omega))
 have FC:=Lh (fun(w1 w2:World) (b:Nat) (u:Value) (m:Mod [] w w1) (k:NewRes w1 (some (-s)) v b u w2)=>infCanon_calls b (-s) v u w2 (k.env (he.new m).env) k.ia h0 (by omega) (by omega) (i64_B7 hv) (by rw[Int.neg_neg];exact i64_cn hv (by omega) h0) o ho)
 have H0:=Lh (Aj he (Aj hv (Aj h0 (Aj h1 (Aj h2 (Aj ho (Aj ma hbx)))))))
 clear he hv h0 ho ma he1 hbx
 unfold amt
 go_enter Tryz.func85,Tryz.ntmps85
 go_wp2_with fail
 refine RF.out.mono ?_
 rintro e w1 ⟨r,t,rfl,rfl,hr,h10,ht,hr64⟩
 obtain⟨e0,he0⟩:∃e0,e0=s+(t:Int):=⟨_,rfl⟩
 have TE:=Lh<| show wrap32 (s+(t:Int))=e0 by rw[he0];unfold wrap32;omega
 have hx:-250≤e0∧e0≤320:=by omega
 have HR:=Lh (Aj hr (Aj (h10 H0.out.2.2.1) (Aj he0 (Aj hx hr64))))
 clear hr h10 he0 ht hx RF h1 h2
 have te:=TE.out
 rcases tmod3_cases e0 with ⟨h3,hq⟩|⟨h3,hq⟩|⟨h3,hq⟩
 ·rcases hq with hq|hq
  ·have tq:e0.tmod 3=1:=hq
   have H3:=Lh h3
   clear hq h3
   go_wp2_with fail
   refine(int64MultiplyScale10_calls r _ HR.out.2.2.2.2).mono ?_
   rintro e w2 ⟨cc,ok,rfl,⟨m,rfl⟩,hok,hc64⟩
   have mw:Mod [] (w.alloc (.cells #[.int .i64 v,.int .i32 s] 64)) ((w.alloc (.cells #[.int .i64 v,.int .i32 s] 64)).drewN m):=(Mod.refl [] _).drewN m
   have mw2:=H0.out.2.2.2.2.2.2.1.trans mw
   cases ok
   ·clear hok
    have hb:=H0.out.2.2.2.2.2.2.2.mod mw (by simp)
    have c0:=hb.cell (i:=0) (v:=.int .i64 v) rfl
    have c1:=hb.cell (i:=1) (v:=.int .i32 s) rfl
    have F1:=Lh (FB.out _ mw)
    have M2:=Lh mw2
    clear hb mw mw2
    go_wp2_with fail
    refine F1.out.mono ?_
    rintro e w3 ⟨b,u,rfl,hnr⟩
    have F2:=Lh (FC.out _ w3 b u M2.out hnr)
    have M3:=Lh (M2.out.trans hnr.mod)
    clear hnr
    go_wp2_with fail
    refine F2.out.mono ?_
    rintro e w4 ⟨v5,M,ex,rfl,hcn,hbs,hm4,hex⟩
    have HF:=Lh (Aj hcn (Aj hbs (Aj hm4 hex)))
    clear hcn hbs hm4 hex
    go_wp2_with fail
    go_ret2
    obtain⟨k1,k2,k3,k4⟩:=HF.out
    rw[Int.neg_neg] at k1
    exact⟨v5,M,ex,rfl,k1,k2.base M3.out.size,M3.out.trans k3,k4⟩
   ·have hcc:=hok rfl
    have AP:=Lh (appendInt_calls cc _ (H0.out.1.new mw2) hc64 o H0.out.2.2.2.2.2.1)
    obtain⟨e1,he1⟩:∃e1,e1=e0-1:=⟨_,rfl⟩
    have hx:=HR.out.2.2.2.1
    have TF:=Lh<| show wrap32 (e0-1)=e1 by rw[he1];unfold wrap32;omega
    have h1:=H0.out.2.2.2.1
    have hcn:Cn (v*sc s) (r*10^1) (e0-((1:Nat):Int)):=cn_amt HR.out.1 HR.out.2.1 (by omega) HR.out.2.2.1 (by decide) (by have:=H3.out;omega)
    have hcn2:Cn (v*sc s) cc e1:=by
     have q1:cc=r*10^1:=by rw[hcc];rfl
     have q2:e1=e0-((1:Nat):Int):=by rw[he1];rfl
     rw[q1,q2];exact hcn
    have HE:=Lh (Aj hcn2 (Aj (show -800≤e1∧e1≤5000 by omega) mw2))
    clear hcn hcn2 he1 hx h1 hcc hok mw mw2
    have tf:=TF.out
    go_wp2_with fail
    refine AP.out.mono ?_
    rintro e w3 ⟨v5,rfl,hbs,hm3⟩
    have HB:=Lh (Aj hbs hm3)
    clear hbs hm3
    go_wp2_with fail
    go_ret2
    exact⟨v5,cc,e1,by first|rfl|rw[tf],HE.out.1,HB.out.1.base HE.out.2.2.size,HE.out.2.2.trans HB.out.2,HE.out.2.1⟩
  ·have tq:e0.tmod 3=-2:=hq
   have H3:=Lh h3
   clear hq h3
   go_wp2_with fail
   refine(int64MultiplyScale10_calls r _ HR.out.2.2.2.2).mono ?_
   rintro e w2 ⟨cc,ok,rfl,⟨m,rfl⟩,hok,hc64⟩
   have mw:Mod [] (w.alloc (.cells #[.int .i64 v,.int .i32 s] 64)) ((w.alloc (.cells #[.int .i64 v,.int .i32 s] 64)).drewN m):=(Mod.refl [] _).drewN m
   have mw2:=H0.out.2.2.2.2.2.2.1.trans mw
   cases ok
   ·clear hok
    have hb:=H0.out.2.2.2.2.2.2.2.mod mw (by simp)
    have c0:=hb.cell (i:=0) (v:=.int .i64 v) rfl
    have c1:=hb.cell (i:=1) (v:=.int .i32 s) rfl
    have F1:=Lh (FB.out _ mw)
    have M2:=Lh mw2
    clear hb mw mw2
    go_wp2_with fail
    refine F1.out.mono ?_
    rintro e w3 ⟨b,u,rfl,hnr⟩
    have F2:=Lh (FC.out _ w3 b u M2.out hnr)
    have M3:=Lh (M2.out.trans hnr.mod)
    clear hnr
    go_wp2_with fail
    refine F2.out.mono ?_
    rintro e w4 ⟨v5,M,ex,rfl,hcn,hbs,hm4,hex⟩
    have HF:=Lh (Aj hcn (Aj hbs (Aj hm4 hex)))
    clear hcn hbs hm4 hex
    go_wp2_with fail
    go_ret2
    obtain⟨k1,k2,k3,k4⟩:=HF.out
    rw[Int.neg_neg] at k1
    exact⟨v5,M,ex,rfl,k1,k2.base M3.out.size,M3.out.trans k3,k4⟩
   ·have hcc:=hok rfl
    have AP:=Lh (appendInt_calls cc _ (H0.out.1.new mw2) hc64 o H0.out.2.2.2.2.2.1)
    obtain⟨e1,he1⟩:∃e1,e1=e0-1:=⟨_,rfl⟩
    have hx:=HR.out.2.2.2.1
    have TF:=Lh<| show wrap32 (e0-1)=e1 by rw[he1];unfold wrap32;omega
    have h1:=H0.out.2.2.2.1
    have hcn:Cn (v*sc s) (r*10^1) (e0-((1:Nat):Int)):=cn_amt HR.out.1 HR.out.2.1 (by omega) HR.out.2.2.1 (by decide) (by have:=H3.out;omega)
    have hcn2:Cn (v*sc s) cc e1:=by
     have q1:cc=r*10^1:=by rw[hcc];rfl
     have q2:e1=e0-((1:Nat):Int):=by rw[he1];rfl
     rw[q1,q2];exact hcn
    have HE:=Lh (Aj hcn2 (Aj (show -800≤e1∧e1≤5000 by omega) mw2))
    clear hcn hcn2 he1 hx h1 hcc hok mw mw2
    have tf:=TF.out
    go_wp2_with fail
    refine AP.out.mono ?_
    rintro e w3 ⟨v5,rfl,hbs,hm3⟩
    have HB:=Lh (Aj hbs hm3)
    clear hbs hm3
    go_wp2_with fail
    go_ret2
    exact⟨v5,cc,e1,by first|rfl|rw[tf],HE.out.1,HB.out.1.base HE.out.2.2.size,HE.out.2.2.trans HB.out.2,HE.out.2.1⟩
 ·rcases hq with hq|hq
  ·have tq:e0.tmod 3=2:=hq
   have H3:=Lh h3
   clear hq h3
   go_wp2_with fail
   refine(int64MultiplyScale100_calls r _ HR.out.2.2.2.2).mono ?_
   rintro e w2 ⟨cc,ok,rfl,⟨m,rfl⟩,hok,hc64⟩
   have mw:Mod [] (w.alloc (.cells #[.int .i64 v,.int .i32 s] 64)) ((w.alloc (.cells #[.int .i64 v,.int .i32 s] 64)).drewN m):=(Mod.refl [] _).drewN m
   have mw2:=H0.out.2.2.2.2.2.2.1.trans mw
   cases ok
   ·clear hok
    have hb:=H0.out.2.2.2.2.2.2.2.mod mw (by simp)
    have c0:=hb.cell (i:=0) (v:=.int .i64 v) rfl
    have c1:=hb.cell (i:=1) (v:=.int .i32 s) rfl
    have F1:=Lh (FB.out _ mw)
    have M2:=Lh mw2
    clear hb mw mw2
    go_wp2_with fail
    refine F1.out.mono ?_
    rintro e w3 ⟨b,u,rfl,hnr⟩
    have F2:=Lh (FC.out _ w3 b u M2.out hnr)
    have M3:=Lh (M2.out.trans hnr.mod)
    clear hnr
    go_wp2_with fail
    refine F2.out.mono ?_
    rintro e w4 ⟨v5,M,ex,rfl,hcn,hbs,hm4,hex⟩
    have HF:=Lh (Aj hcn (Aj hbs (Aj hm4 hex)))
    clear hcn hbs hm4 hex
    go_wp2_with fail
    go_ret2
    obtain⟨k1,k2,k3,k4⟩:=HF.out
    rw[Int.neg_neg] at k1
    exact⟨v5,M,ex,rfl,k1,k2.base M3.out.size,M3.out.trans k3,k4⟩
   ·have hcc:=hok rfl
    have AP:=Lh (appendInt_calls cc _ (H0.out.1.new mw2) hc64 o H0.out.2.2.2.2.2.1)
    obtain⟨e1,he1⟩:∃e1,e1=e0-2:=⟨_,rfl⟩
    have hx:=HR.out.2.2.2.1
    have TF:=Lh<| show wrap32 (e0-2)=e1 by rw[he1];unfold wrap32;omega
    have h1:=H0.out.2.2.2.1
    have hcn:Cn (v*sc s) (r*10^2) (e0-((2:Nat):Int)):=cn_amt HR.out.1 HR.out.2.1 (by omega) HR.out.2.2.1 (by decide) (by have:=H3.out;omega)
    have hcn2:Cn (v*sc s) cc e1:=by
     have q1:cc=r*10^2:=by rw[hcc];rfl
     have q2:e1=e0-((2:Nat):Int):=by rw[he1];rfl
     rw[q1,q2];exact hcn
    have HE:=Lh (Aj hcn2 (Aj (show -800≤e1∧e1≤5000 by omega) mw2))
    clear hcn hcn2 he1 hx h1 hcc hok mw mw2
    have tf:=TF.out
    go_wp2_with fail
    refine AP.out.mono ?_
    rintro e w3 ⟨v5,rfl,hbs,hm3⟩
    have HB:=Lh (Aj hbs hm3)
    clear hbs hm3
    go_wp2_with fail
    go_ret2
    exact⟨v5,cc,e1,by first|rfl|rw[tf],HE.out.1,HB.out.1.base HE.out.2.2.size,HE.out.2.2.trans HB.out.2,HE.out.2.1⟩
  ·have tq:e0.tmod 3=-1:=hq
   have H3:=Lh h3
   clear hq h3
   go_wp2_with fail
   refine(int64MultiplyScale100_calls r _ HR.out.2.2.2.2).mono ?_
   rintro e w2 ⟨cc,ok,rfl,⟨m,rfl⟩,hok,hc64⟩
   have mw:Mod [] (w.alloc (.cells #[.int .i64 v,.int .i32 s] 64)) ((w.alloc (.cells #[.int .i64 v,.int .i32 s] 64)).drewN m):=(Mod.refl [] _).drewN m
   have mw2:=H0.out.2.2.2.2.2.2.1.trans mw
   cases ok
   ·clear hok
    have hb:=H0.out.2.2.2.2.2.2.2.mod mw (by simp)
    have c0:=hb.cell (i:=0) (v:=.int .i64 v) rfl
    have c1:=hb.cell (i:=1) (v:=.int .i32 s) rfl
    have F1:=Lh (FB.out _ mw)
    have M2:=Lh mw2
    clear hb mw mw2
    go_wp2_with fail
    refine F1.out.mono ?_
    rintro e w3 ⟨b,u,rfl,hnr⟩
    have F2:=Lh (FC.out _ w3 b u M2.out hnr)
    have M3:=Lh (M2.out.trans hnr.mod)
    clear hnr
    go_wp2_with fail
    refine F2.out.mono ?_
    rintro e w4 ⟨v5,M,ex,rfl,hcn,hbs,hm4,hex⟩
    have HF:=Lh (Aj hcn (Aj hbs (Aj hm4 hex)))
    clear hcn hbs hm4 hex
    go_wp2_with fail
    go_ret2
    obtain⟨k1,k2,k3,k4⟩:=HF.out
    rw[Int.neg_neg] at k1
    exact⟨v5,M,ex,rfl,k1,k2.base M3.out.size,M3.out.trans k3,k4⟩
   ·have hcc:=hok rfl
    have AP:=Lh (appendInt_calls cc _ (H0.out.1.new mw2) hc64 o H0.out.2.2.2.2.2.1)
    obtain⟨e1,he1⟩:∃e1,e1=e0-2:=⟨_,rfl⟩
    have hx:=HR.out.2.2.2.1
    have TF:=Lh<| show wrap32 (e0-2)=e1 by rw[he1];unfold wrap32;omega
    have h1:=H0.out.2.2.2.1
    have hcn:Cn (v*sc s) (r*10^2) (e0-((2:Nat):Int)):=cn_amt HR.out.1 HR.out.2.1 (by omega) HR.out.2.2.1 (by decide) (by have:=H3.out;omega)
    have hcn2:Cn (v*sc s) cc e1:=by
     have q1:cc=r*10^2:=by rw[hcc];rfl
     have q2:e1=e0-((2:Nat):Int):=by rw[he1];rfl
     rw[q1,q2];exact hcn
    have HE:=Lh (Aj hcn2 (Aj (show -800≤e1∧e1≤5000 by omega) mw2))
    clear hcn hcn2 he1 hx h1 hcc hok mw mw2
    have tf:=TF.out
    go_wp2_with fail
    refine AP.out.mono ?_
    rintro e w3 ⟨v5,rfl,hbs,hm3⟩
    have HB:=Lh (Aj hbs hm3)
    clear hbs hm3
    go_wp2_with fail
    go_ret2
    exact⟨v5,cc,e1,by first|rfl|rw[tf],HE.out.1,HB.out.1.base HE.out.2.2.size,HE.out.2.2.trans HB.out.2,HE.out.2.1⟩
 ·have tq:e0.tmod 3=0:=hq
  have H3:=Lh h3
  clear hq h3
  have mw2:=H0.out.2.2.2.2.2.2.1
  have AP:=Lh (appendInt_calls r _ (H0.out.1.new mw2) HR.out.2.2.2.2 o H0.out.2.2.2.2.2.1)
  have hx:=HR.out.2.2.2.1
  have h1:=H0.out.2.2.2.1
  have hcn:Cn (v*sc s) (r*10^0) (e0-((0:Nat):Int)):=cn_amt HR.out.1 HR.out.2.1 (by omega) HR.out.2.2.1 (by decide) (by have:=H3.out;omega)
  have hcn2:Cn (v*sc s) r e0:=by simpa using hcn
  have HE:=Lh (Aj hcn2 (Aj (show -800≤e0∧e0≤5000 by omega) mw2))
  clear hcn hcn2 hx h1 mw2
  go_wp2_with fail
  refine AP.out.mono ?_
  rintro e w3 ⟨v5,rfl,hbs,hm3⟩
  have HB:=Lh (Aj hbs hm3)
  clear hbs hm3
  go_wp2_with fail
  go_ret2
  exact⟨v5,r,e0,by first|rfl|rw[te],HE.out.1,HB.out.1.base HE.out.2.2.size,HE.out.2.2.trans HB.out.2,HE.out.2.1⟩
end Go.Proofs.YtcpjclakdpjjfaaGreatDoor
