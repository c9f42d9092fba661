/- The pieces of a quantity's text (resource/quantity. -/
import Derived.Test.YtcpjclakdpjjfaaGreatDoorC35
import Derived.WalkMore
import Derived.Deep.CutRange
set_option maxHeartbeats 16000000
set_option maxRecDepth 20000
namespace Go.Proofs.YtcpjclakdpjjfaaGreatDoor
open Go.RowKit Wd Dg
theorem results_tmp6 {fn:Func} {t u v x y z:Tmp} (h:fn.results=#[.tmp t,.tmp u,.tmp v,.tmp x,.tmp y,.tmp z]) (tmps:Array Value) (P:Program) (w:World):
 (results fn tmps).run P w=.ok (.tuple #[tmps.getD t undef,tmps.getD u undef,tmps.getD v undef,tmps.getD x undef,tmps.getD y undef,tmps.getD z undef]) w:=by
 simp[results,h]
theorem Dgt.ten {c:UInt8} (h:Dgt c):(c.toNat:Int)=48∨(c.toNat:Int)=49∨(c.toNat:Int)=50∨(c.toNat:Int)=51∨(c.toNat:Int)=52∨(c.toNat:Int)=53∨(c.toNat:Int)=54∨(c.toNat:Int)=55∨(c.toNat:Int)=56∨(c.toNat:Int)=57:=by
 unfold Dgt at h;omega
theorem Dgt.not {c:UInt8} (h:¬Dgt c):((c.toNat:Int)==48)=false∧((c.toNat:Int)==49)=false∧((c.toNat:Int)==50)=false∧((c.toNat:Int)==51)=false∧((c.toNat:Int)==52)=false∧((c.toNat:Int)==53)=false∧((c.toNat:Int)==54)=false∧((c.toNat:Int)==55)=false∧((c.toNat:Int)==56)=false∧((c.toNat:Int)==57)=false:=by
 unfold Dgt at h
 simp only[beq_eq_false_iff_ne,ne_eq]
 omega
theorem byteNe {c:UInt8} {n:Nat} (h:c.toNat≠n):((c.toNat:Int)==(n:Int))=false:=by
 rw[beq_eq_false_iff_ne];omega
theorem ext_all (s:ByteArray):s.extract 0 s.size=s:=by simp
theorem toNat_ne {c d:UInt8} (h:c≠d):c.toNat≠d.toNat:=fun e=>h (UInt8.toNat_inj.1 e)
def PsRet (s:ByteArray) (p1 p2 p3:Nat) (neg dot:Bool) (w:World) (e:Ending) (w':World):Prop:=
 (∃value num denom sfx,e=.returned (.tuple #[.bool (!neg),.string value,.string num,.string denom,.string sfx,.nilIface])∧PsRaw s p1 p2 p3 dot value num denom sfx)∧Mod [] w w'
theorem PsRet.mk {s:ByteArray} {p1 p2 p3:Nat} {neg dot:Bool} {w w':World} {value num denom sfx:ByteArray} (h:PsRaw s p1 p2 p3 dot value num denom sfx) (m:Mod [] w w'):PsRet s p1 p2 p3 neg dot w (.returned (.tuple #[.bool (!neg),.string value,.string num,.string denom,.string sfx,.nilIface])) w':=⟨⟨_,_,_,_,rfl,h⟩,m⟩
theorem split_calls (s:ByteArray) (p0 p1 p2 p3 p4 p5:Nat) (neg dot:Bool) (h:Pos s p0 p1 p2 p3 p4 p5 neg dot) (w:World):
 Calls Tryz.prog 59 #[.string s] w (PsRet s p1 p2 p3 neg dot w):=by
 have o0:=h.o0;have o1:=h.o1;have o2:=h.o2;have o3:=h.o3;have o4:=h.o4;have o5:=h.o5;have o6:=h.o6;have one:=h.one;have big:=h.big
 have HP:=Lh h
 have O:=Lh (Aj o0 (Aj o1 (Aj o2 (Aj o3 (Aj o4 (Aj o5 o6))))))
 clear h o0 o1 o2 o3 o4 o5 o6
 go_enter Tryz.func59,Tryz.ntmps59
 go_wp2_with fail
 go_step3
 go_upto_if 20 with fail
 go_cut [2,8] from 18 to 30 (fun t2 t8 wx=>t2=.bool (!neg)∧t8=.int .i64 p0∧w=wx)
 case first=>
  have hp:p0=0∨p0=1:=by have:=O.out.1;omega
  rcases hp with rfl|rfl
  ·obtain⟨rfl,k⟩:=HP.out.s0 rfl
   have k1:=k one
   have t1:=byteNe (toNat_ne k1.1)
   have t2:=byteNe (toNat_ne k1.2)
   simp only[show (43:UInt8).toNat=43 from rfl,show (45:UInt8).toNat=45 from rfl] at t1 t2
   clear k k1
   go_wp2_with fail
   go_meet
   case rel=>exact⟨rfl,rfl,rfl⟩
  ·rcases HP.out.s1 rfl one with ⟨k,rfl⟩|⟨k,rfl⟩
   ·have t1:((s[0]'one).toNat:Int)=45:=by rw[k];rfl
    clear k
    go_wp2_with fail
    go_meet
    case rel=>exact⟨rfl,rfl,rfl⟩
   ·have t1:((s[0]'one).toNat:Int)=43:=by rw[k];rfl
    clear k
    go_wp2_with fail
    go_meet
    case rel=>exact⟨rfl,rfl,rfl⟩
 case rest=>
 obtain⟨rfl,rfl,rfl⟩:=hcut
 go_wp2_with fail
 go_step3
 go_wp2_with fail
 go_loop [8,10] (fun t8 t10=>∃i:Nat,t8=.int .i64 i∧t10=.int .i64 i∧p0≤i∧i≤p1) (fun _ t10=>s.size-(intOf t10).toNat)
 case atStart=>exact⟨p0,rfl,rfl,Nat.le_refl _,O.out.2.1⟩
 case round=>
 obtain⟨i,rfl,rfl,hi0,hi1⟩:=hrel
 rcases Nat.lt_or_ge i s.size with his|his
 case inr=>
  have hp:p1=s.size:=by have:=O.out;omega
  have HH:=Lh hp
  clear hp hi0 hi1
  go_wp2_with fail
  refine bodyPost_ret (results_tmp6 rfl _ _ _) rfl ?_
  exact PsRet.mk (.inl ⟨HH.out,rfl,rfl,rfl,rfl⟩) (Mod.refl _ _)
 by_cases hz:i<p1
 ·have t1:((s[i]'his).toNat:Int)=48:=by rw[HP.out.zero i his hi0 hz];rfl
  go_wp2_with fail
  go_round
  case rel=>exact⟨i+1,by go_num,by go_num,by omega,by omega⟩
  case measure=>simp[intOf];omega
 obtain rfl:i=p1:=by omega
 have t1:=byteNe (toNat_ne (HP.out.nzero his))
 simp only[show (48:UInt8).toNat=48 from rfl] at t1
 clear hz hi0 hi1
 go_wp2_with fail
 go_step3
 go_wp2_with fail
 clear t1
 have h1s:=his
 go_loop [8,11] (fun t8 t11=>∃j:Nat,t8=.int .i64 i∧t11=.int .i64 j∧i≤j∧j≤p2) (fun _ t11=>s.size-(intOf t11).toNat)
 case atStart=>exact⟨i,rfl,rfl,Nat.le_refl _,O.out.2.2.1⟩
 case round=>
 obtain⟨j,rfl,rfl,hj0,hj1⟩:=hrel
 rcases Nat.lt_or_ge j s.size with his|his
 case inr=>
  have hp:p2=s.size∧p3=s.size:=by have:=O.out;omega
  have hi:i≤s.size:=by omega
  have HH:=Lh hp
  have H1:=Lh h1s
  clear hp hj0 hj1 h1s
  go_wp2_with fail
  refine bodyPost_ret (results_tmp6 rfl _ _ _) rfl ?_
  obtain⟨e2,e3⟩:=HH.out
  refine PsRet.mk (.inr ⟨H1.out,by rw[e3,ext_all],.inr ⟨by have:=H1.out;omega,by rw[e2]⟩,.inl ⟨?_,rfl⟩,.inl ⟨e3,rfl⟩⟩) (Mod.refl _ _)
  cases hd:dot with
  |false=>rfl
  |true=>have:=(HP.out.point hd).1;omega
 by_cases hz:j<p2
 ·have hd:=(HP.out.num j his hj0 hz).ten
  rcases hd with e|e|e|e|e|e|e|e|e|e
  all_goals
   go_wp2_with fail
   go_round
   case rel=>exact⟨j+1,rfl,by go_num,by omega,by omega⟩
   case measure=>simp[intOf];omega
 obtain rfl:j=p2:=by omega
 obtain⟨a0,a1,a2,a3,a4,a5,a6,a7,a8,a9⟩:=Dgt.not (HP.out.nnum his).1
 have hle:i≤j:=hj0
 have hle2:j≤s.size:=by omega
 clear hz hj0 hj1
 go_upto_if 79 with fail
 clear a0 a1 a2 a3 a4 a5 a6 a7 a8 a9
 obtain⟨nm,hnm⟩:∃nm,s.extract i j=nm:=⟨_,rfl⟩
 have hns:nm.size=j-i:=by rw[←hnm,ByteArray.size_extract];omega
 rw[hnm]
 have HN:=Lh (Aj hnm hns)
 clear hnm hns
 go_cut [4] from 48 to 79 (fun t4 wx=>∃m,t4=.string m∧((i=j∧m=⟨#[48]⟩)∨(i<j∧m=s.extract i j))∧w=wx)
 case first=>
  rcases Nat.lt_or_ge i j with hij|hij
  ·have t1:(((j-i:Nat):Int)==0)=false:=by rw[beq_eq_false_iff_ne];omega
   have HI:=Lh hij
   clear hij
   go_wp2_with fail
   go_meet
   case rel=>exact⟨nm,rfl,.inr ⟨HI.out,HN.out.1.symm⟩,rfl⟩
  ·have t1:(((j-i:Nat):Int)==0)=true:=by rw[beq_iff_eq];omega
   have HI:=Lh (show i=j by omega)
   clear hij
   go_wp2_with fail
   go_meet
   case rel=>exact⟨_,rfl,.inl ⟨HI.out,rfl⟩,rfl⟩
 case rest=>
 obtain⟨m,rfl,hm,rfl⟩:=hcut
 have HM:=Lh hm
 clear hm HN
 go_upto_if 88 with fail
 go_cut [3,5,8,12] from 48 to 122 (fun _ t5 t8 _ wx=>∃dn,t5=.string dn∧((dot=false∧dn=⟨#[]⟩)∨(dot=true∧dn=s.extract (j+1) p3))∧t8=.int .i64 p3∧p3<s.size∧w=wx)
 case first=>
  rcases Bool.eq_false_or_eq_true dot with hdot|hdot
  rotate_left
  ·have hp3:=HP.out.none hdot
   have t1:=byteNe (toNat_ne ((HP.out.nnum his).2 hdot))
   simp only[show (46:UInt8).toNat=46 from rfl] at t1
   have H3:=Lh hp3
   have HD:=Lh hdot
   clear hp3 hdot
   go_wp2_with fail
   go_meet
   case rel=>exact⟨_,rfl,.inl ⟨HD.out,rfl⟩,by rw[H3.out],by rw[H3.out];exact his,rfl⟩
  ·obtain⟨hp3,hpt⟩:=HP.out.point hdot
   have t1:((s[j]'his).toNat:Int)=46:=by rw[hpt his];rfl
   have H3:=Lh hp3
   clear hp3 hpt
   have HD:=Lh hdot
   clear hdot
   go_wp2_with fail
   go_step3
   go_wp2_with fail
   go_step3
   go_wp2_with fail
   clear t1
   obtain⟨q,hq⟩:∃q,j+1=q:=⟨_,rfl⟩
   have HQ:=Lh hq
   clear hq
   go_loop [8,12] (fun t8 t12=>∃k:Nat,t8=.int .i64 q∧t12=.int .i64 k∧q≤k∧k≤p3) (fun _ t12=>s.size-(intOf t12).toNat)
   case atStart=>exact⟨q,by rw[←HQ.out];go_num,by rw[←HQ.out];go_num,Nat.le_refl _,by have:=H3.out;have:=HQ.out;omega⟩
   case round=>
   obtain⟨k,rfl,rfl,hk0,hk1⟩:=hrel
   rcases Nat.lt_or_ge k s.size with hks|hks
   case inr=>
    have hp:p3=s.size:=by have:=O.out;omega
    have hq:q≤s.size:=by omega
    have HH:=Lh hp
    clear hp hk0 hk1
    go_wp2_with fail
    refine bodyPost_ret (results_tmp6 rfl _ _ _) rfl ?_
    have e3:=HH.out
    exact PsRet.mk (.inr ⟨h1s,by rw[e3,ext_all],HM.out,.inr ⟨HD.out,by rw[HQ.out,e3]⟩,.inl ⟨e3,rfl⟩⟩) (Mod.refl _ _)
   by_cases hz:k<p3
   ·have hd:=(HP.out.den k hks (by have:=HQ.out;omega) hz).ten
    rcases hd with e|e|e|e|e|e|e|e|e|e
    all_goals
     go_wp2_with fail
     go_round
     case rel=>exact⟨k+1,rfl,by go_num,by omega,by omega⟩
     case measure=>simp[intOf];omega
   obtain rfl:k=p3:=by omega
   obtain⟨a0,a1,a2,a3,a4,a5,a6,a7,a8,a9⟩:=Dgt.not (HP.out.nden hks)
   have hle3:q≤k:=hk0
   have hle4:k≤s.size:=by omega
   clear hz hk0 hk1
   go_wp2_with fail
   go_meet
   case rel=>exact⟨_,rfl,.inr ⟨HD.out,by rw[HQ.out]⟩,rfl,hks,rfl⟩
 case rest=>
 obtain⟨dn,rfl,hdn,rfl,h3s,rfl⟩:=hcut
 have HDN:=Lh hdn
 clear hdn
 have hle5:p3≤s.size:=by omega
 go_wp2_with fail
 go_loopw [14] (fun t14 wr=>∃k:Nat,t14=.int .i64 k∧p3≤k∧k≤p4∧Mod [] w wr) (fun t14 _=>s.size-(intOf t14).toNat)
 case atStart=>exact⟨p3,rfl,Nat.le_refl _,O.out.2.2.2.2.1,Mod.refl _ _⟩
 case round=>
 obtain⟨k,rfl,hk0,hk1,hmod⟩:=hrel
 have MW:=Lh hmod
 clear hmod
 rcases Nat.lt_or_ge k s.size with hks|hks
 case inr=>
  have HS:=Lh h3s
  clear h3s hk0 hk1
  go_wp2_with fail
  refine bodyPost_ret (results_tmp6 rfl _ _ _) rfl ?_
  exact PsRet.mk (.inr ⟨h1s,rfl,HM.out,HDN.out,.inr ⟨HS.out,rfl⟩⟩) MW.out
 have hk2:k≤k+1:=by omega
 have hk3:k+1≤s.size:=hks
 by_cases hz:k<p4
 ·have hl:=HP.out.letter k hks hk0 hz
  have C:=Lh (containsAny_at s k hks (mem_letters hl).2.2.2.2 wr)
  rw[decide_eq_true hl] at C
  clear hl
  go_wp2_with fail
  refine C.out.mono ?_
  rintro e w2 ⟨rfl,m2⟩
  have M2:=Lh (MW.out.trans m2)
  clear m2
  go_wp2_with fail
  go_roundw
  case rel=>exact⟨k+1,by go_num,by omega,by omega,M2.out⟩
  case measure=>simp[intOf];omega
 obtain rfl:k=p4:=by omega
 have hl:=HP.out.nletter hks
 have C:=Lh (containsAny_at s k hks hl.2 wr)
 rw[decide_eq_false hl.1] at C
 clear hl hz hk0 hk1
 go_wp2_with fail
 refine C.out.mono ?_
 rintro e w2 ⟨rfl,m2⟩
 have M2:=Lh (MW.out.trans m2)
 clear m2 C
 go_upto_if 147 with fail
 go_cut [8] from 130 to 155 (fun t8 wx=>t8=.int .i64 p5∧w2=wx)
 case first=>
  rcases HP.out.sign hks with ⟨e5,e|e⟩|⟨e5,e,e'⟩
  ·have t1:((s[k]'hks).toNat:Int)=43:=by rw[e];rfl
   have H5:=Lh e5
   clear e e5
   go_wp2_with fail
   go_meet
   case rel=>exact⟨by rw[H5.out];go_num,rfl⟩
  ·have t1:((s[k]'hks).toNat:Int)=45:=by rw[e];rfl
   have H5:=Lh e5
   clear e e5
   go_wp2_with fail
   go_meet
   case rel=>exact⟨by rw[H5.out];go_num,rfl⟩
  ·have t1:=byteNe (toNat_ne e)
   have t2:=byteNe (toNat_ne e')
   simp only[show (43:UInt8).toNat=43 from rfl,show (45:UInt8).toNat=45 from rfl] at t1 t2
   have H5:=Lh e5
   clear e e' e5
   go_wp2_with fail
   go_meet
   case rel=>exact⟨by rw[H5.out],rfl⟩
 case rest=>
 obtain⟨rfl,rfl⟩:=hcut
 go_wp2_with fail
 go_step3
 go_wp2_with fail
 go_loop [15] (fun t15=>∃q:Nat,t15=.int .i64 q∧p5≤q) (fun t15=>s.size-(intOf t15).toNat)
 case atStart=>exact⟨p5,rfl,Nat.le_refl _⟩
 case round=>
 obtain⟨q,rfl,hq0⟩:=hrel
 rcases Nat.lt_or_ge q s.size with hqs|hqs
 case inr=>
  have HS:=Lh h3s
  clear h3s
  go_wp2_with fail
  refine bodyPost_ret (results_tmp6 rfl _ _ _) rfl ?_
  exact PsRet.mk (.inr ⟨h1s,rfl,HM.out,HDN.out,.inr ⟨HS.out,rfl⟩⟩) M2.out
 have hd:=(HP.out.pow q hqs hq0).ten
 rcases hd with e|e|e|e|e|e|e|e|e|e
 all_goals
  go_wp2_with fail
  go_round
  case rel=>exact⟨q+1,by go_num,by omega⟩
  case measure=>simp[intOf];omega
end Go.Proofs.YtcpjclakdpjjfaaGreatDoor
