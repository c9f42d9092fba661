/- A text taken as a quantity; its canonical form (resource/quantity. -/
import Derived.Test.YtcpjclakdpjjfaaGreatDoorC41
import Derived.Test.YtcpjclakdpjjfaaGreatDoorC42
import Derived.Deep.RegionHeld3
import Derived.Deep.RegionLaw
set_option maxHeartbeats 3200000
namespace Go.Proofs.YtcpjclakdpjjfaaGreatDoor
open Go.RowKit Wd Dg
theorem parse_calls (s:ByteArray) (fn:Nat) (V:Int) (w:World) (he:Env2 w) (h:WordT s fn V):Calls Tryz.prog 35 #[.string s] w (PqRet fn V w):=by
 obtain⟨g,A,D,S,dot,x,hp,hV⟩:=WordT.parts h
 by_cases h48:s.data.toList=[48]
 ·obtain rfl:s=⟨#[48]⟩:=by ext1;apply Array.ext';rw[h48]
  obtain⟨h1,h2⟩:=hp.nought
  subst h1
  rw[hV,h2]
  exact parse_nought w
 ·by_cases h1:fn=1
  ·subst h1
   exact parse_bin s V g A D S dot x w he hp hV h.ok h48
  ·exact parse_dec s fn h1 V g A D S dot x w he hp hV h.ok h48
theorem fault_nil (w:World):Calls Tryz.prog 36 #[.nilIface] w fun e w'=>e=.returned (.int .i64 0)∧w=w':=by
 go_enter Tryz.func36,Tryz.ntmps36
 go_wp2_with fail
 go_ret
 exact⟨rfl,rfl⟩
def TxRet (fn:Nat) (V:Int) (w:World) (e:Ending) (w':World):Prop:=∃t:List UInt8,e=.returned (.tuple #[.string ⟨t.toArray⟩,.int .i64 fn,.int .i64 0])∧CanTxt fn V t∧Mod [] w w'
theorem PqRet.laid {w w1:World} {v s V:Int} {q:Option Addr} {st fb:ByteArray} {bl:List Nat} (ok:QOk w1 v s (.pointer q) V bl) (m:Mod [] w w1) (he:Env2 w):Qy (w1.alloc (.cells (qc v s (.pointer q) (.string st) (.string fb)) 70)) w1.heap.size V (.string fb) bl∧Env2 (w1.alloc (.cells (qc v s (.pointer q) (.string st) (.string fb)) 70))∧Mod [] w (w1.alloc (.cells (qc v s (.pointer q) (.string st) (.string fb)) 70)):=by
 have ma:Mod [] w1 (w1.alloc (.cells (qc v s (.pointer q) (.string st) (.string fb)) 70)):=(Mod.refl [] w1).alloc _
 have he1:=he.mod m (by simp)
 exact⟨⟨⟨v,s,.pointer q,.string st,Hd.new w1 70 _,ok.mod ma (by simp)⟩,he1.env.big⟩,he1.mod ma (by simp),m.trans ma⟩
theorem text_calls (s:ByteArray) (fn:Nat) (V:Int) (w:World) (he:Env2 w) (h:WordT s fn V):Calls Tryz.prog 11 #[.string s] w (TxRet fn V w):=by
 have P:=Lh (parse_calls s fn V w he h)
 have HH:=Lh (Aj he (can_may h.ok))
 clear he h
 go_enter Tryz.func11,Tryz.ntmps11
 go_wp2_with fail
 refine P.out.mono ?_
 rintro e w1 ⟨v,sc,q,st,fb,bl,rfl,hf,ok,-,-,m⟩
 have L:=Lh (PqRet.laid (st:=st) (fb:=fb) ok m HH.out.1)
 have HF:=Lh hf
 clear hf ok m P
 unfold qv
 go_upto_region 4 with fail
 obtain⟨hq,hee,hm⟩:=L.out
 unfold qc at hq hee hm
 have hd:=Hd.new w1 70 #[.int .i64 v,.int .i32 sc,.pointer q,.string st,.string fb]
 generalize w1.alloc (.cells #[.int .i64 v,.int .i32 sc,.pointer q,.string st,.string fb] 70)=W at*
 generalize w1.heap.size=bq at*
 have CA:=Lh (fun w' (m:Mod [] W w')=>canonical_calls fb fn HF.out bq V bl w' (hee.mod m (by simp)) (hq.mod m (by simp) (by simp)) HH.out.2)
 have FO:=Lh (fun w'=>formatOf_calls fb fn HF.out w')
 have HP:=Lh (fun(w':World) (m:Mod [] W w')=>show w'.cell? ⟨bq,4,none⟩=some (.string fb) from Hd.cell (Hd.mod hd m (by simp)) rfl)
 have d0:=HP.out W (Mod.refl _ _)
 have HM:=Lh hm
 clear hq hee hm hd L
 go_region_held3 (fun w'=>w'.cell? ⟨bq,4,none⟩=some (.string fb)) (go_keep) (first|(go_at_call 37;refine(CA.out _ ((Mod.refl [] W).drewN _)).mono ?_;rintro e w2 ⟨t,rfl,ht,m2⟩;have HT:=Lh ht;have M2:=Lh (((Mod.refl [] W).drewN _).trans m2);have d1:=HP.out w2 M2.out;clear m2 ht)|(go_at_call 38;refine(FO.out _).mono ?_;rintro e w2 ⟨rfl,rfl⟩))
 go_wp2_with fail
 go_ret3
 exact⟨t,rfl,HT.out,HM.out.trans M2.out⟩
theorem awake_scale:(qV (decide (([]:List UInt8)=[45])) [49] [53] 1 30)=1610612736*(sc 0:Int):=by
 have h:sc 0=10^1*sc (-1):=sc_split (s:=-1) (c:=0) (k:=1) rfl (by decide)
 have hb:bv ([49]++[53])=15:=by decide
 unfold qV
 rw[if_pos rfl,hb,h]
 show sg (decide (([]:List UInt8)=[45]))*((15:Nat):Int)*((2^30:Nat):Int)*(sc (-1):Int)=1610612736*((10^1*sc (-1):Nat):Int)
 generalize sc (-1)=z
 have h2:sg (decide (([]:List UInt8)=[45]))=1:=rfl
 rw[h2]
 have h3:((2^30:Nat):Int)=1073741824:=by decide
 have h4:((10^1:Nat):Int)=10:=by decide
 rw[h3,Int.natCast_mul,h4]
 omega
theorem awake_ok:CanOk 1 (1610612736*(sc 0:Int)):=by
 have hp:=sc_pos 0
 refine⟨?_,⟨1610612736000,?_⟩,fun _=>.inr ⟨⟨_,rfl⟩,?_⟩⟩
 ·rw[Int.natAbs_mul,Int.natAbs_natCast];exact Nat.mul_le_mul_right _ (by decide)
 ·rw[sc_split (s:=-3) (c:=0) (k:=3) rfl (by decide)]
  generalize sc (-3)=z
  have h3:((10^3:Nat):Int)=1000:=by decide
  rw[Int.natCast_mul,h3]
  omega
 ·rw[Int.natAbs_mul,Int.natAbs_natCast]
  intro h
  have:=Nat.eq_of_mul_eq_mul_right hp h
  revert this;decide
theorem awake_word:WordT ⟨#[49,46,53,71,105]⟩ 1 (1610612736*(sc 0:Int)):=
 ⟨⟨[],[49],[53],[71,105],true,30,rfl,.inl rfl,bd_of (by decide),bd_of (by decide),(fun h=>by cases h),by decide,.inr (.inl ⟨rfl,3,by decide,by decide,rfl,rfl⟩),by decide,awake_scale.symm⟩,awake_ok⟩
theorem awake_text {t:List UInt8} (h:CanTxt 1 (1610612736*(sc 0:Int)) t):t=[49,53,51,54,77,105]:=by
 have hb:Bn 1610612736 1536 2:=bn_done (by decide) (by decide) (by decide) (.inl (by decide))
 have:=CanTxt.unique h (can_bin hb (by decide) (by decide))
 rw[this]
 decide+kernel
theorem awake_calls (w:World) (he:Env2 w):Calls Tryz.prog 13 #[] w fun e w'=>e=.returned (.bool true)∧Mod [] w w':=by
 have T:=Lh (text_calls ⟨#[49,46,53,71,105]⟩ 1 _ w he awake_word)
 clear he
 go_enter Tryz.func13,Tryz.ntmps13
 go_wp2_with fail
 refine T.out.mono ?_
 rintro e w1 ⟨t,rfl,ht,m⟩
 obtain rfl:=awake_text ht
 have M:=Lh m
 clear ht m T
 go_wp2_with fail
 go_ret
 exact⟨rfl,M.out⟩
theorem fits_calls (sign:Int) (num:ByteArray) (dot:Bool) (den:ByteArray) (kind place:Int) (up:Bool) (ps:Int) (pow:ByteArray) (w:World):
 Calls Tryz.prog 9 #[qwv sign num dot den kind place up ps pow] w fun e w'=>(∃b:Bool,e=.returned (.bool b)∧(b=true→num.size≤2147483647∧den.size≤2147483647∧pow.size≤2147483647))∧Mod [] w w':=by
 have hd:=Hd.new w 23 #[.int .i64 sign,.string num,.bool dot,.string den,.int .i64 kind,.int .i64 place,.bool up,.int .i64 ps,.string pow]
 have m:=(Mod.refl [] w).alloc (.cells #[.int .i64 sign,.string num,.bool dot,.string den,.int .i64 kind,.int .i64 place,.bool up,.int .i64 ps,.string pow] 23)
 have HH:=Lh (Aj hd m)
 clear hd m
 unfold qwv
 go_enter Tryz.func9,Tryz.ntmps9
 by_cases h1:2147483647<num.size
 ·have t1:decide ((2147483647:Int)<(num.size:Int))=true:=decide_eq_true (by omega)
  go_wp2_with fail
  go_ret
  exact⟨⟨false,rfl,fun h=>by cases h⟩,HH.out.2⟩
 have t1:decide ((2147483647:Int)<(num.size:Int))=false:=decide_eq_false (by omega)
 by_cases h2:2147483647<den.size
 ·have t2:decide ((2147483647:Int)<(den.size:Int))=true:=decide_eq_true (by omega)
  go_wp2_with fail
  go_ret
  exact⟨⟨false,rfl,fun h=>by cases h⟩,HH.out.2⟩
 have t2:decide ((2147483647:Int)<(den.size:Int))=false:=decide_eq_false (by omega)
 by_cases h3:2147483647<pow.size
 ·have t3:decide ((2147483647:Int)<(pow.size:Int))=true:=decide_eq_true (by omega)
  go_wp2_with fail
  go_ret
  exact⟨⟨false,rfl,fun h=>by cases h⟩,HH.out.2⟩
 have t3:decide ((2147483647:Int)<(pow.size:Int))=false:=decide_eq_false (by omega)
 have HS:=Lh (show num.size≤2147483647∧den.size≤2147483647∧pow.size≤2147483647 by omega)
 go_wp2_with fail
 go_ret
 exact⟨⟨true,rfl,fun _=>HS.out⟩,HH.out.2⟩
end Go.Proofs.YtcpjclakdpjjfaaGreatDoor
