/- Words (spec/quantities. -/
import Derived.Test.YtcpjclakdpjjfaaGreatDoorC10
import Derived.LoopTactic
import Derived.Handy
import Derived.Deep.CutRange
set_option maxHeartbeats 3200000
set_option maxRecDepth 10000
namespace Go.Proofs.YtcpjclakdpjjfaaGreatDoor
open Go.RowKit Wd Dg
def BRet (P:Prop) (w:World) (e:Ending) (w':World):Prop:=(∃b,e=.returned (.bool b)∧(b=true↔P))∧Mod [] w w'
def BRet0 (P:Prop) (w:World) (e:Ending) (w':World):Prop:=(∃b,e=.returned (.bool b)∧(b=true↔P))∧w=w'
theorem spec_digits (s:ByteArray) (w:World) (hs:s.size≤9223372036854775806):Calls Tryz.prog 56 #[.string s] w (BRet0 (BD s.data.toList) w):=by
 go_enter Tryz.func56,Tryz.ntmps56
 go_wp2_with fail
 go_loop [3] (fun t3=>∃i:Nat,t3=.int .i64 i∧i≤s.size∧∀j (h:j<s.size),j<i→48≤(s[j]'h).toNat∧(s[j]'h).toNat≤57) (fun t3=>s.size-(intOf t3).toNat)
 case atStart=>exact⟨0,rfl,Nat.zero_le _,fun j _ h=>by omega⟩
 case round=>
  obtain⟨i,rfl,hi,hj⟩:=hrel
  rcases Nat.lt_or_ge i s.size with his|his
  ·have HJ:=Lh hj
   clear hj
   by_cases h1:(s[i]'his).toNat<48
   ·have t1:decide (((s[i]'his).toNat:Int)<48)=true:=by simp;omega
    go_wp2_with fail
    go_ret
    refine⟨⟨false,rfl,fun h=>(by cases h),fun h=>?_⟩,rfl⟩
    have:=(h _ (List.getElem_mem (l:=s.data.toList) (n:=i) his)).1
    have e:(s.data.toList[i]'his)=s[i]'his:=rfl
    rw[e] at this
    omega
   ·have t1:decide (((s[i]'his).toNat:Int)<48)=false:=by simp;omega
    by_cases h2:57<(s[i]'his).toNat
    ·have t2:decide ((57:Int)<((s[i]'his).toNat:Int))=true:=by simp;omega
     go_wp2_with fail
     go_ret
     refine⟨⟨false,rfl,fun h=>(by cases h),fun h=>?_⟩,rfl⟩
     have:=(h _ (List.getElem_mem (l:=s.data.toList) (n:=i) his)).2
     have e:(s.data.toList[i]'his)=s[i]'his:=rfl
     rw[e] at this
     omega
    ·have t2:decide ((57:Int)<((s[i]'his).toNat:Int))=false:=by simp;omega
     have HX:=Lh (Aj h1 h2)
     clear h1 h2
     go_wp2_with fail
     go_round
     case rel=>exact⟨i+1,by go_num,his,fun j h hj=>by
      rcases Nat.lt_succ_iff_lt_or_eq.1 hj with g|g
      ·exact HJ.out j h g
      ·subst g;have:=HX.out;omega⟩
     case measure=>simp[intOf];omega
  ·have hie:i=s.size:=by omega
   subst hie
   have HJ:=Lh hj
   clear hj his hi
   go_wp2_with fail
   go_ret
   refine⟨⟨true,rfl,fun _ c hc=>?_,fun _=>rfl⟩,rfl⟩
   obtain⟨j,hj,rfl⟩:=List.getElem_of_mem hc
   exact HJ.out j hj hj
def sgB (n:Nat):List UInt8:=if n=1 then [43] else if n=2 then [45] else []
theorem spec_qsign (n:Nat) (hn:n≤2) (w:World):Calls Tryz.prog 58 #[.int .i64 n] w fun e w'=>e=.returned (.string ⟨(sgB n).toArray⟩)∧Mod [] w w':=by
 have:n=0∨n=1∨n=2:=by omega
 rcases this with rfl|rfl|rfl
 all_goals
  go_enter Tryz.func58,Tryz.ntmps58
  go_wp2_with fail
  go_ret
  exact⟨rfl,(Mod.refl [] w).alloc _⟩
def qwv (sign:Int) (num:ByteArray) (dot:Bool) (den:ByteArray) (kind place:Int) (up:Bool) (ps:Int) (pow:ByteArray):Value:=
 .agg #[.int .i64 sign,.string num,.bool dot,.string den,.int .i64 kind,.int .i64 place,.bool up,.int .i64 ps,.string pow]
structure QRt (sign:Int) (num:ByteArray) (dot:Bool) (den:ByteArray) (kind place:Int) (ps:Int) (pow:ByteArray):Prop where
 n:BD num.data.toList
 d:BD den.data.toList
 some:num.data.toList++den.data.toList≠[]
 dot:dot=false→den.data.toList=[]
 s0:0≤sign
 s2:sign≤2
 k:(kind=2∧-1≤place∧place≤6)∨(kind=1∧1≤place∧place≤6)∨(kind=0∧BD pow.data.toList∧0<pow.size∧pow.size<4∧0≤ps∧ps≤2)
theorem isE (s:ByteArray):s.toList.isEmpty=decide (s.data.toList=[]):=by
 rw[←decide_eq_emptyBytes]
 refine decide_eq_decide.2 ⟨fun h=>by rw[h];rfl,fun h=>?_⟩
 ext1
 apply Array.ext'
 rw[h];rfl
theorem isE2 (s t:ByteArray):(s++t).toList.isEmpty=decide (s.data.toList++t.data.toList=[]):=by
 rw[isE];simp
theorem spec_right (sign:Int) (num:ByteArray) (dot:Bool) (den:ByteArray) (kind place:Int) (up:Bool) (ps:Int) (pow:ByteArray) (w:World) (h1:num.size≤2147483647) (h2:den.size≤2147483647) (h3:pow.size≤2147483647):
 Calls Tryz.prog 32 #[qwv sign num dot den kind place up ps pow] w (BRet (QRt sign num dot den kind place ps pow) w):=by
 have D1:=Lh (fun(w':World)=>spec_digits num w' (by omega))
 have D2:=Lh (fun(w':World)=>spec_digits den w' (by omega))
 have D3:=Lh (fun(w':World)=>spec_digits pow w' (by omega))
 unfold qwv
 have hd:=Hd.new w 23 #[.int .i64 sign,.string num,.bool dot,.string den,.int .i64 kind,.int .i64 place,.bool up,.int .i64 ps,.string pow]
 have mA:Mod [] w (w.alloc (.cells #[.int .i64 sign,.string num,.bool dot,.string den,.int .i64 kind,.int .i64 place,.bool up,.int .i64 ps,.string pow] 23)):=(Mod.refl [] w).alloc _
 go_enter Tryz.func32,Tryz.ntmps32
 go_wp2_with fail
 generalize w.alloc (.cells #[.int .i64 sign,.string num,.bool dot,.string den,.int .i64 kind,.int .i64 place,.bool up,.int .i64 ps,.string pow] 23)=W at*
 have c0:=hd.cell (i:=0) rfl
 have c1:=hd.cell (i:=1) rfl
 have c2:=hd.cell (i:=2) rfl
 have c3:=hd.cell (i:=3) rfl
 have c4:=hd.cell (i:=4) rfl
 have c5:=hd.cell (i:=5) rfl
 have c7:=hd.cell (i:=7) rfl
 have c8:=hd.cell (i:=8) rfl
 have MA:=Lh mA
 clear hd mA
 have hsz:¬9223372036854775807<num.size+den.size:=by omega
 refine(D1.out W).mono ?_
 rintro _ _ ⟨⟨x1,rfl,hx1⟩,rfl⟩
 rcases x1 with _|_
 ·have HX:=Lh (show ¬BD num.data.toList from fun h=>by have:=hx1.2 h;cases this)
  clear hx1
  go_wp2_with fail
  go_ret
  exact⟨⟨false,rfl,fun h=>(by cases h),fun h=>(HX.out h.n).elim⟩,MA.out⟩
 have HX1:=Lh (hx1.1 rfl)
 clear hx1
 go_wp2_with fail
 refine(D2.out W).mono ?_
 rintro _ _ ⟨⟨x1,rfl,hx1⟩,rfl⟩
 rcases x1 with _|_
 ·have HX:=Lh (show ¬BD den.data.toList from fun h=>by have:=hx1.2 h;cases this)
  clear hx1
  go_wp2_with fail
  go_ret
  exact⟨⟨false,rfl,fun h=>(by cases h),fun h=>(HX.out h.d).elim⟩,MA.out⟩
 have HX2:=Lh (hx1.1 rfl)
 clear hx1
 by_cases a1:num.data.toList++den.data.toList=[]
 ·have u1:(num++den).toList.isEmpty=true:=by rw[isE2];exact decide_eq_true a1
  have HX:=Lh a1
  clear a1
  go_wp2_with fail
  go_ret
  exact⟨⟨false,rfl,fun h=>(by cases h),fun h=>(h.some HX.out).elim⟩,MA.out⟩
 have u1:(num++den).toList.isEmpty=false:=by rw[isE2];exact decide_eq_false a1
 have HX3:=Lh a1
 clear a1
 by_cases a2:dot=false∧den.data.toList≠[]
 ·obtain⟨rfl,a2⟩:=a2
  have u2:den.toList.isEmpty=false:=by rw[isE];exact decide_eq_false a2
  have HX:=Lh a2
  clear a2
  go_wp2_with fail
  go_ret
  exact⟨⟨false,rfl,fun h=>(by cases h),fun h=>(HX.out (h.dot rfl)).elim⟩,MA.out⟩
 have HX4:=Lh (show dot=false→den.data.toList=[] from fun h=>Classical.not_not.1 fun g=>a2 ⟨h,g⟩)
 have hdt:(dot=true∧den.toList.isEmpty=true)∨(dot=true∧den.toList.isEmpty=false)∨(dot=false∧den.toList.isEmpty=true):=by
  cases dot
  ·exact .inr (.inr ⟨rfl,by rw[isE];exact decide_eq_true (HX4.out rfl)⟩)
  ·cases h:den.toList.isEmpty
   ·exact .inr (.inl ⟨rfl,rfl⟩)
   ·exact .inl ⟨rfl,rfl⟩
 clear a2
 by_cases a3:sign<0
 ·have u3:decide (sign<0)=true:=by simpa using a3
  have HX:=Lh a3
  clear a3
  rcases hdt with ⟨rfl,u2⟩|⟨rfl,u2⟩|⟨rfl,u2⟩
  all_goals
   go_wp2_with fail
   go_ret
   exact⟨⟨false,rfl,fun h=>(by cases h),fun h=>absurd h.s0 (by have:=HX.out;omega)⟩,MA.out⟩
 have u3:decide (sign<0)=false:=by simp;omega
 by_cases a4:2<sign
 ·have u4:decide (2<sign)=true:=by simpa using a4
  have HX:=Lh a4
  clear a4 a3
  rcases hdt with ⟨rfl,u2⟩|⟨rfl,u2⟩|⟨rfl,u2⟩
  all_goals
   go_wp2_with fail
   go_ret
   exact⟨⟨false,rfl,fun h=>(by cases h),fun h=>absurd h.s2 (by have:=HX.out;omega)⟩,MA.out⟩
 have u4:decide (2<sign)=false:=by simp;omega
 have HX5:=Lh (Aj (show 0≤sign by omega) (show sign≤2 by omega))
 clear a3 a4
 have MK:=Lh (fun k=>QRt.mk (ps:=ps) (pow:=pow) (kind:=kind) (place:=place) HX1.out HX2.out HX3.out HX4.out HX5.out.1 HX5.out.2 k)
 clear HX1 HX2 HX3 HX4 HX5
 by_cases a5:kind=2
 ·subst a5
  by_cases p1:-1≤place
  ·have v1:decide ((-1:Int)≤place)=true:=by simpa using p1
   by_cases p2:place≤6
   ·have v2:decide (place≤6)=true:=by simpa using p2
    have HX:=Lh (MK.out (.inl ⟨rfl,p1,p2⟩))
    clear p1 p2
    rcases hdt with ⟨rfl,u2⟩|⟨rfl,u2⟩|⟨rfl,u2⟩
    all_goals
     go_wp2_with fail
     go_ret
     exact⟨⟨true,rfl,fun _=>HX.out,fun _=>rfl⟩,MA.out⟩
   ·have v2:decide (place≤6)=false:=by simp;omega
    have HX:=Lh (show ∀dot,¬QRt sign num dot den 2 place ps pow from fun dot h=>by have:=h.k;omega)
    clear p1 p2
    rcases hdt with ⟨rfl,u2⟩|⟨rfl,u2⟩|⟨rfl,u2⟩
    all_goals
     go_wp2_with fail
     go_ret
     exact⟨⟨false,rfl,fun h=>(by cases h),fun h=>(HX.out _ h).elim⟩,MA.out⟩
  ·have v1:decide ((-1:Int)≤place)=false:=by simp;omega
   have HX:=Lh (show ∀dot,¬QRt sign num dot den 2 place ps pow from fun dot h=>by have:=h.k;omega)
   clear p1
   rcases hdt with ⟨rfl,u2⟩|⟨rfl,u2⟩|⟨rfl,u2⟩
   all_goals
    go_wp2_with fail
    go_ret
    exact⟨⟨false,rfl,fun h=>(by cases h),fun h=>(HX.out _ h).elim⟩,MA.out⟩
 have w5:(kind==2)=false:=by simpa using a5
 by_cases a6:kind=1
 ·subst a6
  by_cases p1:1≤place
  ·have v1:decide ((1:Int)≤place)=true:=by simpa using p1
   by_cases p2:place≤6
   ·have v2:decide (place≤6)=true:=by simpa using p2
    have HX:=Lh (MK.out (.inr (.inl ⟨rfl,p1,p2⟩)))
    clear p1 p2
    rcases hdt with ⟨rfl,u2⟩|⟨rfl,u2⟩|⟨rfl,u2⟩
    all_goals
     go_wp2_with fail
     go_ret
     exact⟨⟨true,rfl,fun _=>HX.out,fun _=>rfl⟩,MA.out⟩
   ·have v2:decide (place≤6)=false:=by simp;omega
    have HX:=Lh (show ∀dot,¬QRt sign num dot den 1 place ps pow from fun dot h=>by have:=h.k;omega)
    clear p1 p2
    rcases hdt with ⟨rfl,u2⟩|⟨rfl,u2⟩|⟨rfl,u2⟩
    all_goals
     go_wp2_with fail
     go_ret
     exact⟨⟨false,rfl,fun h=>(by cases h),fun h=>(HX.out _ h).elim⟩,MA.out⟩
  ·have v1:decide ((1:Int)≤place)=false:=by simp;omega
   have HX:=Lh (show ∀dot,¬QRt sign num dot den 1 place ps pow from fun dot h=>by have:=h.k;omega)
   clear p1
   rcases hdt with ⟨rfl,u2⟩|⟨rfl,u2⟩|⟨rfl,u2⟩
   all_goals
    go_wp2_with fail
    go_ret
    exact⟨⟨false,rfl,fun h=>(by cases h),fun h=>(HX.out _ h).elim⟩,MA.out⟩
 have w6:(kind==1)=false:=by simpa using a6
 by_cases a7:kind=0
 ·subst a7
  clear a5 a6 w5 w6
  have MK0:=Lh (fun(a:BD pow.data.toList) (b:0<pow.size) (c:pow.size<4) (d:0≤ps) (e:ps≤2)=>MK.out (.inr (.inr ⟨rfl,a,b,c,d,e⟩)))
  clear MK
  rcases hdt with ⟨rfl,u2⟩|⟨rfl,u2⟩|⟨rfl,u2⟩
  all_goals
   go_wp2_with fail
   refine(D3.out W).mono ?_
   rintro _ _ ⟨⟨x1,rfl,hx1⟩,rfl⟩
   rcases x1 with _|_
   ·have HX:=Lh (show ∀dot,¬QRt sign num dot den 0 place ps pow from fun dot hh=>by have h:=hh.k;rcases h with h|h|h;omega;omega;have:=hx1.2 h.2.1;cases this)
    clear hx1
    go_wp2_with fail
    go_ret
    exact⟨⟨false,rfl,fun h=>(by cases h),fun h=>(HX.out _ h).elim⟩,MA.out⟩
   ·have HX1:=Lh (hx1.1 rfl)
    clear hx1
    by_cases r1:0<pow.size
    ·have vr1:decide (0<pow.size)=true:=by simpa using r1
     have vr1':decide ((0:Int)<(pow.size:Int))=true:=by simp;omega
     by_cases r2:pow.size<4
     ·have vr2:decide (pow.size<4)=true:=by simpa using r2
      have vr2':decide ((pow.size:Int)<4)=true:=by simp;omega
      by_cases r3:0≤ps
      ·have vr3:decide ((0:Int)≤ps)=true:=by simpa using r3
       by_cases r4:ps≤2
       ·have vr4:decide (ps≤2)=true:=by simpa using r4
        have HX:=Lh (MK0.out HX1.out r1 r2 r3 r4)
        clear r1 r2 r3 r4
        go_wp2_with fail
        go_ret
        exact⟨⟨true,rfl,fun _=>HX.out,fun _=>rfl⟩,MA.out⟩
       ·have vr4:decide (ps≤2)=false:=by simp;omega
        have HX:=Lh (show ∀dot,¬QRt sign num dot den 0 place ps pow from fun dot h=>by have:=h.k;omega)
        clear r1 r2 r3 r4
        go_wp2_with fail
        go_ret
        exact⟨⟨false,rfl,fun h=>(by cases h),fun h=>(HX.out _ h).elim⟩,MA.out⟩
      ·have vr3:decide ((0:Int)≤ps)=false:=by simp;omega
       have HX:=Lh (show ∀dot,¬QRt sign num dot den 0 place ps pow from fun dot h=>by have:=h.k;omega)
       clear r1 r2 r3
       go_wp2_with fail
       go_ret
       exact⟨⟨false,rfl,fun h=>(by cases h),fun h=>(HX.out _ h).elim⟩,MA.out⟩
     ·have vr2:decide (pow.size<4)=false:=by simp;omega
      have vr2':decide ((pow.size:Int)<4)=false:=by simp;omega
      have HX:=Lh (show ∀dot,¬QRt sign num dot den 0 place ps pow from fun dot h=>by have:=h.k;omega)
      clear r1 r2
      go_wp2_with fail
      go_ret
      exact⟨⟨false,rfl,fun h=>(by cases h),fun h=>(HX.out _ h).elim⟩,MA.out⟩
    ·have vr1:decide (0<pow.size)=false:=decide_eq_false (by omega)
     have vr1':decide ((0:Int)<(pow.size:Int))=false:=decide_eq_false (by omega)
     have HX:=Lh (show ∀dot,¬QRt sign num dot den 0 place ps pow from fun dot h=>by have:=h.k;omega)
     clear r1
     go_wp2_with fail
     go_ret
     exact⟨⟨false,rfl,fun h=>(by cases h),fun h=>(HX.out _ h).elim⟩,MA.out⟩
 have w7:(kind==0)=false:=by simpa using a7
 have HX:=Lh (show ∀dot,¬QRt sign num dot den kind place ps pow from fun dot h=>by have:=h.k;omega)
 clear a5 a6 a7
 rcases hdt with ⟨rfl,u2⟩|⟨rfl,u2⟩|⟨rfl,u2⟩
 all_goals
  go_wp2_with fail
  go_ret
  exact⟨⟨false,rfl,fun h=>(by cases h),fun h=>(HX.out _ h).elim⟩,MA.out⟩
end Go.Proofs.YtcpjclakdpjjfaaGreatDoor
