/- A word as it is written (spec/quantities. -/
import Derived.Test.YtcpjclakdpjjfaaGreatDoorC32
set_option maxHeartbeats 3200000
set_option maxRecDepth 10000
namespace Go.Proofs.YtcpjclakdpjjfaaGreatDoor
open Go.RowKit Wd Dg
def qsfx (kind place:Int) (up:Bool) (ps:Int) (pow:ByteArray):List UInt8:=
 if kind=2 then (if place=-1 then [109] else if place=0 then [] else if place=1 then [107] else if place=2 then [77] else if place=3 then [71] else if place=4 then [84] else if place=5 then [80] else [69])
 else if kind=1 then sfxB place.toNat
 else (if up then 69 else 101)::(sgB ps.toNat++pow.data.toList)
def qtxt (sign:Int) (num:ByteArray) (dot:Bool) (den:ByteArray) (kind place:Int) (up:Bool) (ps:Int) (pow:ByteArray):List UInt8:=
 sgB sign.toNat++num.data.toList++((if dot then 46::den.data.toList else [])++qsfx kind place up ps pow)
theorem sgB_len (n:Nat):(sgB n).length≤1:=by unfold sgB;split<;>(try split)<;>simp
theorem wr_end {n:Nat} {num den pow S x:ByteArray} {dot up:Bool} {kind place ps:Int} (h:S.data.toList=sgB n++num.data.toList++(if dot then 46::den.data.toList else [])) (hx:x.data.toList=qsfx kind place up ps pow):S++x=⟨(qtxt n num dot den kind place up ps pow).toArray⟩:=by
 ext1
 apply Array.ext'
 simp[qtxt,h,hx]
theorem wr_none {n:Nat} {num den pow S:ByteArray} {dot up:Bool} {kind place ps:Int} (h:S.data.toList=sgB n++num.data.toList++(if dot then 46::den.data.toList else [])) (hx:[]=qsfx kind place up ps pow):S=⟨(qtxt n num dot den kind place up ps pow).toArray⟩:=by
 ext1
 apply Array.ext'
 simp[qtxt,h,←hx]
theorem wr_expl {n p:Nat} {num den pow S h:ByteArray} {dot:Bool} {place:Int} (hS:S.data.toList=sgB n++num.data.toList++(if dot then 46::den.data.toList else [])) (hx:h.data.toList=sgB p):S++(⟨#[101]⟩:ByteArray)++h++pow=⟨(qtxt n num dot den 0 place false p pow).toArray⟩:=by
 ext1
 apply Array.ext'
 simp[qtxt,qsfx,hS,hx]
theorem wr_expu {n p:Nat} {num den pow S h:ByteArray} {dot:Bool} {place:Int} (hS:S.data.toList=sgB n++num.data.toList++(if dot then 46::den.data.toList else [])) (hx:h.data.toList=sgB p):S++(⟨#[69]⟩:ByteArray)++h++pow=⟨(qtxt n num dot den 0 place true p pow).toArray⟩:=by
 ext1
 apply Array.ext'
 simp[qtxt,qsfx,hS,hx]
theorem spec_write (sign:Int) (num:ByteArray) (dot:Bool) (den:ByteArray) (kind place:Int) (up:Bool) (ps:Int) (pow:ByteArray) (w:World) (hr:QRt sign num dot den kind place ps pow) (hl:num.size+den.size≤100) (hp:pow.size≤100):
 Calls Tryz.prog 34 #[qwv sign num dot den kind place up ps pow] w fun e w'=>e=.returned (.string ⟨(qtxt sign num dot den kind place up ps pow).toArray⟩)∧Mod [] w w':=by
 obtain⟨n,rfl⟩:∃n:Nat,sign=n:=⟨sign.toNat,by have:=hr.s0;omega⟩
 have hn:n≤2:=by have:=hr.s2;omega
 have Q1:=Lh (fun(w':World)=>spec_qsign n hn w')
 have hd:=Hd.new w 23 #[.int .i64 n,.string num,.bool dot,.string den,.int .i64 kind,.int .i64 place,.bool up,.int .i64 ps,.string pow]
 have mA:Mod [] w (w.alloc (.cells #[.int .i64 n,.string num,.bool dot,.string den,.int .i64 kind,.int .i64 place,.bool up,.int .i64 ps,.string pow] 23)):=(Mod.refl [] w).alloc _
 have hg:(⟨(sgB n).toArray⟩:ByteArray).size≤1:=by have:=sgB_len n;simpa [ByteArray.size] using this
 obtain⟨g,hgg⟩:∃g:ByteArray,(⟨(sgB n).toArray⟩:ByteArray)=g:=⟨_,rfl⟩
 rw[hgg] at hg Q1
 have HG:=Lh hgg
 clear hgg
 unfold qwv
 go_enter Tryz.func34,Tryz.ntmps34
 go_upto_region 1 with fail
 generalize w.alloc (.cells #[.int .i64 n,.string num,.bool dot,.string den,.int .i64 kind,.int .i64 place,.bool up,.int .i64 ps,.string pow] 23)=W at*
 have HP:=Lh (fun(w':World) (m:Mod [] W w')=>show w'.cell? ⟨w.heap.size,0,none⟩=some (.int .i64 n)∧w'.cell? ⟨w.heap.size,1,none⟩=some (.string num) from ⟨Hd.cell (Hd.mod hd m (by simp)) rfl,Hd.cell (Hd.mod hd m (by simp)) rfl⟩)
 obtain⟨c0,c1⟩:=HP.out W (Mod.refl [] W)
 have s1:¬9223372036854775807<g.size+num.size:=by omega
 have MA:=Lh mA
 have HD:=Lh hd
 clear mA hd
 go_region_held3 (fun w'=>w'.cell? ⟨w.heap.size,0,none⟩=some (.int .i64 n)∧w'.cell? ⟨w.heap.size,1,none⟩=some (.string num)) (go_keep) (first|(go_at_call 58;refine(Q1.out _).mono ?_;rintro e w2 ⟨rfl,m2⟩;have M2:=Lh (((Mod.refl [] W).drewN _).trans m2);obtain⟨d0,d1⟩:=HP.out w2 M2.out;clear m2))
 clear Q1 c0 c1 d0 d1 HP
 have hd2:=Hd.mod HD.out M2.out (by simp)
 have c2:=hd2.cell (i:=2) rfl
 have c3:=hd2.cell (i:=3) rfl
 have c4:=hd2.cell (i:=4) rfl
 have c5:=hd2.cell (i:=5) rfl
 have c6:=hd2.cell (i:=6) rfl
 have c7:=hd2.cell (i:=7) rfl
 have c8:=hd2.cell (i:=8) rfl
 have M3:=Lh (MA.out.trans M2.out)
 have HD2:=Lh hd2
 have HR:=Lh hr
 have gl:g.data.toList=sgB n:=by rw[←HG.out]
 have s2:¬9223372036854775807<1+den.size:=by omega
 have s3:¬9223372036854775807<g.size+num.size+(1+den.size):=by omega
 clear MA M2 HD hd2 hr s1
 rcases dot with _|_
 ·go_upto_region 4 with fail
  obtain⟨S,hS⟩:∃S:ByteArray,g++num=S:=⟨_,rfl⟩
  have hSl:S.data.toList=sgB n++num.data.toList++(if false then 46::den.data.toList else []):=by rw[←hS];simp[gl]
  have hSs:S.size≤200:=by rw[←hS];have h46:(⟨#[46]⟩:ByteArray).size=1:=rfl;simp only[ByteArray.size_append];omega
  rw[hS]
  have HS:=Lh hSl
  clear hS hSl s2 s3 c2 c3
  have hk:=HR.out.k
  rcases hk with ⟨rfl,k1,k2⟩|⟨rfl,k1,k2⟩|⟨rfl,k1,k2,k3,k4,k5⟩
  ·have s4:¬9223372036854775807<S.size+1:=by omega
   have c5':=Hd.cell (Hd.mod HD2.out ((Mod.refl [] w2).alloc (.cells #[.string ⟨#[109]⟩,.string ⟨#[]⟩,.string ⟨#[107]⟩,.string ⟨#[77]⟩,.string ⟨#[71]⟩,.string ⟨#[84]⟩,.string ⟨#[80]⟩,.string ⟨#[69]⟩] 9)) (by simp)) (i:=5) rfl
   have hpl:place=-1∨place=0∨place=1∨place=2∨place=3∨place=4∨place=5∨place=6:=by omega
   clear k1 k2
   rcases hpl with rfl|rfl|rfl|rfl|rfl|rfl|rfl|rfl
   all_goals
    go_wp2_with fail
    go_ret
    refine⟨?_,M3.out.alloc _⟩
    first|exact congrArg (fun s=>Ending.returned (.string s)) (wr_end HS.out rfl)|exact congrArg (fun s=>Ending.returned (.string s)) (wr_none HS.out rfl)
  ·have s4:¬9223372036854775807<S.size+2:=by omega
   have c5':=Hd.cell (Hd.mod HD2.out ((Mod.refl [] w2).alloc (.cells #[.string ⟨#[75,105]⟩,.string ⟨#[77,105]⟩,.string ⟨#[71,105]⟩,.string ⟨#[84,105]⟩,.string ⟨#[80,105]⟩,.string ⟨#[69,105]⟩] 9)) (by simp)) (i:=5) rfl
   have hpl:place=1∨place=2∨place=3∨place=4∨place=5∨place=6:=by omega
   clear k1 k2
   rcases hpl with rfl|rfl|rfl|rfl|rfl|rfl
   all_goals
    go_wp2_with fail
    go_ret
    refine⟨?_,M3.out.alloc _⟩
    exact congrArg (fun s=>Ending.returned (.string s)) (wr_end HS.out rfl)
  ·have s5:¬9223372036854775807<S.size+1:=by omega
   obtain⟨p,rfl⟩:∃p:Nat,ps=p:=⟨ps.toNat,by omega⟩
   have hp2:p≤2:=by omega
   have hh:(⟨(sgB p).toArray⟩:ByteArray).size≤1:=by have:=sgB_len p;simpa [ByteArray.size] using this
   have Q2:=Lh (fun(w':World)=>spec_qsign p hp2 w')
   obtain⟨h,hhe⟩:∃h:ByteArray,(⟨(sgB p).toArray⟩:ByteArray)=h:=⟨_,rfl⟩
   rw[hhe] at hh Q2
   have HL:=Lh (show h.data.toList=sgB p by rw[←hhe])
   have s6:¬9223372036854775807<S.size+1+h.size:=by omega
   have s7:¬9223372036854775807<S.size+1+h.size+pow.size:=by omega
   have HP:=Lh (fun(w':World) (m:Mod [] w2 w')=>show w'.cell? ⟨w.heap.size,7,none⟩=some (.int .i64 p)∧w'.cell? ⟨w.heap.size,8,none⟩=some (.string pow) from ⟨Hd.cell (Hd.mod HD2.out m (by simp)) rfl,Hd.cell (Hd.mod HD2.out m (by simp)) rfl⟩)
   clear k1 k2 k3 k4 k5 hhe c5
   rcases up with _|_
   ·go_upto_region 11 with fail
    go_region_held3 (fun w'=>w'.cell? ⟨w.heap.size,7,none⟩=some (.int .i64 p)∧w'.cell? ⟨w.heap.size,8,none⟩=some (.string pow)) (go_keep) (first|(go_at_call 58;refine(Q2.out _).mono ?_;rintro e w3 ⟨rfl,m3⟩;have M4:=Lh (((Mod.refl [] w2).drewN _).trans m3);obtain⟨d0,d1⟩:=HP.out w3 M4.out;clear m3))
    go_wp2_with fail
    go_ret
    refine⟨?_,M3.out.trans M4.out⟩
    exact congrArg (fun s=>Ending.returned (.string s)) (wr_expl HS.out HL.out)
   ·go_upto_region 10 with fail
    go_region_held3 (fun w'=>w'.cell? ⟨w.heap.size,7,none⟩=some (.int .i64 p)∧w'.cell? ⟨w.heap.size,8,none⟩=some (.string pow)) (go_keep) (first|(go_at_call 58;refine(Q2.out _).mono ?_;rintro e w3 ⟨rfl,m3⟩;have M4:=Lh (((Mod.refl [] w2).drewN _).trans m3);obtain⟨d0,d1⟩:=HP.out w3 M4.out;clear m3))
    go_wp2_with fail
    go_ret
    refine⟨?_,M3.out.trans M4.out⟩
    exact congrArg (fun s=>Ending.returned (.string s)) (wr_expu HS.out HL.out)
 ·go_upto_region 4 with fail
  obtain⟨S,hS⟩:∃S:ByteArray,g++num++((⟨#[46]⟩:ByteArray)++den)=S:=⟨_,rfl⟩
  have hSl:S.data.toList=sgB n++num.data.toList++(if true then 46::den.data.toList else []):=by rw[←hS];simp[gl]
  have hSs:S.size≤200:=by rw[←hS];have h46:(⟨#[46]⟩:ByteArray).size=1:=rfl;simp only[ByteArray.size_append];omega
  rw[hS]
  have HS:=Lh hSl
  clear hS hSl s2 s3 c2 c3
  have hk:=HR.out.k
  rcases hk with ⟨rfl,k1,k2⟩|⟨rfl,k1,k2⟩|⟨rfl,k1,k2,k3,k4,k5⟩
  ·have s4:¬9223372036854775807<S.size+1:=by omega
   have c5':=Hd.cell (Hd.mod HD2.out ((Mod.refl [] w2).alloc (.cells #[.string ⟨#[109]⟩,.string ⟨#[]⟩,.string ⟨#[107]⟩,.string ⟨#[77]⟩,.string ⟨#[71]⟩,.string ⟨#[84]⟩,.string ⟨#[80]⟩,.string ⟨#[69]⟩] 9)) (by simp)) (i:=5) rfl
   have hpl:place=-1∨place=0∨place=1∨place=2∨place=3∨place=4∨place=5∨place=6:=by omega
   clear k1 k2
   rcases hpl with rfl|rfl|rfl|rfl|rfl|rfl|rfl|rfl
   all_goals
    go_wp2_with fail
    go_ret
    refine⟨?_,M3.out.alloc _⟩
    first|exact congrArg (fun s=>Ending.returned (.string s)) (wr_end HS.out rfl)|exact congrArg (fun s=>Ending.returned (.string s)) (wr_none HS.out rfl)
  ·have s4:¬9223372036854775807<S.size+2:=by omega
   have c5':=Hd.cell (Hd.mod HD2.out ((Mod.refl [] w2).alloc (.cells #[.string ⟨#[75,105]⟩,.string ⟨#[77,105]⟩,.string ⟨#[71,105]⟩,.string ⟨#[84,105]⟩,.string ⟨#[80,105]⟩,.string ⟨#[69,105]⟩] 9)) (by simp)) (i:=5) rfl
   have hpl:place=1∨place=2∨place=3∨place=4∨place=5∨place=6:=by omega
   clear k1 k2
   rcases hpl with rfl|rfl|rfl|rfl|rfl|rfl
   all_goals
    go_wp2_with fail
    go_ret
    refine⟨?_,M3.out.alloc _⟩
    exact congrArg (fun s=>Ending.returned (.string s)) (wr_end HS.out rfl)
  ·have s5:¬9223372036854775807<S.size+1:=by omega
   obtain⟨p,rfl⟩:∃p:Nat,ps=p:=⟨ps.toNat,by omega⟩
   have hp2:p≤2:=by omega
   have hh:(⟨(sgB p).toArray⟩:ByteArray).size≤1:=by have:=sgB_len p;simpa [ByteArray.size] using this
   have Q2:=Lh (fun(w':World)=>spec_qsign p hp2 w')
   obtain⟨h,hhe⟩:∃h:ByteArray,(⟨(sgB p).toArray⟩:ByteArray)=h:=⟨_,rfl⟩
   rw[hhe] at hh Q2
   have HL:=Lh (show h.data.toList=sgB p by rw[←hhe])
   have s6:¬9223372036854775807<S.size+1+h.size:=by omega
   have s7:¬9223372036854775807<S.size+1+h.size+pow.size:=by omega
   have HP:=Lh (fun(w':World) (m:Mod [] w2 w')=>show w'.cell? ⟨w.heap.size,7,none⟩=some (.int .i64 p)∧w'.cell? ⟨w.heap.size,8,none⟩=some (.string pow) from ⟨Hd.cell (Hd.mod HD2.out m (by simp)) rfl,Hd.cell (Hd.mod HD2.out m (by simp)) rfl⟩)
   clear k1 k2 k3 k4 k5 hhe c5
   rcases up with _|_
   ·go_upto_region 11 with fail
    go_region_held3 (fun w'=>w'.cell? ⟨w.heap.size,7,none⟩=some (.int .i64 p)∧w'.cell? ⟨w.heap.size,8,none⟩=some (.string pow)) (go_keep) (first|(go_at_call 58;refine(Q2.out _).mono ?_;rintro e w3 ⟨rfl,m3⟩;have M4:=Lh (((Mod.refl [] w2).drewN _).trans m3);obtain⟨d0,d1⟩:=HP.out w3 M4.out;clear m3))
    go_wp2_with fail
    go_ret
    refine⟨?_,M3.out.trans M4.out⟩
    exact congrArg (fun s=>Ending.returned (.string s)) (wr_expl HS.out HL.out)
   ·go_upto_region 10 with fail
    go_region_held3 (fun w'=>w'.cell? ⟨w.heap.size,7,none⟩=some (.int .i64 p)∧w'.cell? ⟨w.heap.size,8,none⟩=some (.string pow)) (go_keep) (first|(go_at_call 58;refine(Q2.out _).mono ?_;rintro e w3 ⟨rfl,m3⟩;have M4:=Lh (((Mod.refl [] w2).drewN _).trans m3);obtain⟨d0,d1⟩:=HP.out w3 M4.out;clear m3))
    go_wp2_with fail
    go_ret
    refine⟨?_,M3.out.trans M4.out⟩
    exact congrArg (fun s=>Ending.returned (.string s)) (wr_expu HS.out HL.out)
end Go.Proofs.YtcpjclakdpjjfaaGreatDoor
