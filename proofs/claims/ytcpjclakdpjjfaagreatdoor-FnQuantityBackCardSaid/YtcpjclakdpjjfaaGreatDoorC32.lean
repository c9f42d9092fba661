/- What a word means (spec/quantities. -/
import Derived.Test.YtcpjclakdpjjfaaGreatDoorC30
import Derived.Test.YtcpjclakdpjjfaaGreatDoorC31
import Derived.Deep.RegionHeld3
import Derived.Deep.RegionLaw
set_option maxHeartbeats 6400000
set_option maxRecDepth 10000
namespace Go.Proofs.YtcpjclakdpjjfaaGreatDoor
open Go.RowKit Wd Dg
structure MnX (w:World) (W:Array Value) (b:Nat) (neg:Bool) (a:Option Addr) (n c:Nat) (ex V lo hi:Int) (wr:World):Prop where
 hd:Hd wr b 27 #[.bool neg,.slice a n c,.int .i64 ex]
 hi':∃l,l.length=n∧Ir wr (.slice a n c) l∧DF neg l ex V lo hi
 hw:Hd wr w.heap.size 23 W
 hr:Hd wr (w.heap.size+1) 27 #[.bool false,.slice none 0 0,.int .i64 0]
 hm:Mod [] w wr
 hb:w.heap.size+1<b
variable {w:World} {W:Array Value} {b:Nat} {neg:Bool} {a:Option Addr} {n c:Nat} {ex V lo hi:Int} {wr:World}
theorem MnX.turn (h:MnX w W b neg a n c ex V lo hi wr) {w':World} (m:Mod [] wr w'):MnX w W b neg a n c ex V lo hi w':=by
 obtain⟨h2,⟨l,h1,h3,h4⟩,h5,h6,h7,h8⟩:=h
 exact⟨Hd.mod h2 m (by simp),⟨l,h1,h3.mod m,h4⟩,Hd.mod h5 m (by simp),Hd.mod h6 m (by simp),h7.trans m,h8⟩
theorem MnX.dc (h:MnX w W b neg a n c ex V lo hi wr):Dc wr (dcv neg (.slice a n c) ex) V lo hi:=by
 obtain⟨l,h1,h3,h4⟩:=h.hi'
 exact⟨neg,_,l,ex,rfl,h3,h4⟩
theorem MnX.cells (h:MnX w W b neg a n c ex V lo hi wr):(wr.cell? ⟨b,0,none⟩=some (.bool neg)∧wr.cell? ⟨b,1,none⟩=some (.slice a n c)∧wr.cell? ⟨b,2,none⟩=some (.int .i64 ex))∧∀i,wr.frozen? ⟨b,i,none⟩=false:=
 ⟨⟨h.hd.cell rfl,h.hd.cell rfl,h.hd.cell rfl⟩,h.hd.free⟩
theorem MnX.rcells (h:MnX w W b neg a n c ex V lo hi wr):(wr.cell? ⟨w.heap.size+1,0,none⟩=some (.bool false)∧wr.cell? ⟨w.heap.size+1,1,none⟩=some (.slice none 0 0)∧wr.cell? ⟨w.heap.size+1,2,none⟩=some (.int .i64 0))∧∀i,wr.frozen? ⟨w.heap.size+1,i,none⟩=false:=
 ⟨⟨h.hr.cell rfl,h.hr.cell rfl,h.hr.cell rfl⟩,h.hr.free⟩
def set3 (wr:World) (b:Nat) (neg:Bool) (sl:Value) (ex:Int):World:=((wr.setCell ⟨b,0,none⟩ (.bool neg)).setCell ⟨b,1,none⟩ sl).setCell ⟨b,2,none⟩ (.int .i64 ex)
theorem MnX.put {neg':Bool} {a':Option Addr} {n' c':Nat} {ex' V' lo' hi':Int} {l:List Nat} (h:MnX w W b neg a n c ex V lo hi wr) (hl:l.length=n') (hir:Ir wr (.slice a' n' c') l) (hF:DF neg' l ex' V' lo' hi'):
 MnX w W b neg' a' n' c' ex' V' lo' hi' (set3 wr b neg' (.slice a' n' c') ex'):=by
 obtain⟨h2,-,h5,h6,h7,h8⟩:=h
 obtain⟨k1,-,k3⟩:=dc_put h2 (by omega) h7 hir hF
 have m3:Mod [b] wr (((wr.setCell ⟨b,0,none⟩ (.bool neg')).setCell ⟨b,1,none⟩ (.slice a' n' c')).setCell ⟨b,2,none⟩ (.int .i64 ex')):=(((Mod.refl [b] wr).setCell _ (.inl (by simp))).setCell _ (.inl (by simp))).setCell _ (.inl (by simp))
 exact⟨k1,⟨l,hl,hir.mods m3 (hir.off h2 (by decide)),hF⟩,Hd.mod h5 m3 (by simp;omega),Hd.mod h6 m3 (by simp;omega),k3,h8⟩
theorem MnX.fin (h:MnX w W b neg a n c ex V lo hi wr):Hd (set3 wr (w.heap.size+1) neg (.slice a n c) ex) (w.heap.size+1) 27 #[.bool neg,.slice a n c,.int .i64 ex]∧Dc (set3 wr (w.heap.size+1) neg (.slice a n c) ex) (dcv neg (.slice a n c) ex) V lo hi∧Mod [] w (set3 wr (w.heap.size+1) neg (.slice a n c) ex):=by
 obtain⟨l,h1,h3,h4⟩:=h.hi'
 exact dc_put h.hr (by omega) h.hm h3 h4
def qx (kind place ps:Int) (pow:ByteArray):Int:=if kind=2 then 3*place else if kind=1 then 10*place else if ps=2 then -(bv pow.data.toList:Int) else bv pow.data.toList
def qwV (sign:Int) (num den:ByteArray) (kind place ps:Int) (pow:ByteArray):Int:=qV (sign==2) num.data.toList den.data.toList kind.toNat (qx kind place ps pow)
theorem mn_ten {neg:Bool} {n:Nat} {d x:Int} (h1:-170≤d) (h2:-170≤x):(sg neg*(n:Int)*(sc (x+d):Int))*(sc 0:Int)=(sg neg*(n:Int)*(sc d:Int))*(1*(sc x:Int)):=by
 have h:=sc_mul (e:=d) (f:=x) (by omega) (by omega) (by omega)
 have h':(sc d:Int)*(sc x:Int)=(sc (x+d):Int)*(sc 0:Int):=by
  rw[←Int.natCast_mul,h,Int.natCast_mul,Int.add_comm]
 rw[Int.one_mul,Int.mul_assoc,Int.mul_assoc (sg neg*(n:Int)),h']
theorem mn_two {B d:Int} {i:Nat}:(B*(2^(10*(i+1)):Nat)*d)*(sc 0:Int)=(B*(2^(10*i):Nat)*d)*(1024*(sc 0:Int)):=by
 have:(2^(10*(i+1)):Nat)=2^(10*i)*1024:=by rw[Nat.mul_add,Nat.pow_add]
 rw[this,Int.natCast_mul]
 generalize 2^(10*i)=q
 have:((1024:Nat):Int)=1024:=rfl
 rw[this]
 simp only[Int.mul_assoc,Int.mul_comm,Int.mul_left_comm]
theorem mn_times {d:Value} {s:Bool} {N:Nat} {D y:Int} (h:MnX w W b neg a n c ex (sg s*(N:Int)*(sc (-D):Int)) (-100) 100 wr) (k:Dc wr d (1*(sc y:Int)) y (y+20)) (h1:-60≤y) (h2:y≤60) (h3:D≤170):
 Calls Tryz.prog 23 #[dcv neg (.slice a n c) ex,d] wr (DcRet (sg s*(N:Int)*(sc (y+-D):Int)) (-170) 240 wr):=by
 refine(spec_times _ _ _ _ (sg s*(N:Int)*(sc (y+-D):Int)) (-100) 100 (-70) 80 wr h.dc (k.mono (by omega) (by omega) (by omega) (by omega)) (by omega) (by omega) (by omega) (by omega) (by omega) (by omega) (by omega) (by omega) (mn_ten (by omega) (by omega))).mono ?_
 rintro e w' ⟨d,h1,h2,h3⟩
 exact⟨d,h1,h2.mono (by omega) (by omega) (by omega) (by omega),h3⟩
theorem mn_again {d:Value} {B D:Int} {i:Nat} (h:MnX w W b neg a n c ex (B*(2^(10*i):Nat)*D) (-100) (100+21*i) wr) (k:Dc wr d (1024*(sc 0:Int)) 0 (0+20)) (h1:i≤6):
 Calls Tryz.prog 23 #[dcv neg (.slice a n c) ex,d] wr (DcRet (B*(2^(10*(i+1)):Nat)*D) (-100) (100+21*((i+1:Nat):Int)) wr):=by
 refine(spec_times _ _ _ _ (B*(2^(10*(i+1)):Nat)*D) (-100) (100+21*i) 0 20 wr h.dc (k.mono (by omega) (by omega) (by omega) (by omega)) (by omega) (by omega) (by omega) (by omega) (by omega) (by omega) (by omega) (by omega) mn_two).mono ?_
 rintro e w' ⟨d,h1,h2,h3⟩
 exact⟨d,h1,h2.mono (by omega) (by omega) (by omega) (by omega),h3⟩
theorem qw_ten {sign place ps x:Int} {num den pow:ByteArray} {kind:Int} (hk:kind≠1) (_h0:0≤kind) (hx:qx kind place ps pow=x):sg (sign==2)*((bv (num++den).data.toList:Nat):Int)*(sc (x+-(den.size:Int)):Int)=qwV sign num den kind place ps pow:=by
 unfold qwV qV
 rw[if_neg (by omega),hx]
 simp only[ByteArray.data_append,Array.toList_append]
 rfl
theorem qw_two {sign ps:Int} {k:Nat} {num den pow:ByteArray}:sg (sign==2)*((bv (num++den).data.toList:Nat):Int)*(2^(10*k):Nat)*(sc (-(den.size:Int)):Int)=qwV sign num den 1 k ps pow:=by
 unfold qwV qV qx
 have e:((10*(k:Int)).toNat)=10*k:=by omega
 simp only[if_pos,ByteArray.data_append,Array.toList_append,show (1:Int).toNat=1 from rfl,show ¬((1:Int)=2) by decide,if_false,e]
 rfl
theorem mn_start (w:World) (W:Array Value):Hd ((w.alloc (.cells W 23)).alloc (.cells #[.bool false,.slice none 0 0,.int .i64 0] 27)) w.heap.size 23 W∧Hd ((w.alloc (.cells W 23)).alloc (.cells #[.bool false,.slice none 0 0,.int .i64 0] 27)) (w.heap.size+1) 27 #[.bool false,.slice none 0 0,.int .i64 0]∧Mod [] w ((w.alloc (.cells W 23)).alloc (.cells #[.bool false,.slice none 0 0,.int .i64 0] 27)):=by
 refine⟨Hd.mod (Hd.new w 23 W) ((Mod.refl [] _).alloc _) (by simp),?_,((Mod.refl [] w).alloc _).alloc _⟩
 have:=Hd.new (w.alloc (.cells W 23)) 27 #[.bool false,.slice none 0 0,.int .i64 0]
 simpa using this
theorem spec_means (sign:Int) (num:ByteArray) (dot:Bool) (den:ByteArray) (kind place:Int) (up:Bool) (ps:Int) (pow:ByteArray) (w:World) (hr:QRt sign num dot den kind place ps pow) (hl:num.size+den.size≤100) (hp:kind=0→pow.size≤2∧bv pow.data.toList≤60):
 Calls Tryz.prog 33 #[qwv sign num dot den kind place up ps pow] w (DcRet (qwV sign num den kind place ps pow) (-170) 240 w):=by
 have hbd:BD (num++den).data.toList:=by
  have:=hr.n;have:=hr.d
  simp only[ByteArray.data_append,Array.toList_append]
  intro c hc
  rcases List.mem_append.1 hc with h|h
  ·exact hr.n c h
  ·exact hr.d c h
 have R:=Lh (fun(w':World)=>decimalRead_calls (sign==2) (num++den) (-(den.size:Int)) w' hbd (by simp;omega) (by omega) (by omega))
 have HR:=Lh (Aj hr (Aj hl hp))
 have t0:wrap64 (-(den.size:Int))=-(den.size:Int):=by unfold wrap64;omega
 have hsz:¬9223372036854775807<num.size+den.size:=by omega
 clear hr hl hp hbd
 unfold qwv
 have HQ:=Lh (mn_start w #[.int .i64 sign,.string num,.bool dot,.string den,.int .i64 kind,.int .i64 place,.bool up,.int .i64 ps,.string pow])
 go_enter Tryz.func33,Tryz.ntmps33
 go_upto_region 3 with fail
 generalize hWW:(w.alloc (.cells #[.int .i64 sign,.string num,.bool dot,.string den,.int .i64 kind,.int .i64 place,.bool up,.int .i64 ps,.string pow] 23)).alloc (.cells #[.bool false,.slice none 0 0,.int .i64 0] 27)=WW at*
 clear hWW
 have c0:=HQ.out.1.cell (i:=0) rfl
 have c1:=HQ.out.1.cell (i:=1) rfl
 have c3:=HQ.out.1.cell (i:=3) rfl
 go_upto_region 1 with fail
 refine(R.out WW).mono ?_
 clear R
 rintro _ w1 ⟨_,rfl,⟨neg,sl,l,ex,rfl,hir,hF⟩,m1⟩
 obtain⟨a,c,rfl,-,-⟩:=hir.form
 have q1:=Hd.mod (Hd.mod HQ.out.1 m1 (by simp)) ((Mod.refl [] w1).alloc (.cells #[.bool neg,.slice a l.length c,.int .i64 ex] 27)) (by simp)
 have q2:=Hd.mod (Hd.mod HQ.out.2.1 m1 (by simp)) ((Mod.refl [] w1).alloc (.cells #[.bool neg,.slice a l.length c,.int .i64 ex] 27)) (by simp)
 have hb:w.heap.size+1<w1.heap.size:=Nat.lt_of_lt_of_le HQ.out.2.1.lt m1.size
 have ST:MnX w _ _ _ _ _ _ _ _ (-100) 100 _:=⟨Hd.new w1 27 #[.bool neg,.slice a l.length c,.int .i64 ex],⟨l,rfl,hir.mod ((Mod.refl [] w1).alloc _),hF.mono (by have:=HR.out.2.1;omega) (by have:=HR.out.2.1;simp;omega) (by omega) (by omega)⟩,q1,q2,(HQ.out.2.2.trans m1).alloc _,hb⟩
 clear hir hF m1 q1 q2 hb HQ c0 c1 c3
 unfold dcv
 generalize l.length=n at*
 generalize hw2:w1.alloc (.cells #[.bool neg,.slice a n c,.int .i64 ex] 27)=w2 at*
 have c4:=ST.hw.cell (i:=4) rfl
 by_cases a5:kind=2
 ·subst a5
  go_upto_region 1 with fail
  clear hw2
  generalize w1.heap.size=b at*
  obtain⟨⟨b0,b1,b2⟩,-⟩:=ST.cells
  have c5:=ST.hw.cell (i:=5) rfl
  have hk:=HR.out.1.k
  obtain⟨y,hyy⟩:∃y,3*place=y:=⟨_,rfl⟩
  have hy:IntKind.i64.wrap (3*place)=y:=i64w hyy (by omega) (by omega)
  have HY:=Lh (Aj hyy (show -3≤y∧y≤18 by omega))
  have OF:=Lh (fun(w':World)=>decimalOf_calls 1 y w' (by unfold i64;decide) (by omega) (by omega))
  have HS:=Lh ST
  clear ST hk hyy
  first|(go_region_law (first|(go_simp;go_at_call 24;refine(OF.out _).mono ?_;rintro e w3 ⟨d3,rfl,hd3,m3⟩;have S3:=Lh (HS.out.turn (((Mod.refl [] w2).drewN _).trans m3));obtain⟨⟨e0,e1,e2⟩,-⟩:=S3.out.cells;have TM:=Lh (mn_times S3.out hd3 (by have:=HY.out;omega) (by have:=HY.out;omega) (by have:=HR.out.2.1;omega));clear m3 hd3 OF)|(go_simp;go_at_call 23;refine TM.out.mono ?_;rintro e w4 ⟨d4,rfl,⟨ng,sl4,l4,ex4,rfl,hir4,hF4⟩,m4⟩;obtain⟨a4,c6,rfl,-,-⟩:=hir4.form;have S4:=Lh (S3.out.turn m4);have S5:=Lh (S4.out.put rfl hir4 hF4);clear hir4 hF4 m4;obtain⟨⟨f0,f1,f2⟩,ff⟩:=S4.out.cells;unfold dcv;generalize l4.length=n4 at*)))|fail "the region"
  all_goals
   generalize hw5:((w4.setCell ⟨b,0,none⟩ (.bool ng)).setCell ⟨b,1,none⟩ (.slice a4 n4 c6)).setCell ⟨b,2,none⟩ (.int .i64 ex4)=w5
   have S6:=S5.out
   unfold set3 at S6
   rw[hw5] at S6
   obtain⟨⟨g0,g1,g2⟩,-⟩:=S6.cells
   obtain⟨⟨r0,r1,r2⟩,rf⟩:=S6.rcells
   have FS:=Lh S6.fin
   clear S6 hw5 f0 f1 f2 ff e0 e1 e2 b0 b1 b2 c4 c5
   go_wp2_with fail
   obtain⟨hd,hdc,hmd⟩:=FS.out
   unfold set3 at hd hdc hmd
   have z0:=hd.cell (i:=0) rfl
   have z1:=hd.cell (i:=1) rfl
   have z2:=hd.cell (i:=2) rfl
   refine bodyPost_ret (v:=dcv ng (.slice a4 n4 c6) ex4) (by unfold dcv;simp[results,Tryz.results33,go_sem,z0,z1,z2];try rfl) rfl ?_
   rw[qw_ten (kind:=2) (place:=place) (ps:=ps) (pow:=pow) (by decide) (by decide) (by unfold qx;rw[if_pos rfl];exact HY.out.1)] at hdc
   exact⟨_,rfl,hdc.mono (by omega) (by omega) (by omega) (by omega),hmd⟩
 by_cases a6:kind=1
 ·subst a6
  have hk:=HR.out.1.k
  obtain⟨k,rfl⟩:∃k:Nat,place=k:=⟨place.toNat,by omega⟩
  have HK:=Lh (show 1≤k∧k≤6 by omega)
  have c5:=ST.hw.cell (i:=5) rfl
  clear hk a5
  have H0:=Lh ST
  clear ST
  go_wp2_with fail
  clear hw2
  generalize w1.heap.size=b at*
  go_loopw [58] (fun t58 wr=>∃(i:Nat) (neg:Bool) (a:Option Addr) (n c:Nat) (ex:Int),t58=.int .i64 i∧i≤k∧MnX w #[.int .i64 sign,.string num,.bool dot,.string den,.int .i64 1,.int .i64 k,.bool up,.int .i64 ps,.string pow] b neg a n c ex (sg (sign==2)*((bv (num++den).data.toList:Nat):Int)*(2^(10*i):Nat)*(sc (-(den.size:Int)):Int)) (-100) (100+21*(i:Int)) wr) (fun t58 _=>k-(intOf t58).toNat)
  case atStart=>exact⟨0,neg,a,n,c,ex,rfl,Nat.zero_le _,by have h:=H0.out;simpa using h⟩
  case round=>
   obtain⟨i,ng,a4,n4,c6,ex4,rfl,hik,S6⟩:=hrel
   rcases Nat.lt_or_ge i k with hi|hi
   ·have t1:decide (i<k)=true:=by simpa using hi
    have t1':decide ((i:Int)<(k:Int))=true:=by simpa using hi
    have HA:=Lh (show i≤6 by have:=HK.out;omega)
    have HB:=Lh (show i+1≤k∧k-(i+1)<k-i by omega)
    have HW:=Lh (show wrap64 ((i:Int)+1)=((i+1:Nat):Int) from w64 (by omega) (by omega) (by have:=HK.out;omega))
    obtain⟨⟨e0,e1,e2⟩,-⟩:=S6.cells
    have S7:=Lh S6
    clear S6 hi hik H0
    go_upto_region 1 with fail
    have OF:=Lh (fun(w':World)=>decimalOf_calls 1024 0 w' (by unfold i64;decide) (by decide) (by decide))
    first|(go_region_law (first|(go_simp;go_at_call 24;refine(OF.out _).mono ?_;rintro e w3 ⟨d3,rfl,hd3,m3⟩;have S3:=Lh (S7.out.turn (((Mod.refl [] wr).drewN _).trans m3));obtain⟨⟨u0,u1,u2⟩,-⟩:=S3.out.cells;have TM:=Lh (mn_again S3.out hd3 HA.out);clear m3 hd3 OF)|(go_simp;go_at_call 23;refine TM.out.mono ?_;rintro e w4 ⟨d4,rfl,⟨nh,sl4,l4,ex5,rfl,hir4,hF4⟩,m4⟩;obtain⟨a5,c7,rfl,-,-⟩:=hir4.form;have S4:=Lh (S3.out.turn m4);have S5:=Lh (S4.out.put rfl hir4 hF4);clear hir4 hF4 m4;obtain⟨⟨f0,f1,f2⟩,ff⟩:=S4.out.cells;unfold dcv;generalize l4.length=n5 at*)))|fail "the region"
    all_goals
     go_wp2_with fail
     go_roundw
     case rel=>exact⟨i+1,nh,a5,n5,c7,ex5,by rw[HW.out],HB.out.1,S5.out⟩
     case measure=>rw[HW.out];simp only[intOf];have:=HB.out.2;omega
   ·obtain rfl:i=k:=by omega
    have t1:decide (i<i)=false:=by simp
    have t1':decide ((i:Int)<(i:Int))=false:=by simp
    clear hi hik H0
    obtain⟨⟨g0,g1,g2⟩,-⟩:=S6.cells
    obtain⟨⟨r0,r1,r2⟩,rf⟩:=S6.rcells
    have FS:=Lh S6.fin
    clear S6
    go_wp2_with fail
    obtain⟨hd,hdc,hmd⟩:=FS.out
    unfold set3 at hd hdc hmd
    have z0:=hd.cell (i:=0) rfl
    have z1:=hd.cell (i:=1) rfl
    have z2:=hd.cell (i:=2) rfl
    refine bodyPost_ret (v:=dcv ng (.slice a4 n4 c6) ex4) (by unfold dcv;simp[results,Tryz.results33,go_sem,z0,z1,z2];try rfl) rfl ?_
    rw[qw_two (ps:=ps) (pow:=pow)] at hdc
    have hk6:=HK.out
    exact⟨_,rfl,hdc.mono (by omega) (by omega) (by omega) (by omega),hmd⟩
 have a7:kind=0:=by have:=HR.out.1.k;omega
 subst a7
 have c8:=ST.hw.cell (i:=8) rfl
 have c7:=ST.hw.cell (i:=7) rfl
 have HP:=Lh (show BD pow.data.toList∧0<pow.size∧pow.size≤2∧bv pow.data.toList≤60 from ⟨by rcases HR.out.1.k with h|h|h;omega;omega;exact h.2.1,by have:=HR.out.1.k;omega,(HR.out.2.2 rfl).1,(HR.out.2.2 rfl).2⟩)
 have H0:=Lh ST
 clear ST a5 a6
 go_wp2_with fail
 clear hw2
 generalize w1.heap.size=b at*
 go_loop [4,5] (fun t4 t5=>∃i:Nat,t5=.int .i64 i∧i≤pow.size∧t4=.int .i64 (bv (pow.data.toList.take i):Nat)) (fun _ t5=>pow.size-(intOf t5).toNat)
 case atStart=>exact⟨0,rfl,Nat.zero_le _,rfl⟩
 case round=>
  obtain⟨i,rfl,hi,rfl⟩:=hrel
  rcases Nat.lt_or_ge i pow.size with his|his
  ·have t1:decide (i<pow.size)=true:=by simpa using his
   have t1':decide ((i:Int)<(pow.size:Int))=true:=by simpa using his
   have hb1:=bv_lt (l:=pow.data.toList.take i) (fun c hc=>HP.out.1 c (List.mem_of_mem_take hc))
   have hb2:(pow.data.toList.take i).length=i:=by rw[List.length_take];have:pow.data.toList.length=pow.size:=rfl;omega
   have hb3:bv (pow.data.toList.take i)<100:=by
    have:=HP.out.2.2.1
    rw[hb2] at hb1
    have:i=0∨i=1:=by omega
    rcases this with rfl|rfl<;>omega
   have hce:bv (pow.data.toList.take (i+1))=10*bv (pow.data.toList.take i)+((pow[i]'his).toNat-48):=by
    have hi':i<pow.data.toList.length:=his
    rw[List.take_succ_eq_append_getElem hi',bv_snoc]
    rfl
   have hbd:=HP.out.1 _ (List.getElem_mem (l:=pow.data.toList) (n:=i) his)
   have hbd':48≤(pow[i]'his).toNat∧(pow[i]'his).toNat≤57:=hbd
   have HE:=Lh hce
   clear hb1 hb2 hce hbd hi
   generalize bv (pow.data.toList.take i)=v at*
   have HW:=Lh (show wrap64 ((i:Int)+1)=((i+1:Nat):Int) from w64 (by omega) (by omega) (by have:=HP.out;omega))
   have HI:=Lh his
   have u1:IntKind.u8.wrap (((pow[i]'his).toNat:Int)-48)=(((pow[i]'his).toNat-48:Nat):Int):=by rw[IntKind.wrap_u8];omega
   have u2:wrap64 ((((pow[i]'his).toNat-48:Nat):Int))=(((pow[i]'his).toNat-48:Nat):Int):=w64 rfl (by omega) (by omega)
   have HV:=Lh (show ∀x:Nat,x≤9→wrap64 (wrap64 (10*(v:Int))+(x:Int))=((10*v+x:Nat):Int) from fun x hx=>by rw[w64 (y:=10*(v:Int)) rfl (by omega) (by omega)];exact w64 (by omega) (by omega) (by omega))
   go_wp2_with fail
   go_round
   case rel=>exact⟨i+1,by rw[HW.out],HI.out,by rw[HE.out];rfl⟩
   case measure=>rw[HW.out];simp only[intOf];have:=HI.out;omega
  ·obtain rfl:i=pow.size:=by omega
   have t1:decide (pow.size<pow.size)=false:=by simp
   have t1':decide ((pow.size:Int)<(pow.size:Int))=false:=by simp
   have hta:pow.data.toList.take pow.size=pow.data.toList:=List.take_of_length_le (Nat.le_refl _)
   rw[hta]
   clear hta hi his
   have HX:=Lh (show (if ps=2 then -((bv pow.data.toList:Nat):Int) else ((bv pow.data.toList:Nat):Int))=qx 0 place ps pow by unfold qx;rw[if_neg (c:=(0:Int)=2) (by decide),if_neg (c:=(0:Int)=1) (by decide)])
   have HV:=Lh HP.out.2.2.2
   generalize bv pow.data.toList=v at HX HV ⊢
   obtain⟨⟨b0,b1,b2⟩,-⟩:=H0.out.cells
   by_cases hps:ps=2
   ·have p1:(ps==2)=true:=by simpa using hps
    rw[if_pos hps] at HX
    obtain⟨y,hy⟩:∃y:Int,-(v:Int)=y:=⟨_,rfl⟩
    have p2:wrap64 (-(v:Int))=y:=w64 hy (by have:=HV.out;omega) (by have:=HV.out;omega)
    rw[hy] at HX
    have HY:=Lh (show -60≤y∧y≤60 by have:=HV.out;omega)
    have HX:=Lh HX.out.symm
    clear hps hy
    have OF:=Lh (fun(w':World)=>decimalOf_calls 1 y w' (by unfold i64;decide) (by have:=HY.out;omega) (by have:=HY.out;omega))
    go_upto_region 1 with fail
    first|(go_region_law (first|(go_simp;go_at_call 24;refine(OF.out _).mono ?_;rintro e w3 ⟨d3,rfl,hd3,m3⟩;have S3:=Lh (H0.out.turn (((Mod.refl [] w2).drewN _).trans m3));obtain⟨⟨e0,e1,e2⟩,-⟩:=S3.out.cells;have TM:=Lh (mn_times S3.out hd3 (by have:=HY.out;omega) (by have:=HY.out;omega) (by have:=HR.out.2.1;omega));clear m3 hd3 OF)|(go_simp;go_at_call 23;refine TM.out.mono ?_;rintro e w4 ⟨d4,rfl,⟨ng,sl4,l4,ex4,rfl,hir4,hF4⟩,m4⟩;obtain⟨a4,c6,rfl,-,-⟩:=hir4.form;have S4:=Lh (S3.out.turn m4);have S5:=Lh (S4.out.put rfl hir4 hF4);clear hir4 hF4 m4;obtain⟨⟨f0,f1,f2⟩,ff⟩:=S4.out.cells;unfold dcv;generalize l4.length=n4 at*)))|fail "the region"
    all_goals
     generalize hw5:((w4.setCell ⟨b,0,none⟩ (.bool ng)).setCell ⟨b,1,none⟩ (.slice a4 n4 c6)).setCell ⟨b,2,none⟩ (.int .i64 ex4)=w5
     have S6:=S5.out
     unfold set3 at S6
     rw[hw5] at S6
     obtain⟨⟨g0,g1,g2⟩,-⟩:=S6.cells
     obtain⟨⟨r0,r1,r2⟩,rf⟩:=S6.rcells
     have FS:=Lh S6.fin
     clear S6 hw5 f0 f1 f2 ff e0 e1 e2 b0 b1 b2 c4 c7 c8
     go_wp2_with fail
     obtain⟨hd,hdc,hmd⟩:=FS.out
     unfold set3 at hd hdc hmd
     have z0:=hd.cell (i:=0) rfl
     have z1:=hd.cell (i:=1) rfl
     have z2:=hd.cell (i:=2) rfl
     refine bodyPost_ret (v:=dcv ng (.slice a4 n4 c6) ex4) (by unfold dcv;simp[results,Tryz.results33,go_sem,z0,z1,z2];try rfl) rfl ?_
     rw[qw_ten (kind:=0) (place:=place) (ps:=ps) (pow:=pow) (by decide) (by decide) HX.out] at hdc
     exact⟨_,rfl,hdc.mono (by omega) (by omega) (by omega) (by omega),hmd⟩
   ·have p1:(ps==2)=false:=by simpa using hps
    rw[if_neg hps] at HX
    have HY:=Lh (show -60≤(v:Int)∧(v:Int)≤60 by have:=HV.out;omega)
    have HX:=Lh HX.out.symm
    clear hps
    have OF:=Lh (fun(w':World)=>decimalOf_calls 1 (v:Int) w' (by unfold i64;decide) (by have:=HY.out;omega) (by have:=HY.out;omega))
    go_upto_region 1 with fail
    first|(go_region_law (first|(go_simp;go_at_call 24;refine(OF.out _).mono ?_;rintro e w3 ⟨d3,rfl,hd3,m3⟩;have S3:=Lh (H0.out.turn (((Mod.refl [] w2).drewN _).trans m3));obtain⟨⟨e0,e1,e2⟩,-⟩:=S3.out.cells;have TM:=Lh (mn_times S3.out hd3 (by have:=HY.out;omega) (by have:=HY.out;omega) (by have:=HR.out.2.1;omega));clear m3 hd3 OF)|(go_simp;go_at_call 23;refine TM.out.mono ?_;rintro e w4 ⟨d4,rfl,⟨ng,sl4,l4,ex4,rfl,hir4,hF4⟩,m4⟩;obtain⟨a4,c6,rfl,-,-⟩:=hir4.form;have S4:=Lh (S3.out.turn m4);have S5:=Lh (S4.out.put rfl hir4 hF4);clear hir4 hF4 m4;obtain⟨⟨f0,f1,f2⟩,ff⟩:=S4.out.cells;unfold dcv;generalize l4.length=n4 at*)))|fail "the region"
    all_goals
     generalize hw5:((w4.setCell ⟨b,0,none⟩ (.bool ng)).setCell ⟨b,1,none⟩ (.slice a4 n4 c6)).setCell ⟨b,2,none⟩ (.int .i64 ex4)=w5
     have S6:=S5.out
     unfold set3 at S6
     rw[hw5] at S6
     obtain⟨⟨g0,g1,g2⟩,-⟩:=S6.cells
     obtain⟨⟨r0,r1,r2⟩,rf⟩:=S6.rcells
     have FS:=Lh S6.fin
     clear S6 hw5 f0 f1 f2 ff e0 e1 e2 b0 b1 b2 c4 c7 c8
     go_wp2_with fail
     obtain⟨hd,hdc,hmd⟩:=FS.out
     unfold set3 at hd hdc hmd
     have z0:=hd.cell (i:=0) rfl
     have z1:=hd.cell (i:=1) rfl
     have z2:=hd.cell (i:=2) rfl
     refine bodyPost_ret (v:=dcv ng (.slice a4 n4 c6) ex4) (by unfold dcv;simp[results,Tryz.results33,go_sem,z0,z1,z2];try rfl) rfl ?_
     rw[qw_ten (kind:=0) (place:=place) (ps:=ps) (pow:=pow) (by decide) (by decide) HX.out] at hdc
     exact⟨_,rfl,hdc.mono (by omega) (by omega) (by omega) (by omega),hmd⟩
end Go.Proofs.YtcpjclakdpjjfaaGreatDoor
