/- Products (spec/quantities. -/
import Derived.Test.YtcpjclakdpjjfaaGreatDoorC10
import Derived.StillTailTactics
import Derived.Deep.CutRange
import Derived.Deep.RegionHeld3
import Derived.Deep.RegionLaw
set_option maxHeartbeats 6400000
set_option maxRecDepth 10000
namespace Go.Proofs.YtcpjclakdpjjfaaGreatDoor
open Go.RowKit Wd Dg
theorem w64 {x y:Int} (h:x=y) (h1:-9223372036854775808≤y) (h2:y≤9223372036854775807):wrap64 x=y:=by unfold wrap64;omega
theorem i64w {x y:Int} (h:x=y) (h1:-9223372036854775808≤y) (h2:y≤9223372036854775807):IntKind.i64.wrap x=y:=by rw[IntKind.wrap_i64];omega
def ic (l:List Nat):Array Value:=(ics l).toArray
theorem make_ints (w:World) (n:Nat) (hn:n≤1000000):
 (Instr.makeSlice 25 (.int .i64 (n:Int)) (.int .i64 (n:Int))).run Tryz.prog w=.ok (.slice (some ⟨w.heap.size,0,none⟩) n n) (w.alloc (.cells (ic (List.replicate n 0)) 3)):=by
 obtain⟨i,hi,hz⟩:=Option.map_eq_some_iff.1 info3
 simp only[Prod.mk.injEq] at hz
 obtain⟨h1,h2,h3⟩:=hz
 have key:=run_make w 25 3 i (.int .i64 0) Tryz.underlying25 hi h1 .i64 .i64 n n (by omega) (by omega) (by rw[h3];omega) (by omega)
 simp only[Int.toNat_natCast,h2,Nat.mul_one] at key
 have e:madeCells (Value.int .i64 0).cells n=ic (List.replicate n 0):=by
  apply Array.ext
  ·simp[madeCells,ic,ics]
  ·intro i h1 h2
   simp[madeCells,ic,ics,Value.cells,Nat.mod_one]
 rw[e] at key
 exact key
theorem ic_set (l:List Nat) (i x:Nat):(ic l).setIfInBounds i (.int .i64 (x:Int))=ic (l.set i x):=by
 simp[ic,ics,List.map_set]
theorem ic_get {l:List Nat} {i:Nat} (hi:i<l.length):(ic l)[i]?=some (.int .i64 ((l.getD i 0:Nat):Int)):=by
 simp[ic,ics,hi,List.getD_eq_getElem?_getD]
structure TS (W wr:World) (q:Nat) (L:List Nat):Prop where
 mod:Mod [q] W wr
 hd:Hd wr q 3 (ic L)
theorem TS.cell {W wr:World} {q:Nat} {L:List Nat} (h:TS W wr q L) {i:Nat} (hi:i<L.length):wr.cell? ⟨q,i,none⟩=some (.int .i64 ((L.getD i 0:Nat):Int)):=Hd.cell h.hd (ic_get hi)
theorem TS.set {W wr:World} {q:Nat} {L:List Nat} (h:TS W wr q L) (i x:Nat):TS W (wr.setCell ⟨q,i,none⟩ (.int .i64 (x:Int))) q (L.set i x):=
 ⟨h.mod.setCell _ (.inl (by simp)),by have:=Hd.set h.hd i (.int .i64 (x:Int));rwa [ic_set] at this⟩
theorem TS.drewN {W wr:World} {q:Nat} {L:List Nat} (h:TS W wr q L) (n:Nat):TS W (wr.drewN n) q L:=⟨h.mod.drewN n,h.hd⟩
theorem times_start {a b:List Nat} {N:Nat}:dv (List.replicate N 0)=dv (a.take 0)*10^(a.length-0)*dv b:=by
 rw[dv_zeros,List.take_zero,dv_nil];simp
def tmA (a b:List Nat) (i k:Nat):Nat:=dv (a.take i)*10^(a.length-i)*dv b+a.getD i 0*10^(a.length-(i+1))*(dv (b.take k)*10^(b.length-k))
theorem tmA_zero {a b:List Nat} {i:Nat}:tmA a b i 0=dv (a.take i)*10^(a.length-i)*dv b:=by
 unfold tmA;rw[List.take_zero,dv_nil,Nat.zero_mul,Nat.mul_zero,Nat.add_zero]
theorem tmA_row {a b:List Nat} {i:Nat} (hi:i<a.length):tmA a b i b.length=dv (a.take (i+1))*10^(a.length-(i+1))*dv b:=by
 unfold tmA;rw[getD_cell hi];exact times_row hi
theorem tmA_place {a b l:List Nat} {i k:Nat} (hi:i<a.length) (hk:k<b.length) (hl:l.length=a.length+b.length+1) (h:dv l=tmA a b i k):dv (l.set (i+k+2) (l.getD (i+k+2) 0+a.getD i 0*b.getD k 0))=tmA a b i (k+1):=by
 have hp:i+k+2<l.length:=by omega
 unfold tmA at*
 rw[getD_cell hi] at*
 rw[getD_cell hk,getD_cell hp]
 exact times_place hi hk hl h hp
theorem bd_set {l:List Nat} {C p x:Nat} (h:∀j,l.getD j 0≤81*C) (hx:x≤81):∀j,(l.set p (l.getD p 0+x)).getD j 0≤81*(C+1):=by
 intro j
 have h1:=h j
 have h2:=h p
 by_cases hj:j=p
 ·subst hj
  by_cases hl:j<l.length
  ·rw[getD_cell (l:=l.set j _) (by simpa using hl),List.getElem_set_self];omega
  ·rw[getD_out (l:=l.set j _) (by simp;omega)];omega
 ·have e:(l.set p (l.getD p 0+x)).getD j 0=l.getD j 0:=by
   rw[List.getD_eq_getElem?_getD,List.getElem?_set_ne (Ne.symm hj),←List.getD_eq_getElem?_getD]
  rw[e];omega
theorem digit_le {l:List Nat} (h:AD l) (i:Nat):l.getD i 0≤9:=by
 by_cases hi:i<l.length
 ·rw[getD_cell hi];exact h _ (List.getElem_mem hi)
 ·rw[getD_out (by omega)];omega
theorem sc_mul {e f:Int} (h1:-400≤e) (h2:-400≤f) (h3:-400≤e+f):sc e*sc f=sc (e+f)*sc 0:=by
 unfold sc
 rw[←Nat.pow_add,←Nat.pow_add]
 congr 1
 omega
theorem times_val {neg neg':Bool} {a b P:Nat} {e f V W V':Int} (hV:V=sg neg*(a:Int)*(sc e:Int)) (hW:W=sg neg'*(b:Int)*(sc f:Int)) (hP:P=a*b) (h:V'*sc 0=V*W) (h1:-400≤e) (h2:-400≤f) (h3:-400≤e+f):V'=sg (!(neg==neg'))*(P:Int)*(sc (e+f):Int):=by
 have hp:=sc_pos 0
 refine Int.eq_of_mul_eq_mul_right (by omega:(sc 0:Int)≠0) ?_
 have e1:(sc (e+f):Int)*(sc 0:Int)=(sc e:Int)*(sc f:Int):=by rw[←Int.natCast_mul,←Int.natCast_mul,sc_mul h1 h2 h3]
 have e2:sg (!(neg==neg'))=sg neg*sg neg':=by cases neg<;>cases neg'<;>rfl
 rw[h,hV,hW,hP,Int.mul_assoc (sg (!(neg==neg'))*_),e1,e2,Int.natCast_mul]
 generalize (sc e:Int)=p
 generalize (sc f:Int)=q
 generalize (a:Int)=x
 generalize (b:Int)=y
 generalize sg neg=s
 generalize sg neg'=t
 grind
theorem _root_.Dg.DF.zero' {neg:Bool} {l:List Nat} {e lo hi:Int} (h:DF neg l e 0 lo hi) {lo' hi':Int} (h1:-400≤lo') (h2:hi'≤1000):DF neg l e 0 lo' hi':=by
 have:=h.eq0.1 rfl
 exact⟨h.nd,h.v,h.zero,fun hl=>(hl this).elim,fun hl=>(hl this).elim,h1,h2⟩
def cry (L:List Nat) (m:Nat):List Nat:=(L.set m (L.getD m 0+L.getD (m+1) 0/10)).set (m+1) (L.getD (m+1) 0%10)
theorem cry_dv {L:List Nat} {m:Nat} (h:m+1<L.length):dv (cry L m)=dv L:=by
 unfold cry
 rw[getD_cell (by omega:m<L.length),getD_cell h]
 exact dv_carry (l:=L) (i:=m+1) (by omega) h
theorem cry_get {L:List Nat} {m q:Nat} (h:m+1<L.length):(cry L m).getD q 0=if q=m+1 then L.getD (m+1) 0%10 else if q=m then L.getD m 0+L.getD (m+1) 0/10 else L.getD q 0:=by
 unfold cry
 by_cases h1:q=m+1
 ·subst h1
  rw[if_pos rfl,getD_cell (l:=List.set _ _ _) (by simpa using h),List.getElem_set_self]
 ·rw[if_neg h1,List.getD_eq_getElem?_getD,List.getElem?_set_ne (Ne.symm h1),←List.getD_eq_getElem?_getD]
  by_cases h2:q=m
  ·subst h2
   rw[if_pos rfl,getD_cell (l:=List.set _ _ _) (by simp;omega),List.getElem_set_self]
  ·rw[if_neg h2,List.getD_eq_getElem?_getD,List.getElem?_set_ne (Ne.symm h2),←List.getD_eq_getElem?_getD]
theorem spec_times (d1 d2:Value) (V W0 V' lo hi lo' hi':Int) (w:World) (h:Dc w d1 V lo hi) (k:Dc w d2 W0 lo' hi') (h1:-400≤lo+lo') (h2:hi+hi'+1≤1000) (h3:hi+1≤1000) (h4:hi'+1≤1000) (h5:hi-lo≤600) (h6:hi'-lo'≤300) (h7:0≤hi-lo) (h8:0≤hi'-lo') (hV:V'*sc 0=V*W0):
 Calls Tryz.prog 23 #[d1,d2] w (DcRet V' (lo+lo') (hi+hi'+1) w):=by
 obtain⟨neg,sl,l,ex,rfl,hir,hF⟩:=h
 obtain⟨neg',sl',r,ey,rfl,kir,kF⟩:=k
 obtain⟨a,c,rfl,-,-⟩:=hir.form
 obtain⟨a',c',rfl,-,-⟩:=kir.form
 have hl:=hF.len h7
 have kl:=kF.len h8
 unfold dcv at*
 obtain⟨n1,hn1⟩:∃n1,n1=l.length:=⟨_,rfl⟩
 obtain⟨n2,hn2⟩:∃n2,n2=r.length:=⟨_,rfl⟩
 rw[←hn1] at hir hl ⊢
 rw[←hn2] at kir kl ⊢
 obtain⟨N,hN⟩:∃N,N=n1+n2+1:=⟨_,rfl⟩
 have mk:=make_ints (((w.alloc (.cells #[.bool neg,.slice a n1 c,.int .i64 ex] 27)).alloc (.cells #[.bool neg',.slice a' n2 c',.int .i64 ey] 27)).alloc (.cells #[.bool false,.slice none 0 0,.int .i64 0] 27)) N (by omega)
 have U1:=Lh<| show wrap64 ((n1:Int)+(n2:Int))=(n1:Int)+(n2:Int) from w64 rfl (by omega) (by omega)
 have U2:=Lh<| show wrap64 ((n1:Int)+(n2:Int)+1)=(N:Int) from w64 (by omega) (by omega) (by omega)
 have HN:=Lh (Aj hn1 (Aj hn2 hN))
 have HF:=Lh (Aj hF kF)
 have HB:=Lh (Aj h1 (Aj h2 (Aj h3 (Aj h4 (Aj h7 (Aj h8 hV))))))
 have HL:=Lh (show n1≤600∧n2≤300 by omega)
 have mW:Mod [] w ((((w.alloc (.cells #[.bool neg,.slice a n1 c,.int .i64 ex] 27)).alloc (.cells #[.bool neg',.slice a' n2 c',.int .i64 ey] 27)).alloc (.cells #[.bool false,.slice none 0 0,.int .i64 0] 27)).alloc (.cells (ic (List.replicate N 0)) 3)):=((((Mod.refl [] w).alloc _).alloc _).alloc _).alloc _
 have q1:Hd ((((w.alloc (.cells #[.bool neg,.slice a n1 c,.int .i64 ex] 27)).alloc (.cells #[.bool neg',.slice a' n2 c',.int .i64 ey] 27)).alloc (.cells #[.bool false,.slice none 0 0,.int .i64 0] 27)).alloc (.cells (ic (List.replicate N 0)) 3)) w.heap.size 27 #[.bool neg,.slice a n1 c,.int .i64 ex]:=Hd.mod (Hd.new w 27 _) ((((Mod.refl [] _).alloc _).alloc _).alloc _) (by simp)
 have q2:Hd ((((w.alloc (.cells #[.bool neg,.slice a n1 c,.int .i64 ex] 27)).alloc (.cells #[.bool neg',.slice a' n2 c',.int .i64 ey] 27)).alloc (.cells #[.bool false,.slice none 0 0,.int .i64 0] 27)).alloc (.cells (ic (List.replicate N 0)) 3)) (w.heap.size+1) 27 #[.bool neg',.slice a' n2 c',.int .i64 ey]:=by
  have:=Hd.mod (Hd.new (w.alloc (.cells #[.bool neg,.slice a n1 c,.int .i64 ex] 27)) 27 #[.bool neg',.slice a' n2 c',.int .i64 ey]) (((Mod.refl [] _).alloc (.cells #[.bool false,.slice none 0 0,.int .i64 0] 27)).alloc (.cells (ic (List.replicate N 0)) 3)) (by simp)
  simpa using this
 have q3:Hd ((((w.alloc (.cells #[.bool neg,.slice a n1 c,.int .i64 ex] 27)).alloc (.cells #[.bool neg',.slice a' n2 c',.int .i64 ey] 27)).alloc (.cells #[.bool false,.slice none 0 0,.int .i64 0] 27)).alloc (.cells (ic (List.replicate N 0)) 3)) (w.heap.size+1+1) 27 #[.bool false,.slice none 0 0,.int .i64 0]:=by
  have:=Hd.mod (Hd.new ((w.alloc (.cells #[.bool neg,.slice a n1 c,.int .i64 ex] 27)).alloc (.cells #[.bool neg',.slice a' n2 c',.int .i64 ey] 27)) 27 #[.bool false,.slice none 0 0,.int .i64 0]) ((Mod.refl [] _).alloc (.cells (ic (List.replicate N 0)) 3)) (by simp)
  simpa using this
 have q4:Hd ((((w.alloc (.cells #[.bool neg,.slice a n1 c,.int .i64 ex] 27)).alloc (.cells #[.bool neg',.slice a' n2 c',.int .i64 ey] 27)).alloc (.cells #[.bool false,.slice none 0 0,.int .i64 0] 27)).alloc (.cells (ic (List.replicate N 0)) 3)) (w.heap.size+1+1+1) 3 (ic (List.replicate N 0)):=by
  have:=Hd.new (((w.alloc (.cells #[.bool neg,.slice a n1 c,.int .i64 ex] 27)).alloc (.cells #[.bool neg',.slice a' n2 c',.int .i64 ey] 27)).alloc (.cells #[.bool false,.slice none 0 0,.int .i64 0] 27)) 3 (ic (List.replicate N 0))
  simpa using this
 have QQ:=Lh (Aj mW (Aj q1 (Aj q2 (Aj q3 (Aj q4 (Aj hir kir))))))
 clear hn1 hn2 hN hF kF h1 h2 h3 h4 h5 h6 h7 h8 hV hl kl mW q1 q2 q3 q4 hir kir
 have u1:=U1.out
 have u2:=U2.out
 go_enter Tryz.func23,Tryz.ntmps23
 go_upto_region 2 with fail
 obtain⟨mW,q1,q2,q3,q4,hir,kir⟩:=QQ.out
 have hI1:=hir.mod mW
 have hI2:=kir.mod mW
 have hne:∀{v:Value} {l:List Nat},Ir w v l→∀k,v.ownBlock=some k→k∉[w.heap.size+1+1+1]:=fun {v l} h k hk hm=>by
  have hk3:=List.mem_singleton.1 hm
  rcases h with ⟨rfl,-⟩|⟨g,o,c,rfl,-,-,h4,-⟩
  ·cases hk
  ·have:g=k:=by simpa [Value.ownBlock] using hk
   have:=h4.lt
   omega
 have N1:=hne hir
 have N2:=hne kir
 have st0:TS ((((w.alloc (.cells #[.bool neg,.slice a n1 c,.int .i64 ex] 27)).alloc (.cells #[.bool neg',.slice a' n2 c',.int .i64 ey] 27)).alloc (.cells #[.bool false,.slice none 0 0,.int .i64 0] 27)).alloc (.cells (ic (List.replicate N 0)) 3)) _ (w.heap.size+1+1+1) (List.replicate N 0):=⟨Mod.refl _ _,q4⟩
 have hs0:w.heap.size≤w.heap.size+1+1:=by omega
 have hd3:w.heap.size∉[w.heap.size+1+1+1]:=by simp;omega
 have hd4:w.heap.size+1∉[w.heap.size+1+1+1]:=by simp
 have hd5:w.heap.size+1+1∉[w.heap.size+1+1+1]:=by simp
 have hs4:w.heap.size≤w.heap.size+1+1+1:=by omega
 clear hir kir hne
 generalize (((w.alloc (.cells #[.bool neg,.slice a n1 c,.int .i64 ex] 27)).alloc (.cells #[.bool neg',.slice a' n2 c',.int .i64 ey] 27)).alloc (.cells #[.bool false,.slice none 0 0,.int .i64 0] 27)).alloc (.cells (ic (List.replicate N 0)) 3)=W at*
 have CB:=Lh (fun(wr:World) (m:Mod [w.heap.size+1+1+1] W wr)=>show (wr.cell? ⟨w.heap.size,1,none⟩=some (.slice a n1 c)∧wr.cell? ⟨w.heap.size+1,1,none⟩=some (.slice a' n2 c'))∧Ir wr (.slice a n1 c) l∧Ir wr (.slice a' n2 c') r∧Hd wr (w.heap.size+1+1) 27 #[.bool false,.slice none 0 0,.int .i64 0]∧Hd wr w.heap.size 27 #[.bool neg,.slice a n1 c,.int .i64 ex]∧Hd wr (w.heap.size+1) 27 #[.bool neg',.slice a' n2 c',.int .i64 ey] from
  ⟨⟨Hd.cell (Hd.mod q1 m hd3) (i:=1) rfl,Hd.cell (Hd.mod q2 m hd4) (i:=1) rfl⟩,hI1.mods m N1,hI2.mods m N2,Hd.mod q3 m hd5,Hd.mod q1 m hd3,Hd.mod q2 m hd4⟩)
 have HW:=Lh (Aj mW (Aj st0 (Aj hs0 hs4)))
 have p1:=Hd.cell q1 (i:=1) rfl
 clear QQ mW q1 q2 q3 q4 hI1 hI2 N1 N2 st0 hs0 hs4 hd3 hd4 hd5 mk u1 u2
 generalize w.heap.size+1+1+1=bq at*
 generalize w.heap.size+1+1=b3 at*
 generalize w.heap.size+1=b2 at*
 generalize hb1:w.heap.size=b1 at*
 have HB1:=Lh hb1
 clear hb1
 replace p1:W.cell? ⟨b1,1,none⟩=some (.slice a n1 c):=p1
 go_wp2_with fail
 clear p1
 go_loopw [21] (fun t21 wr=>∃(i:Nat) (L:List Nat),t21=.int .i64 i∧i≤n1∧L.length=N∧TS W wr bq L∧dv L=dv (l.take i)*10^(l.length-i)*dv r∧∀j,L.getD j 0≤81*(i*n2)) (fun t21 _=>n1-(intOf t21).toNat)
 case atStart=>exact⟨0,_,rfl,Nat.zero_le _,by simp,HW.out.2.1,times_start,fun j=>by
  rw[List.getD_eq_getElem?_getD]
  by_cases hj:j<N
  ·rw[List.getElem?_eq_getElem (by simpa using hj)];simp
  ·rw[List.getElem?_eq_none (by simp;omega)];simp⟩
 case round=>
  obtain⟨i,L,rfl,hi,hLN,hst,hdv,hbd⟩:=hrel
  rcases Nat.lt_or_ge i n1 with hin|hin
  ·obtain⟨⟨p1,p2⟩,-⟩:=CB.out wr hst.mod
   have d1:decide (i<n1)=true:=by simpa using hin
   have HI:=Lh (Aj hi (Aj hLN (Aj hst (Aj hdv (Aj hbd hin)))))
   clear hi hLN hst hdv hbd hin
   go_wp2_with fail
   clear p1 p2 d1
   go_loopw [27] (fun t27 wr=>∃(k:Nat) (L:List Nat),t27=.int .i64 k∧k≤n2∧L.length=N∧TS W wr bq L∧dv L=tmA l r i k∧∀j,L.getD j 0≤81*(i*n2+k)) (fun t27 _=>n2-(intOf t27).toNat)
   case atStart=>exact⟨0,L,rfl,Nat.zero_le _,HI.out.2.1,HI.out.2.2.1,by rw[tmA_zero];exact HI.out.2.2.2.1,HI.out.2.2.2.2.1⟩
   case round=>
    obtain⟨k,L1,rfl,hk,hLN,hst,hdv,hbd⟩:=hrel
    rcases Nat.lt_or_ge k n2 with hkn|hkn
    ·obtain⟨⟨p1,p2⟩,I1,I2,-⟩:=CB.out _ hst.mod
     have hin:=HI.out.2.2.2.2.2
     have hN:=HN.out
     obtain⟨g,o,cc,he1,-,-,-,hcl⟩:=I1.cells (by rintro rfl;simp at hN;omega)
     obtain⟨g',o',cc',he2,-,-,-,kcl⟩:=I2.cells (by rintro rfl;simp at hN;omega)
     obtain⟨ha,-,-⟩:=Value.slice.inj he1
     obtain⟨ha',-,-⟩:=Value.slice.inj he2
     subst ha
     subst ha'
     have e1:=hcl i (by omega)
     have e2:=kcl k (by omega)
     rw[←getD_cell (l:=l) (by omega)] at e1
     rw[←getD_cell (l:=r) (by omega)] at e2
     have e3:=hst.cell (i:=i+k+2) (by omega)
     have x9:=digit_le HF.out.1.nd.ad i
     have y9:=digit_le HF.out.2.nd.ad k
     have hb:=hbd (i+k+2)
     have hnew:=tmA_place (a:=l) (b:=r) (l:=L1) (i:=i) (k:=k) (by omega) (by omega) (by omega) hdv
     have hbn:=bd_set (p:=i+k+2) (x:=l.getD i 0*r.getD k 0) hbd (Nat.mul_le_mul x9 y9)
     have hst2:=(hst.drewN 1).set (i+k+2) (L1.getD (i+k+2) 0+l.getD i 0*r.getD k 0)
     have hin2:i*n2+k≤600*300+300:=by have:=HL.out;have:=Nat.mul_le_mul (show i≤600 by omega) (show n2≤300 by omega);omega
     obtain⟨x,hx⟩:∃x,x=l.getD i 0:=⟨_,rfl⟩
     obtain⟨y,hy⟩:∃y,y=r.getD k 0:=⟨_,rfl⟩
     obtain⟨p,hp⟩:∃p,p=i+k+2:=⟨_,rfl⟩
     obtain⟨ik,hik⟩:∃ik,ik=i+k:=⟨_,rfl⟩
     obtain⟨z,hz⟩:∃z,z=L1.getD p 0:=⟨_,rfl⟩
     obtain⟨xy,hxy⟩:∃xy,xy=x*y:=⟨_,rfl⟩
     obtain⟨s,hs⟩:∃s,s=z+xy:=⟨_,rfl⟩
     have hxy81:xy≤81:=by rw[hxy,hx,hy];exact Nat.mul_le_mul x9 y9
     rw[←hx,←hy,←hxy,←hp,←hz,←hs] at hst2
     rw[←hx,←hy,←hxy,←hp,←hz,←hs] at hnew
     rw[←hx,←hy,←hxy,←hp,←hz,←hs] at hbn
     rw[←hp,←hz] at e3
     rw[←hp,←hz] at hb
     rw[←hx] at e1
     rw[←hy] at e2
     have s1:IntKind.i64.wrap ((i:Int)+(k:Int))=(ik:Int):=i64w (by omega) (by omega) (by have:=HL.out;omega)
     have s2:IntKind.i64.wrap ((ik:Int)+2)=(p:Int):=i64w (by omega) (by omega) (by have:=HL.out;omega)
     have s3:IntKind.i64.wrap ((x:Int)*(y:Int))=(xy:Int):=i64w (by rw[hxy,Int.natCast_mul]) (by omega) (by omega)
     have s4:IntKind.i64.wrap ((z:Int)+(xy:Int))=(s:Int):=i64w (by omega) (by omega) (by omega)
     have d1:decide (k<n2)=true:=by simpa using hkn
     have d2:p<N:=by omega
     have fr:=Hd.free hst.hd
     have h300:k<300:=by have:=HL.out;omega
     have T9:=Lh (Aj hnew (Aj hbn (Aj hst2 (Aj hkn hLN))))
     clear hk hLN hst hdv hbd I1 I2 hN he1 he2 hcl kcl x9 y9 hb hnew hbn hst2 hin2 hx hy hp hik hz hxy hs hxy81
     go_upto_region 8 with fail
     go_still_tail 19,(by kernel_rfl)
     change wpList _ _ _ _ _ (wr.drewN 1)
     go_wp2_with fail
     go_roundw
     case rel=>exact⟨k+1,_,by go_num,T9.out.2.2.2.1,by rw[List.length_set];exact T9.out.2.2.2.2,T9.out.2.2.1,T9.out.1,T9.out.2.1⟩
     case measure=>simp[intOf];have:=T9.out.2.2.2.1;omega
    ·have hke:k=n2:=by omega
     subst hke
     have d1:decide (k<k)=false:=by simp
     have T9:=Lh (Aj hLN (Aj hst (Aj hdv hbd)))
     clear hk hLN hst hdv hbd hkn
     have h600:i<600:=by have:=HI.out.2.2.2.2.2;have:=HL.out;omega
     go_wp2_with fail
     go_roundw
     case rel=>exact⟨i+1,L1,by go_num,HI.out.2.2.2.2.2,T9.out.1,T9.out.2.1,by rw[T9.out.2.2.1,HN.out.2.1];exact tmA_row (by have:=HI.out.2.2.2.2.2;have:=HN.out.1;omega),fun j=>by have:=T9.out.2.2.2 j;rw[Nat.add_mul,Nat.one_mul];exact this⟩
     case measure=>simp[intOf];have:=HI.out.2.2.2.2.2;omega
  ·have hie:i=n1:=by omega
   subst hie
   have d1:decide (i<i)=false:=by simp
   have hP:dv L=dv l*dv r:=by
    have hN:=HN.out
    rw[hdv,hN.1,Nat.sub_self,Nat.pow_zero,Nat.mul_one,List.take_length]
   have hN1:1≤N∧N≤901:=by have:=HN.out;have:=HL.out;omega
   have hbd7:∀j,L.getD j 0≤15000000:=fun j=>Nat.le_trans (hbd j) (by have:=HL.out;have:=Nat.mul_le_mul (show i≤600 by omega) (show n2≤300 by omega);omega)
   obtain⟨M,hM⟩:∃M,N=M+1:=⟨N-1,by omega⟩
   have HM:=Lh hM
   have U3:=Lh<| show wrap64 ((N:Int)-1)=(M:Int) from w64 (by omega) (by omega) (by omega)
   clear hM
   have HN1:=Lh hN1
   clear hN1
   have u3:=U3.out
   have T9:=Lh (Aj hLN (Aj hst (Aj hP hbd7)))
   clear hi hLN hst hdv hbd hin hP hbd7
   go_wp2_with fail
   clear d1 u3
   go_loopw [8] (fun t8 wr=>∃(j:Nat) (L:List Nat),t8=.int .i64 j∧j≤M∧L.length=N∧TS W wr bq L∧dv L=dv l*dv r∧(∀q,q<j→L.getD q 0≤15000000)∧L.getD j 0≤20000000∧∀q,j<q→L.getD q 0≤9) (fun t8 _=>(intOf t8).toNat)
   case atStart=>exact⟨M,L,by rw[U3.out],Nat.le_refl _,T9.out.1,T9.out.2.1,T9.out.2.2.1,fun q _=>T9.out.2.2.2 q,by have:=T9.out.2.2.2 M;omega,fun q hq=>by rw[getD_out (by have:=T9.out.1;have:=HM.out;omega)];omega⟩
   case round=>
    obtain⟨j,L2,rfl,hj,hLN,hst,hP,hb1,hb2,hb3⟩:=hrel
    rcases Nat.eq_zero_or_pos j with hj0|hj0
    ·subst hj0
     have hAD:AD L2:=by
      have hN:=HN.out
      have h0:L2.getD 0 0=0:=by
       rcases L2 with _|⟨z,t⟩
       ·rfl
       ·rw[dv_cons] at hP
        have a1:=dv_lt HF.out.1.nd.ad
        have a2:=dv_lt HF.out.2.nd.ad
        have a3:dv l*dv r<10^l.length*10^r.length:=Nat.mul_lt_mul'' a1 a2
        rw[←Nat.pow_add] at a3
        have ht:t.length=l.length+r.length:=by simp at hLN;omega
        rw[ht] at hP
        rcases Nat.eq_zero_or_pos z with hz|hz
        ·simpa using hz
        ·have:=Nat.mul_le_mul_right (10^(l.length+r.length)) (show 1≤z from hz)
         omega
      intro d hd
      obtain⟨q,hq,rfl⟩:=List.getElem_of_mem hd
      rw[←getD_cell hq]
      rcases Nat.eq_zero_or_pos q with hq0|hq0
      ·rw[hq0,h0];omega
      ·exact hb3 q hq0
     have hbt:=CB.out wr hst.mod
     have hir:Ir wr (.slice (some ⟨bq,0,none⟩) N N) L2:=.inr ⟨bq,0,N,by rw[hLN],by omega,by have:=HN1.out;omega,⟨_,hst.hd⟩,fun q hq=>by
      rw[Nat.zero_add,←getD_cell hq];exact hst.cell hq⟩
     have T8:=Lh (Aj hst (Aj hP (Aj hAD (Aj hir hLN))))
     have c10:=hbt.2.2.2.2.1.cell (i:=0) rfl
     have c12:=hbt.2.2.2.2.1.cell (i:=2) rfl
     have c20:=hbt.2.2.2.2.2.cell (i:=0) rfl
     have c22:=hbt.2.2.2.2.2.cell (i:=2) rfl
     have HD3:=Lh hbt.2.2.2.1
     have hn1:=HN.out.1
     have hn2:=HN.out.2.1
     have hnN:=HN.out.2.2
     obtain⟨b1',b2',b3',b4',b5',b6',b7'⟩:=HB.out
     have f1:=HF.out.1.blo
     have f2:=HF.out.2.blo
     have hxe:-400≤ex+ey∧ex+ey+(N:Int)≤1000∧-400≤ex∧-400≤ey:=by
      by_cases hl0:l=[]
      ·have z1:=(HF.out.1.zero hl0).2
       have:i=0:=by rw[hn1,hl0];rfl
       by_cases hr0:r=[]
       ·have z2:=(HF.out.2.zero hr0).2
        have:n2=0:=by rw[hn2,hr0];rfl
        omega
       ·have:=HF.out.2.ge hr0;have:=HF.out.2.le hr0;omega
      ·have:=HF.out.1.ge hl0;have:=HF.out.1.le hl0
       by_cases hr0:r=[]
       ·have z2:=(HF.out.2.zero hr0).2
        have:n2=0:=by rw[hn2,hr0];rfl
        omega
       ·have:=HF.out.2.ge hr0;have:=HF.out.2.le hr0;omega
     have hval:=times_val (P:=dv L2) HF.out.1.v HF.out.2.v hP b7' hxe.2.2.1 hxe.2.2.2 hxe.1
     have DC:=Lh<| show Calls Tryz.prog 40 #[.bool (!(neg==neg')),.slice (some ⟨bq,0,none⟩) N N,.int .i64 (ex+ey)] wr (DcRet V' (lo+lo') (hi+hi'+1) wr) by
      by_cases h0:l=[]∨r=[]
      ·refine(decimal_calls _ _ _ _ _ hir hAD hxe.1 (hi:=1000) (by rw[hLN];exact hxe.2.1) (by omega)).mono ?_
       rintro e w' ⟨d,rfl,⟨ng,sl,l3,e3,rfl,i3,F3⟩,m⟩
       rw[←hval] at F3
       have hV0:V'=0:=by
        have hd:dv L2=0:=by rcases h0 with h0|h0<;>(rw[hP,h0,dv_nil];simp)
        rw[hval,hd];simp
       rw[hV0] at F3 ⊢
       exact⟨_,rfl,⟨ng,sl,l3,e3,rfl,i3,F3.zero' b1' b2'⟩,m⟩
      ·have hl0:l≠[]:=fun h=>h0 (.inl h)
       have hr0:r≠[]:=fun h=>h0 (.inr h)
       have g1:=HF.out.1.ge hl0;have g2:=HF.out.1.le hl0;have g3:=HF.out.2.ge hr0;have g4:=HF.out.2.le hr0
       refine(decimal_calls _ _ _ _ _ hir hAD hxe.1 (hi:=hi+hi'+1) (by rw[hLN];omega) b2').mono ?_
       rintro e w' ⟨d,rfl,hdc,m⟩
       rw[←hval] at hdc
       exact⟨_,rfl,hdc.mono (by omega) (Int.le_refl _) b1' b2',m⟩
     have tx:wrap64 (ex+ey)=ex+ey:=w64 rfl (by omega) (by omega)
     clear hval hxe f1 f2 b1' b2' b3' b4' b5' b6' b7' hn1 hn2 hnN
     clear hj hLN hst hP hb1 hb2 hb3 hAD hbt hir
     go_wp2_with fail
     refine DC.out.mono ?_
     rintro _ w2 ⟨d,rfl,⟨ng,sl,l3,e3,rfl,i3,F3⟩,m2⟩
     obtain⟨av,cv,hsl,-,-⟩:=i3.form
     subst hsl
     have hd2:=Hd.mod HD3.out m2 (by simp)
     have mw2:Mod [] w w2:=(HW.out.1.step T8.out.1.mod (fun x hx=>.inr (by rw[List.mem_singleton.1 hx];rw[HB1.out];exact HW.out.2.2.2))).trans m2
     have FS:=Lh (dc_put hd2 (by rw[HB1.out];exact HW.out.2.2.1) mw2 i3 F3)
     have k0:=hd2.cell (i:=0) rfl
     have k1:=hd2.cell (i:=1) rfl
     have k2:=hd2.cell (i:=2) rfl
     have kf:=hd2.free
     clear i3 F3 m2 hd2 DC mw2 tx
     unfold dcv
     go_wp2_with fail
     obtain⟨hd,hdc,hmd⟩:=FS.out
     have c0:=hd.cell (i:=0) rfl
     have c1:=hd.cell (i:=1) rfl
     have c2:=hd.cell (i:=2) rfl
     refine bodyPost_ret (v:=dcv ng (.slice av l3.length cv) e3) (by unfold dcv;simp[results,Tryz.results23,go_sem,c0,c1,c2];try rfl) rfl ?_
     exact⟨_,rfl,hdc,hmd⟩
    ·obtain⟨m,hjm⟩:∃m,j=m+1:=⟨j-1,by omega⟩
     have hM:=HM.out
     have hN1:=HN1.out
     have hm:m+1<L2.length:=by omega
     have e1:=hst.cell (i:=m) (by omega)
     have e2:=hst.cell (i:=j) (by omega)
     have hx:=hb1 m (by omega)
     have hdv:=cry_dv hm
     have hgt:=fun q=>cry_get (q:=q) hm
     rw[←hjm] at hgt
     obtain⟨x,hxx⟩:∃x,x=L2.getD m 0:=⟨_,rfl⟩
     obtain⟨y,hyy⟩:∃y,y=L2.getD j 0:=⟨_,rfl⟩
     obtain⟨y10,hy10⟩:∃y10,y10=y/10:=⟨_,rfl⟩
     obtain⟨s,hs⟩:∃s,s=x+y10:=⟨_,rfl⟩
     obtain⟨ym,hym⟩:∃ym,ym=y%10:=⟨_,rfl⟩
     have hst1:=(hst.drewN 1).set m s
     have hst2:=hst1.set j ym
     have he:(L2.set m s).set j ym=cry L2 m:=by unfold cry;rw[←hjm,←hxx,←hyy,←hy10,←hs,←hym]
     rw[he] at hst2
     have e4:=hst1.cell (i:=j) (by simp;omega)
     have hg4:(L2.set m s).getD j 0=y:=by rw[List.getD_eq_getElem?_getD,List.getElem?_set_ne (by omega),←List.getD_eq_getElem?_getD,hyy]
     rw[hg4] at e4
     rw[←hxx] at e1 hx
     rw[←hyy] at e2 hb2
     have s1:IntKind.i64.wrap ((j:Int)-1)=(m:Int):=i64w (by omega) (by omega) (by omega)
     have s2:IntKind.i64.wrap ((y:Int).tdiv 10)=(y10:Int):=i64w (by rw[hy10];exact tdiv_cast y 10) (by omega) (by omega)
     have s3:IntKind.i64.wrap ((x:Int)+(y10:Int))=(s:Int):=i64w (by omega) (by omega) (by omega)
     have V2:=Lh<| show wrap64 ((y:Int)/10)=(y10:Int) from w64 (by omega) (by omega) (by omega)
     have V3:=Lh<| show wrap64 ((x:Int)+(y10:Int))=(s:Int) from w64 (by omega) (by omega) (by omega)
     have V5:=Lh<| show wrap64 ((j:Int)-1)=(m:Int) from w64 (by omega) (by omega) (by omega)
     have V4:=Lh<| show (y:Int)%10=(ym:Int) by omega
     have d1:decide (0<j)=true:=by simp;omega
     have hjN:j<N:=by omega
     have hmN:m<N:=by omega
     have fr:=Hd.free hst.hd
     have fr1:=Hd.free hst1.hd
     have T8:=Lh (Aj hst2 (Aj (hdv.trans hP) (Aj hgt (Aj hb1 (Aj hb3 (Aj hLN (Aj hxx (Aj hyy (Aj hj (Aj hx (Aj hb2 (Aj hy10 (Aj hym (Aj hjm hs))))))))))))))
     clear hj hLN hst hP hb1 hb2 hb3 hm hx hdv hgt hxx hyy hy10 hs hym hst1 hst2 he hg4 hj0 hjm hM hN1
     go_upto_region 14 with fail
     go_still_tail 11,(by kernel_rfl)
     change wpList _ _ _ _ _ (wr.drewN 1)
     have v2:=V2.out
     have v3:=V3.out
     have v4:=V4.out
     clear s1 s2 s3
     go_wp2_with fail
     rw[V5.out]
     go_roundw
     case rel=>
      obtain⟨k1,k2,k3,k4,k5,k6,k7,k8,k9,k10,k11,k12,k13,k14,k15⟩:=T8.out
      refine⟨m,cry L2 m,rfl,by omega,by unfold cry;simp[k6],k1,k2,fun q hq=>?_,?_,fun q hq=>?_⟩
      ·rw[k3,if_neg (by omega),if_neg (by omega)];exact k4 q (by omega)
      ·rw[k3,if_neg (by omega),if_pos rfl,←k7,←k8];omega
      ·rw[k3]
       by_cases h:q=j
       ·rw[if_pos h];omega
       ·rw[if_neg h,if_neg (by omega)];exact k5 q (by omega)
     case measure=>
      obtain⟨k1,k2,k3,k4,k5,k6,k7,k8,k9,k10,k11,k12,k13,k14,k15⟩:=T8.out
      simp[intOf];omega
end Go.Proofs.YtcpjclakdpjjfaaGreatDoor
namespace Go.Proofs.YtcpjclakdpjjfaaGreatDoor
open Go.RowKit Wd Dg
theorem dch_snoc (l:List Nat) (d:Nat):dch (l++[d])=dch l++[UInt8.ofNat (48+d)]:=by simp[dch]
theorem digit_text {d:Nat} (h:d≤9):(⟨#[48,49,50,51,52,53,54,55,56,57]⟩:ByteArray).extract d (d+1)=⟨#[UInt8.ofNat (48+d)]⟩:=by
 have:d=0∨d=1∨d=2∨d=3∨d=4∨d=5∨d=6∨d=7∨d=8∨d=9:=by omega
 rcases this with rfl|rfl|rfl|rfl|rfl|rfl|rfl|rfl|rfl|rfl<;>rfl
theorem ba_app (l1 l2:List UInt8):(⟨l1.toArray⟩:ByteArray)++⟨l2.toArray⟩=⟨(l1++l2).toArray⟩:=by
 ext1
 simp
theorem spec_text (d:Value) (V lo hi n:Int) (w:World) (h:Dc w d V lo hi) (hn:V=n*sc 0) (hlo:-400≤lo) (h7:0≤hi-lo) (h8:hi-lo≤1000):Calls Tryz.prog 42 #[d] w fun e w'=>e=.returned (.string ⟨(Lib.itoa n).toArray⟩)∧Mod [] w w':=by
 obtain⟨neg,sl,l,ex,rfl,hir,hF⟩:=h
 obtain⟨a,c,rfl,hc1,hc2⟩:=hir.form
 by_cases hl:l=[]
 ·have hV0:=hF.eq0.2 hl
  have hn0:n=0:=by
   have:=sc_pos 0
   rw[hV0] at hn
   rcases Int.mul_eq_zero.1 hn.symm with h|h
   ·exact h
   ·omega
  subst hn0
  have hlen:l.length=0:=by rw[hl];rfl
  rw[hlen]
  clear hir hF hV0 hn hc1 hc2 hlen hl
  unfold dcv
  go_enter Tryz.func42,Tryz.ntmps42
  go_wp2_with fail
  go_ret
  exact⟨by rw[show Lib.itoa 0=[48] by decide+kernel];rfl,(Mod.refl [] w).alloc _⟩
 ·have hT:=hF.text hn hl
  have hx:=hF.whole hn hl
  have hg:=hF.ge hl
  have hle:=hF.le hl
  have hbh:=hF.bhi
  have WD:=Lh (fun(w':World) (m:Mod [] w w')=>wide_calls neg (.slice a l.length c) l ex 0 w' (hir.mod m) (by omega) (by omega) (by omega) (by omega) (by omega))
  have hA:=hF.nd.ad
  have hl0:0<l.length:=List.length_pos_iff.2 hl
  have HT:=Lh (Aj hT (Aj hA (Aj hl (show (ex-0).toNat=ex.toNat by omega))))
  have t1:((l.length:Int)==0)=false:=by simp;exact hl
  have hb:l.length+ex.toNat≤1000:=by omega
  have HBB:=Lh hb
  clear hT hx hg hle hbh hir hF hn hlo h7 h8 hc1 hc2 hA hl hl0 hb
  unfold dcv at*
  cases neg
  ·go_enter Tryz.func42,Tryz.ntmps42
   go_wp2_with fail
   refine(WD.out _ ((Mod.refl [] w).alloc _)).mono ?_
   rintro _ w2 ⟨v,rfl,i2,m2⟩
   rw[if_neg HT.out.2.2.1,HT.out.2.2.2] at i2
   obtain⟨R,hR⟩:∃R,R=l++List.replicate ex.toNat 0:=⟨_,rfl⟩
   rw[←hR] at i2
   have hRA:AD R:=by rw[hR];exact HT.out.2.1.append (AD.zeros _)
   obtain⟨g2,o2,c2,rfl,k1,k2,k3,k4⟩:=i2.cells (by rw[hR];have:=HT.out.2.2.1;simp[this])
   have k5:∀i,i<R.length→w2.cell? ⟨g2,o2+i,none⟩=some (.int .i64 ((R.getD i 0:Nat):Int)):=fun i hi=>by rw[getD_cell hi];exact k4 i hi
   have k6:∀i,i<R.length→R.take (i+1)=R.take i++[R.getD i 0]:=fun i hi=>by rw[getD_cell hi];exact List.take_succ_eq_append_getElem hi
   clear k4
   have HR:=Lh (Aj hR (Aj hRA (Aj (Aj k5 k6) (Aj m2 (show R.length≤1000 by have:=HBB.out;rw[hR];simp;omega)))))
   generalize hN:R.length=N at*
   have HN:=Lh hN
   clear hR hRA k5 k6 m2 i2 k3 hN
   go_wp2_with fail
   go_loop [3,15] (fun t3 t15=>∃(k:Nat) (s:ByteArray),t15=.int .i64 k∧k≤N∧t3=.string s∧s=⟨(([]:List UInt8)++dch (R.take k)).toArray⟩) (fun _ t15=>N-(intOf t15).toNat)
   case atStart=>exact⟨0,_,rfl,Nat.zero_le _,rfl,by simp[dch]⟩
   case round=>
    obtain⟨k,s,rfl,hk,rfl,hs⟩:=hrel
    have hN2:=HN.out
    have hB:=HR.out.2.2.2.2
    rcases Nat.lt_or_ge k N with hkn|hkn
    ·have e1:=HR.out.2.2.1.1 k hkn
     have hd9:=digit_le HR.out.2.1 k
     have htk:=HR.out.2.2.1.2 k hkn
     generalize R.getD k 0=dd at*
     have tdx:=digit_text hd9
     have twd:wrap64 ((dd:Int)+1)=((dd+1:Nat):Int):=w64 (by omega) (by omega) (by omega)
     have d1:decide (k<N)=true:=by simpa using hkn
     have hd10:dd+1≤10:=by omega
     have HK:=Lh (Aj hs (Aj htk (Aj hd9 (Aj hkn hk))))
     have hkb:k<1000:=by omega
     have hsz:s.size≤2000:=by
      have e:s.size=(([]:List UInt8)++dch (R.take k)).length:=by rw[hs];rfl
      rw[e];simp[dch];omega
     clear hs htk hk hN2 hB
     go_wp2_with fail
     go_round
     case rel=>
      refine⟨k+1,_,by go_num,HK.out.2.2.2.1,rfl,?_⟩
      rw[HK.out.2.1,dch_snoc,HK.out.1,←List.append_assoc,UInt8.ofNat_add]
      exact ba_app _ [UInt8.ofNat 48+UInt8.ofNat dd]
     case measure=>simp[intOf];have:=HK.out.2.2.2.1;omega
    ·have hke:k=N:=by omega
     have d1:decide (k<N)=false:=by simp;omega
     have HK:=Lh (Aj hs hke)
     clear hs hke hk hkn hN2 hB
     go_wp2_with fail
     go_ret
     refine⟨?_,((Mod.refl [] w).alloc _).trans HR.out.2.2.2.1⟩
     rw[←HT.out.1,←HR.out.1,HK.out.1,HK.out.2,←HN.out,List.take_length]
     rfl
  ·go_enter Tryz.func42,Tryz.ntmps42
   go_wp2_with fail
   refine(WD.out _ ((Mod.refl [] w).alloc _)).mono ?_
   rintro _ w2 ⟨v,rfl,i2,m2⟩
   rw[if_neg HT.out.2.2.1,HT.out.2.2.2] at i2
   obtain⟨R,hR⟩:∃R,R=l++List.replicate ex.toNat 0:=⟨_,rfl⟩
   rw[←hR] at i2
   have hRA:AD R:=by rw[hR];exact HT.out.2.1.append (AD.zeros _)
   obtain⟨g2,o2,c2,rfl,k1,k2,k3,k4⟩:=i2.cells (by rw[hR];have:=HT.out.2.2.1;simp[this])
   have k5:∀i,i<R.length→w2.cell? ⟨g2,o2+i,none⟩=some (.int .i64 ((R.getD i 0:Nat):Int)):=fun i hi=>by rw[getD_cell hi];exact k4 i hi
   have k6:∀i,i<R.length→R.take (i+1)=R.take i++[R.getD i 0]:=fun i hi=>by rw[getD_cell hi];exact List.take_succ_eq_append_getElem hi
   clear k4
   have HR:=Lh (Aj hR (Aj hRA (Aj (Aj k5 k6) (Aj m2 (show R.length≤1000 by have:=HBB.out;rw[hR];simp;omega)))))
   generalize hN:R.length=N at*
   have HN:=Lh hN
   clear hR hRA k5 k6 m2 i2 k3 hN
   go_wp2_with fail
   go_loop [3,15] (fun t3 t15=>∃(k:Nat) (s:ByteArray),t15=.int .i64 k∧k≤N∧t3=.string s∧s=⟨(([45]:List UInt8)++dch (R.take k)).toArray⟩) (fun _ t15=>N-(intOf t15).toNat)
   case atStart=>exact⟨0,_,rfl,Nat.zero_le _,rfl,by simp[dch]⟩
   case round=>
    obtain⟨k,s,rfl,hk,rfl,hs⟩:=hrel
    have hN2:=HN.out
    have hB:=HR.out.2.2.2.2
    rcases Nat.lt_or_ge k N with hkn|hkn
    ·have e1:=HR.out.2.2.1.1 k hkn
     have hd9:=digit_le HR.out.2.1 k
     have htk:=HR.out.2.2.1.2 k hkn
     generalize R.getD k 0=dd at*
     have tdx:=digit_text hd9
     have twd:wrap64 ((dd:Int)+1)=((dd+1:Nat):Int):=w64 (by omega) (by omega) (by omega)
     have d1:decide (k<N)=true:=by simpa using hkn
     have hd10:dd+1≤10:=by omega
     have HK:=Lh (Aj hs (Aj htk (Aj hd9 (Aj hkn hk))))
     have hkb:k<1000:=by omega
     have hsz:s.size≤2000:=by
      have e:s.size=(([45]:List UInt8)++dch (R.take k)).length:=by rw[hs];rfl
      rw[e];simp[dch];omega
     clear hs htk hk hN2 hB
     go_wp2_with fail
     go_round
     case rel=>
      refine⟨k+1,_,by go_num,HK.out.2.2.2.1,rfl,?_⟩
      rw[HK.out.2.1,dch_snoc,HK.out.1,←List.append_assoc,UInt8.ofNat_add]
      exact ba_app _ [UInt8.ofNat 48+UInt8.ofNat dd]
     case measure=>simp[intOf];have:=HK.out.2.2.2.1;omega
    ·have hke:k=N:=by omega
     have d1:decide (k<N)=false:=by simp;omega
     have HK:=Lh (Aj hs hke)
     clear hs hke hk hkn hN2 hB
     go_wp2_with fail
     go_ret
     refine⟨?_,((Mod.refl [] w).alloc _).trans HR.out.2.2.2.1⟩
     rw[←HT.out.1,←HR.out.1,HK.out.1,HK.out.2,←HN.out,List.take_length]
     rfl
theorem dv_take_getD {l:List Nat} {k:Nat} (h:k<l.length):dv (l.take (k+1))=10*dv (l.take k)+l.getD k 0:=by
 rw[getD_cell h];exact dv_take_succ h
theorem spec_int (d:Value) (V lo hi n:Int) (w:World) (h:Dc w d V lo hi) (hn:V=n*sc 0) (hb:n.natAbs≤9223372036854775807) (h7:0≤hi-lo):Calls Tryz.prog 43 #[d] w fun e w'=>e=.returned (.tuple #[.int .i64 n,.bool true])∧Mod [] w w':=by
 obtain⟨neg,sl,l,ex,rfl,hir,hF⟩:=h
 obtain⟨a,c,rfl,hc1,hc2⟩:=hir.form
 have hlo:=hF.blo
 have hlen:=hF.len h7
 have hbh:=hF.bhi
 obtain⟨R,hR⟩:∃R,R=if l=[] then [] else l++List.replicate (ex-0).toNat 0:=⟨_,rfl⟩
 have hfacts:0≤ex∧ex≤1000∧dv R=n.natAbs∧neg=decide (n<0)∧(l.length:Int)+ex≤19∧AD R∧R.length≤1000000:=by
  by_cases hl:l=[]
  ·have hV0:=hF.eq0.2 hl
   have hn0:n=0:=by
    have:=sc_pos 0
    rw[hV0] at hn
    rcases Int.mul_eq_zero.1 hn.symm with h|h
    ·exact h
    ·omega
   obtain⟨z1,z2⟩:=hF.zero hl
   rw[hR,if_pos hl,hn0,z1,z2,hl]
   exact⟨by decide,by decide,rfl,rfl,by decide,AD.nil,by decide⟩
  ·obtain⟨x1,x2,x3,x4⟩:=hF.whole hn hl
   have hle:=hF.le hl
   have e:(ex-0).toNat=ex.toNat:=by omega
   have hv:dv R=n.natAbs:=by rw[hR,if_neg hl,e,x2,dv_dg]
   refine⟨x1,by omega,hv,x3,?_,by rw[hR,if_neg hl];exact hF.nd.ad.append (AD.zeros _),by rw[hR,if_neg hl];simp;omega⟩
   have h1:=hF.nd.pos hl
   rw[hR,if_neg hl,e,dv_pad] at hv
   have h2:10^(l.length-1)*10^ex.toNat≤n.natAbs:=by rw[←hv];exact Nat.mul_le_mul_right _ h1
   rw[←Nat.pow_add] at h2
   rcases Nat.lt_or_ge 18 (l.length-1+ex.toNat) with h3|h3
   ·have h4:(10:Nat)^19≤10^(l.length-1+ex.toNat):=Nat.pow_le_pow_right (by decide) h3
    have h5:(10:Nat)^19=10000000000000000000:=by decide
    omega
   ·have:=List.length_pos_iff.2 hl
    omega
 obtain⟨f1,f2,f3,f4,f5,f6,f7⟩:=hfacts
 have HBB:=Lh f7
 have WD:=Lh (fun(w':World) (m:Mod [] w w')=>wide_calls neg (.slice a l.length c) l ex 0 w' (hir.mod m) (by omega) (by omega) (by omega) (by omega) (by omega))
 rw[←hR] at WD
 have HT:=Lh (Aj f3 (Aj f4 (Aj f6 hb)))
 have t1:decide (ex<0)=false:=by simp;omega
 have t2:decide ((19:Int)<(l.length:Int)+ex)=false:=by simp;omega
 have t3:wrap64 ((l.length:Int)+ex)=(l.length:Int)+ex:=w64 rfl (by omega) (by omega)
 clear hir hF hn hb h7 hc1 hc2 hlo hlen hbh f1 f2 f3 f4 f5 f6 f7 hR
 unfold dcv at*
 rcases Nat.eq_zero_or_pos l.length with h0|h0
 ·have t0:decide (0<l.length)=false:=by rw[h0];rfl
  clear h0
  generalize l.length=n1 at*
  cases neg
  ·go_enter Tryz.func43,Tryz.ntmps43
   go_wp2_with fail
   refine(WD.out _ ((Mod.refl [] w).alloc _)).mono ?_
   rintro _ w2 ⟨v,rfl,i2,m2⟩
   have p0:w2.cell? ⟨w.heap.size,0,none⟩=some (.bool _):=Hd.cell (Hd.mod (Hd.new w 27 _) m2 (by simp)) (i:=0) rfl
   have k5:∀i,i<R.length→∃g2 o2 c2,v=.slice (some ⟨g2,o2,none⟩) R.length c2∧w2.cell? ⟨g2,o2+i,none⟩=some (.int .i64 ((R.getD i 0:Nat):Int)):=fun i hi=>by
    obtain⟨g2,o2,c2,rfl,k1,k2,k3,k4⟩:=i2.cells (by rintro rfl;simp at hi)
    exact⟨g2,o2,c2,rfl,by rw[getD_cell hi];exact k4 i hi⟩
   obtain⟨a2,c2,hv,k1,k2⟩:=i2.form
   subst hv
   have HR:=Lh (Aj k5 m2)
   have hRl:R.length≤1000000:=by
    have:=HBB.out;omega
   clear k5 i2 m2
   have HN:=Lh (fun(k:Nat) (h:k<R.length)=>dv_take_getD h)
   have HL:=Lh (fun(k:Nat)=>show dv (R.take k)≤dv R by
    have e:dv R=dv (R.take k)*10^(R.drop k).length+dv (R.drop k):=by rw[←dv_append,List.take_append_drop]
    have:=Nat.le_mul_of_pos_right (dv (R.take k)) (Nat.pow_pos (n:=(R.drop k).length) (show 0<10 by decide))
    omega)
   have HE:=Lh (show dv (R.take R.length)=n.natAbs by rw[List.take_length];exact HT.out.1)
   generalize R.length=N at*
   go_wp2_with fail
   go_loop [4,28] (fun t4 t28=>∃k:Nat,t28=.int .i64 k∧k≤N∧t4=.int .u64 (dv (R.take k):Nat)) (fun _ t28=>N-(intOf t28).toNat)
   case atStart=>exact⟨0,rfl,Nat.zero_le _,rfl⟩
   case round=>
    obtain⟨k,rfl,hk,rfl⟩:=hrel
    have hx1:=HL.out k
    have hRn:=HT.out.1
    have hnb:=HT.out.2.2.2
    rcases Nat.lt_or_ge k N with hkn|hkn
    ·obtain⟨g2,o2,c3,hv,e1⟩:=HR.out.1 k hkn
     obtain⟨hv1,-,-⟩:=Value.slice.inj hv
     subst hv1
     have hx2:=HL.out (k+1)
     have hx3:=HN.out k hkn
     rw[hx3] at hx2
     have HX:=Lh hx3
     generalize dv (R.take k)=x at*
     generalize R.getD k 0=dd at*
     have m1:IntKind.u64.wrap (10*(x:Int))=((10*x:Nat):Int):=by rw[IntKind.wrap_u64];omega
     have m2:IntKind.u64.wrap (dd:Int)=(dd:Int):=by rw[IntKind.wrap_u64];omega
     have m3:IntKind.u64.wrap (((10*x:Nat):Int)+(dd:Int))=((10*x+dd:Nat):Int):=by rw[IntKind.wrap_u64];omega
     have d1:decide (k<N)=true:=by simpa using hkn
     obtain⟨z,hz⟩:∃z,z=10*x:=⟨_,rfl⟩
     obtain⟨y,hy⟩:∃y,y=10*x+dd:=⟨_,rfl⟩
     rw[←hz] at m1 m3
     rw[hz,←hy,←hz] at m3
     rw[←hy] at HX
     have HK:=Lh (Aj hk hkn)
     clear hx1 hx2 hx3 hRn hnb hv hz hy hk
     go_wp2_with fail
     go_round
     case rel=>exact⟨k+1,by go_num,HK.out.2,by rw[HX.out]⟩
     case measure=>simp[intOf];have:=HK.out.2;omega
    ·have hke:k=N:=by omega
     subst hke
     rw[HE.out]
     have d1:decide (k<k)=false:=by simp
     have hng:=HT.out.2.1
     have q1:decide ((n.natAbs:Int)<9223372036854775808)=true:=decide_eq_true (by omega)
     have q2:wrap64 (n.natAbs:Int)=n:=w64 (by have h:=of_decide_eq_false hng.symm;omega) (by omega) (by omega)
     have HZ:=Lh hng
     clear hx1 hRn hnb hk hkn hng
     generalize hU:n.natAbs=U at*
     have HU:=Lh hU
     clear hU
     go_wp2_with fail
     go_ret2
     exact⟨rfl,((Mod.refl [] w).alloc _).trans HR.out.2⟩
  ·go_enter Tryz.func43,Tryz.ntmps43
   go_wp2_with fail
   refine(WD.out _ ((Mod.refl [] w).alloc _)).mono ?_
   rintro _ w2 ⟨v,rfl,i2,m2⟩
   have p0:w2.cell? ⟨w.heap.size,0,none⟩=some (.bool _):=Hd.cell (Hd.mod (Hd.new w 27 _) m2 (by simp)) (i:=0) rfl
   have k5:∀i,i<R.length→∃g2 o2 c2,v=.slice (some ⟨g2,o2,none⟩) R.length c2∧w2.cell? ⟨g2,o2+i,none⟩=some (.int .i64 ((R.getD i 0:Nat):Int)):=fun i hi=>by
    obtain⟨g2,o2,c2,rfl,k1,k2,k3,k4⟩:=i2.cells (by rintro rfl;simp at hi)
    exact⟨g2,o2,c2,rfl,by rw[getD_cell hi];exact k4 i hi⟩
   obtain⟨a2,c2,hv,k1,k2⟩:=i2.form
   subst hv
   have HR:=Lh (Aj k5 m2)
   have hRl:R.length≤1000000:=by
    have:=HBB.out;omega
   clear k5 i2 m2
   have HN:=Lh (fun(k:Nat) (h:k<R.length)=>dv_take_getD h)
   have HL:=Lh (fun(k:Nat)=>show dv (R.take k)≤dv R by
    have e:dv R=dv (R.take k)*10^(R.drop k).length+dv (R.drop k):=by rw[←dv_append,List.take_append_drop]
    have:=Nat.le_mul_of_pos_right (dv (R.take k)) (Nat.pow_pos (n:=(R.drop k).length) (show 0<10 by decide))
    omega)
   have HE:=Lh (show dv (R.take R.length)=n.natAbs by rw[List.take_length];exact HT.out.1)
   generalize R.length=N at*
   go_wp2_with fail
   go_loop [4,28] (fun t4 t28=>∃k:Nat,t28=.int .i64 k∧k≤N∧t4=.int .u64 (dv (R.take k):Nat)) (fun _ t28=>N-(intOf t28).toNat)
   case atStart=>exact⟨0,rfl,Nat.zero_le _,rfl⟩
   case round=>
    obtain⟨k,rfl,hk,rfl⟩:=hrel
    have hx1:=HL.out k
    have hRn:=HT.out.1
    have hnb:=HT.out.2.2.2
    rcases Nat.lt_or_ge k N with hkn|hkn
    ·obtain⟨g2,o2,c3,hv,e1⟩:=HR.out.1 k hkn
     obtain⟨hv1,-,-⟩:=Value.slice.inj hv
     subst hv1
     have hx2:=HL.out (k+1)
     have hx3:=HN.out k hkn
     rw[hx3] at hx2
     have HX:=Lh hx3
     generalize dv (R.take k)=x at*
     generalize R.getD k 0=dd at*
     have m1:IntKind.u64.wrap (10*(x:Int))=((10*x:Nat):Int):=by rw[IntKind.wrap_u64];omega
     have m2:IntKind.u64.wrap (dd:Int)=(dd:Int):=by rw[IntKind.wrap_u64];omega
     have m3:IntKind.u64.wrap (((10*x:Nat):Int)+(dd:Int))=((10*x+dd:Nat):Int):=by rw[IntKind.wrap_u64];omega
     have d1:decide (k<N)=true:=by simpa using hkn
     obtain⟨z,hz⟩:∃z,z=10*x:=⟨_,rfl⟩
     obtain⟨y,hy⟩:∃y,y=10*x+dd:=⟨_,rfl⟩
     rw[←hz] at m1 m3
     rw[hz,←hy,←hz] at m3
     rw[←hy] at HX
     have HK:=Lh (Aj hk hkn)
     clear hx1 hx2 hx3 hRn hnb hv hz hy hk
     go_wp2_with fail
     go_round
     case rel=>exact⟨k+1,by go_num,HK.out.2,by rw[HX.out]⟩
     case measure=>simp[intOf];have:=HK.out.2;omega
    ·have hke:k=N:=by omega
     subst hke
     rw[HE.out]
     have d1:decide (k<k)=false:=by simp
     have hng:=HT.out.2.1
     have q1:decide ((n.natAbs:Int)≤9223372036854775808)=true:=decide_eq_true (by omega)
     have q2:wrap64 (((18446744073709551616-n.natAbs:Nat):Int))=n:=by have h:=of_decide_eq_true hng.symm;unfold wrap64;omega
     have q3:IntKind.u64.wrap (-(n.natAbs:Int))=((18446744073709551616-n.natAbs:Nat):Int):=by have h:=of_decide_eq_true hng.symm;rw[IntKind.wrap_u64];omega
     generalize 18446744073709551616-n.natAbs=mm at*
     have HZ:=Lh hng
     clear hx1 hRn hnb hk hkn hng
     generalize hU:n.natAbs=U at*
     have HU:=Lh hU
     clear hU
     go_wp2_with fail
     go_ret2
     exact⟨rfl,((Mod.refl [] w).alloc _).trans HR.out.2⟩
 ·have t0:decide (0<l.length)=true:=by simpa using h0
  clear h0
  generalize l.length=n1 at*
  cases neg
  ·go_enter Tryz.func43,Tryz.ntmps43
   go_wp2_with fail
   refine(WD.out _ ((Mod.refl [] w).alloc _)).mono ?_
   rintro _ w2 ⟨v,rfl,i2,m2⟩
   have p0:w2.cell? ⟨w.heap.size,0,none⟩=some (.bool _):=Hd.cell (Hd.mod (Hd.new w 27 _) m2 (by simp)) (i:=0) rfl
   have k5:∀i,i<R.length→∃g2 o2 c2,v=.slice (some ⟨g2,o2,none⟩) R.length c2∧w2.cell? ⟨g2,o2+i,none⟩=some (.int .i64 ((R.getD i 0:Nat):Int)):=fun i hi=>by
    obtain⟨g2,o2,c2,rfl,k1,k2,k3,k4⟩:=i2.cells (by rintro rfl;simp at hi)
    exact⟨g2,o2,c2,rfl,by rw[getD_cell hi];exact k4 i hi⟩
   obtain⟨a2,c2,hv,k1,k2⟩:=i2.form
   subst hv
   have HR:=Lh (Aj k5 m2)
   have hRl:R.length≤1000000:=by
    have:=HBB.out;omega
   clear k5 i2 m2
   have HN:=Lh (fun(k:Nat) (h:k<R.length)=>dv_take_getD h)
   have HL:=Lh (fun(k:Nat)=>show dv (R.take k)≤dv R by
    have e:dv R=dv (R.take k)*10^(R.drop k).length+dv (R.drop k):=by rw[←dv_append,List.take_append_drop]
    have:=Nat.le_mul_of_pos_right (dv (R.take k)) (Nat.pow_pos (n:=(R.drop k).length) (show 0<10 by decide))
    omega)
   have HE:=Lh (show dv (R.take R.length)=n.natAbs by rw[List.take_length];exact HT.out.1)
   generalize R.length=N at*
   go_wp2_with fail
   go_loop [4,28] (fun t4 t28=>∃k:Nat,t28=.int .i64 k∧k≤N∧t4=.int .u64 (dv (R.take k):Nat)) (fun _ t28=>N-(intOf t28).toNat)
   case atStart=>exact⟨0,rfl,Nat.zero_le _,rfl⟩
   case round=>
    obtain⟨k,rfl,hk,rfl⟩:=hrel
    have hx1:=HL.out k
    have hRn:=HT.out.1
    have hnb:=HT.out.2.2.2
    rcases Nat.lt_or_ge k N with hkn|hkn
    ·obtain⟨g2,o2,c3,hv,e1⟩:=HR.out.1 k hkn
     obtain⟨hv1,-,-⟩:=Value.slice.inj hv
     subst hv1
     have hx2:=HL.out (k+1)
     have hx3:=HN.out k hkn
     rw[hx3] at hx2
     have HX:=Lh hx3
     generalize dv (R.take k)=x at*
     generalize R.getD k 0=dd at*
     have m1:IntKind.u64.wrap (10*(x:Int))=((10*x:Nat):Int):=by rw[IntKind.wrap_u64];omega
     have m2:IntKind.u64.wrap (dd:Int)=(dd:Int):=by rw[IntKind.wrap_u64];omega
     have m3:IntKind.u64.wrap (((10*x:Nat):Int)+(dd:Int))=((10*x+dd:Nat):Int):=by rw[IntKind.wrap_u64];omega
     have d1:decide (k<N)=true:=by simpa using hkn
     obtain⟨z,hz⟩:∃z,z=10*x:=⟨_,rfl⟩
     obtain⟨y,hy⟩:∃y,y=10*x+dd:=⟨_,rfl⟩
     rw[←hz] at m1 m3
     rw[hz,←hy,←hz] at m3
     rw[←hy] at HX
     have HK:=Lh (Aj hk hkn)
     clear hx1 hx2 hx3 hRn hnb hv hz hy hk
     go_wp2_with fail
     go_round
     case rel=>exact⟨k+1,by go_num,HK.out.2,by rw[HX.out]⟩
     case measure=>simp[intOf];have:=HK.out.2;omega
    ·have hke:k=N:=by omega
     subst hke
     rw[HE.out]
     have d1:decide (k<k)=false:=by simp
     have hng:=HT.out.2.1
     have q1:decide ((n.natAbs:Int)<9223372036854775808)=true:=decide_eq_true (by omega)
     have q2:wrap64 (n.natAbs:Int)=n:=w64 (by have h:=of_decide_eq_false hng.symm;omega) (by omega) (by omega)
     have HZ:=Lh hng
     clear hx1 hRn hnb hk hkn hng
     generalize hU:n.natAbs=U at*
     have HU:=Lh hU
     clear hU
     go_wp2_with fail
     go_ret2
     exact⟨rfl,((Mod.refl [] w).alloc _).trans HR.out.2⟩
  ·go_enter Tryz.func43,Tryz.ntmps43
   go_wp2_with fail
   refine(WD.out _ ((Mod.refl [] w).alloc _)).mono ?_
   rintro _ w2 ⟨v,rfl,i2,m2⟩
   have p0:w2.cell? ⟨w.heap.size,0,none⟩=some (.bool _):=Hd.cell (Hd.mod (Hd.new w 27 _) m2 (by simp)) (i:=0) rfl
   have k5:∀i,i<R.length→∃g2 o2 c2,v=.slice (some ⟨g2,o2,none⟩) R.length c2∧w2.cell? ⟨g2,o2+i,none⟩=some (.int .i64 ((R.getD i 0:Nat):Int)):=fun i hi=>by
    obtain⟨g2,o2,c2,rfl,k1,k2,k3,k4⟩:=i2.cells (by rintro rfl;simp at hi)
    exact⟨g2,o2,c2,rfl,by rw[getD_cell hi];exact k4 i hi⟩
   obtain⟨a2,c2,hv,k1,k2⟩:=i2.form
   subst hv
   have HR:=Lh (Aj k5 m2)
   have hRl:R.length≤1000000:=by
    have:=HBB.out;omega
   clear k5 i2 m2
   have HN:=Lh (fun(k:Nat) (h:k<R.length)=>dv_take_getD h)
   have HL:=Lh (fun(k:Nat)=>show dv (R.take k)≤dv R by
    have e:dv R=dv (R.take k)*10^(R.drop k).length+dv (R.drop k):=by rw[←dv_append,List.take_append_drop]
    have:=Nat.le_mul_of_pos_right (dv (R.take k)) (Nat.pow_pos (n:=(R.drop k).length) (show 0<10 by decide))
    omega)
   have HE:=Lh (show dv (R.take R.length)=n.natAbs by rw[List.take_length];exact HT.out.1)
   generalize R.length=N at*
   go_wp2_with fail
   go_loop [4,28] (fun t4 t28=>∃k:Nat,t28=.int .i64 k∧k≤N∧t4=.int .u64 (dv (R.take k):Nat)) (fun _ t28=>N-(intOf t28).toNat)
   case atStart=>exact⟨0,rfl,Nat.zero_le _,rfl⟩
   case round=>
    obtain⟨k,rfl,hk,rfl⟩:=hrel
    have hx1:=HL.out k
    have hRn:=HT.out.1
    have hnb:=HT.out.2.2.2
    rcases Nat.lt_or_ge k N with hkn|hkn
    ·obtain⟨g2,o2,c3,hv,e1⟩:=HR.out.1 k hkn
     obtain⟨hv1,-,-⟩:=Value.slice.inj hv
     subst hv1
     have hx2:=HL.out (k+1)
     have hx3:=HN.out k hkn
     rw[hx3] at hx2
     have HX:=Lh hx3
     generalize dv (R.take k)=x at*
     generalize R.getD k 0=dd at*
     have m1:IntKind.u64.wrap (10*(x:Int))=((10*x:Nat):Int):=by rw[IntKind.wrap_u64];omega
     have m2:IntKind.u64.wrap (dd:Int)=(dd:Int):=by rw[IntKind.wrap_u64];omega
     have m3:IntKind.u64.wrap (((10*x:Nat):Int)+(dd:Int))=((10*x+dd:Nat):Int):=by rw[IntKind.wrap_u64];omega
     have d1:decide (k<N)=true:=by simpa using hkn
     obtain⟨z,hz⟩:∃z,z=10*x:=⟨_,rfl⟩
     obtain⟨y,hy⟩:∃y,y=10*x+dd:=⟨_,rfl⟩
     rw[←hz] at m1 m3
     rw[hz,←hy,←hz] at m3
     rw[←hy] at HX
     have HK:=Lh (Aj hk hkn)
     clear hx1 hx2 hx3 hRn hnb hv hz hy hk
     go_wp2_with fail
     go_round
     case rel=>exact⟨k+1,by go_num,HK.out.2,by rw[HX.out]⟩
     case measure=>simp[intOf];have:=HK.out.2;omega
    ·have hke:k=N:=by omega
     subst hke
     rw[HE.out]
     have d1:decide (k<k)=false:=by simp
     have hng:=HT.out.2.1
     have q1:decide ((n.natAbs:Int)≤9223372036854775808)=true:=decide_eq_true (by omega)
     have q2:wrap64 (((18446744073709551616-n.natAbs:Nat):Int))=n:=by have h:=of_decide_eq_true hng.symm;unfold wrap64;omega
     have q3:IntKind.u64.wrap (-(n.natAbs:Int))=((18446744073709551616-n.natAbs:Nat):Int):=by have h:=of_decide_eq_true hng.symm;rw[IntKind.wrap_u64];omega
     generalize 18446744073709551616-n.natAbs=mm at*
     have HZ:=Lh hng
     clear hx1 hRn hnb hk hkn hng
     generalize hU:n.natAbs=U at*
     have HU:=Lh hU
     clear hU
     go_wp2_with fail
     go_ret2
     exact⟨rfl,((Mod.refl [] w).alloc _).trans HR.out.2⟩
end Go.Proofs.YtcpjclakdpjjfaaGreatDoor
namespace Go.Proofs.YtcpjclakdpjjfaaGreatDoor
open Go.RowKit Wd Dg
def MayV (V:Int):Prop:=V.natAbs≤9223372036854775807*sc 0∧∃m:Int,V=m*sc (-3)
theorem Dc.abs {w w':World} {neg:Bool} {sl:Value} {l:List Nat} {ex V lo hi:Int} (hir:Ir w sl l) (hF:DF neg l ex V lo hi) (m:Mod [] w w'):Dc w' (dcv false sl ex) (V.natAbs:Int) lo hi:=by
 refine⟨false,sl,l,ex,rfl,hir.mod m,⟨hF.nd,?_,fun h=>⟨rfl,(hF.zero h).2⟩,hF.ge,hF.le,hF.blo,hF.bhi⟩⟩
 rw[hF.abs,Int.natCast_mul]
 simp[sg]
theorem spec_may (d:Value) (V lo hi:Int) (w:World) (h:Dc w d V lo hi):Calls Tryz.prog 29 #[d] w fun e w'=>(∃b,e=.returned (.bool b)∧(b=true↔MayV V))∧Mod [] w w':=by
 obtain⟨neg,sl,l,ex,rfl,hir,hF⟩:=h
 obtain⟨a,c,rfl,-,-⟩:=hir.form
 have hmul:=hF.mult (c:=-3) (by decide)
 have OF:=Lh (fun(w':World)=>decimalOf_calls 9223372036854775807 0 w' (by unfold i64;decide) (by decide) (by decide))
 have CM:=Lh (fun(w':World) (d2:Value) (m:Mod [] w w') (h2:Dc w' d2 (9223372036854775807*sc 0) 0 20)=>spec_cmp _ d2 _ _ lo hi 0 20 w' (Dc.abs hir hF m) h2)
 have HV:(cmpV (V.natAbs:Int) (9223372036854775807*sc 0)≤0)↔V.natAbs≤9223372036854775807*sc 0:=by
  have e:(9223372036854775807*(sc 0:Int))=((9223372036854775807*sc 0:Nat):Int):=by rw[Int.natCast_mul];rfl
  rw[e]
  rcases Nat.lt_trichotomy V.natAbs (9223372036854775807*sc 0) with h|h|h
  ·rw[cmpV_lt (by omega)];constructor<;>intro<;>omega
  ·rw[cmpV_eq (by omega)];constructor<;>intro<;>omega
  ·rw[cmpV_gt (by omega)];constructor<;>intro<;>omega
 generalize hcc:cmpV (V.natAbs:Int) (9223372036854775807*sc 0)=cc at*
 have HH:=Lh (Aj HV hmul)
 have mW:Mod [] w ((w.alloc (.cells #[.bool neg,.slice a l.length c,.int .i64 ex] 27)).alloc (.cells #[.bool false,.slice a l.length c,.int .i64 ex] 27)):=((Mod.refl [] w).alloc _).alloc _
 have q1:Hd ((w.alloc (.cells #[.bool neg,.slice a l.length c,.int .i64 ex] 27)).alloc (.cells #[.bool false,.slice a l.length c,.int .i64 ex] 27)) w.heap.size 27 #[.bool neg,.slice a l.length c,.int .i64 ex]:=Hd.mod (Hd.new w 27 _) ((Mod.refl [] _).alloc _) (by simp)
 have q2:Hd ((w.alloc (.cells #[.bool neg,.slice a l.length c,.int .i64 ex] 27)).alloc (.cells #[.bool false,.slice a l.length c,.int .i64 ex] 27)) (w.heap.size+1) 27 #[.bool false,.slice a l.length c,.int .i64 ex]:=by
  have:=Hd.new (w.alloc (.cells #[.bool neg,.slice a l.length c,.int .i64 ex] 27)) 27 #[.bool false,.slice a l.length c,.int .i64 ex]
  simpa using this
 clear hir hF hmul HV hcc
 have hlz:(((l.length:Int)==0)=true∧l=[])∨(((l.length:Int)==0)=false∧l≠[]):=by
  by_cases h:l=[]
  ·exact .inl ⟨by rw[h];rfl,h⟩
  ·exact .inr ⟨by simp;exact h,h⟩
 unfold dcv at*
 generalize l.length=n1 at*
 have HQ:=Lh (Aj mW (Aj q1 q2))
 clear mW q1 q2
 have hcle:decide (cc≤0)=decide (V.natAbs≤9223372036854775807*sc 0):=decide_eq_decide.2 HH.out.1
 have HC:=Lh hcle
 clear hcle
 rcases hlz with ⟨t0,hl⟩|⟨t0,hl⟩
 ·have HL:=Lh hl
  clear hl
  go_enter Tryz.func29,Tryz.ntmps29
  go_upto_region 3 with fail
  obtain⟨mW,q1,q2⟩:=HQ.out
  generalize (w.alloc (.cells #[.bool neg,.slice a n1 c,.int .i64 ex] 27)).alloc (.cells #[.bool false,.slice a n1 c,.int .i64 ex] 27)=WW at*
  have HP:=Lh (fun(w':World) (m:Mod [] WW w')=>show (w'.cell? ⟨w.heap.size,1,none⟩=some (.slice a n1 c)∧w'.cell? ⟨w.heap.size,2,none⟩=some (.int .i64 ex))∧(w'.cell? ⟨w.heap.size+1,0,none⟩=some (.bool false)∧w'.cell? ⟨w.heap.size+1,1,none⟩=some (.slice a n1 c)∧w'.cell? ⟨w.heap.size+1,2,none⟩=some (.int .i64 ex)) from
   ⟨⟨Hd.cell (Hd.mod q1 m (by simp)) rfl,Hd.cell (Hd.mod q1 m (by simp)) rfl⟩,⟨Hd.cell (Hd.mod q2 m (by simp)) rfl,Hd.cell (Hd.mod q2 m (by simp)) rfl,Hd.cell (Hd.mod q2 m (by simp)) rfl⟩⟩)
  obtain⟨⟨a1,a2⟩,⟨b0,b1,b2⟩⟩:=HP.out WW (Mod.refl [] WW)
  have MA:=Lh mW
  clear q1 q2 mW HQ
  first|(go_region_law (first|(go_simp;go_at_call 24;refine(OF.out _).mono ?_;rintro e w2 ⟨d2,rfl,hd2,m2⟩;have M2:=Lh (((Mod.refl [] WW).drewN _).trans m2);obtain⟨⟨c1,c2⟩,⟨e0,e1,e2⟩⟩:=HP.out w2 M2.out;have CC:=Lh (CM.out w2 d2 (MA.out.trans M2.out) hd2);clear m2 hd2 OF)|(go_simp;go_at_call 22;refine CC.out.mono ?_;rintro e w3 ⟨rfl,m3⟩;have M3:=Lh (M2.out.trans m3);obtain⟨⟨f1,f2⟩,⟨g0,g1,g2⟩⟩:=HP.out w3 M3.out;clear m3)))|fail "the region"
  all_goals
   go_wp2_with fail
   go_ret
   refine⟨⟨decide (cc≤0),rfl,?_⟩,MA.out.trans M3.out⟩
   rw[decide_eq_true_eq]
   exact⟨fun h=>⟨HH.out.1.1 h,HH.out.2.2 (.inl HL.out)⟩,fun h=>HH.out.1.2 h.1⟩
 ·have HL:=Lh hl
  clear hl
  rcases Int.lt_or_le ex (-3) with hx|hx
  ·have t1:decide ((-3:Int)≤ex)=false:=by simp;omega
   have HX:=Lh hx
   clear hx
   go_enter Tryz.func29,Tryz.ntmps29
   go_wp2_with fail
   go_quiet (fail)
   go_wp2_with fail
   go_ret
   refine⟨⟨false,rfl,?_⟩,HQ.out.1.drewN _⟩
   constructor
   ·intro h;cases h
   ·intro h
    rcases HH.out.2.1 h.2 with h1|h1
    ·exact(HL.out h1).elim
    ·have:=HX.out;omega
  ·have t1:decide ((-3:Int)≤ex)=true:=by simpa using hx
   have HX:=Lh hx
   clear hx
   go_enter Tryz.func29,Tryz.ntmps29
   go_upto_region 3 with fail
   obtain⟨mW,q1,q2⟩:=HQ.out
   generalize (w.alloc (.cells #[.bool neg,.slice a n1 c,.int .i64 ex] 27)).alloc (.cells #[.bool false,.slice a n1 c,.int .i64 ex] 27)=WW at*
   have HP:=Lh (fun(w':World) (m:Mod [] WW w')=>show (w'.cell? ⟨w.heap.size,1,none⟩=some (.slice a n1 c)∧w'.cell? ⟨w.heap.size,2,none⟩=some (.int .i64 ex))∧(w'.cell? ⟨w.heap.size+1,0,none⟩=some (.bool false)∧w'.cell? ⟨w.heap.size+1,1,none⟩=some (.slice a n1 c)∧w'.cell? ⟨w.heap.size+1,2,none⟩=some (.int .i64 ex)) from
    ⟨⟨Hd.cell (Hd.mod q1 m (by simp)) rfl,Hd.cell (Hd.mod q1 m (by simp)) rfl⟩,⟨Hd.cell (Hd.mod q2 m (by simp)) rfl,Hd.cell (Hd.mod q2 m (by simp)) rfl,Hd.cell (Hd.mod q2 m (by simp)) rfl⟩⟩)
   obtain⟨⟨a1,a2⟩,⟨b0,b1,b2⟩⟩:=HP.out WW (Mod.refl [] WW)
   have MA:=Lh mW
   clear q1 q2 mW HQ
   first|(go_region_held3 (fun w'=>(w'.cell? ⟨w.heap.size,1,none⟩=some (.slice a n1 c)∧w'.cell? ⟨w.heap.size,2,none⟩=some (.int .i64 ex))∧(w'.cell? ⟨w.heap.size+1,0,none⟩=some (.bool false)∧w'.cell? ⟨w.heap.size+1,1,none⟩=some (.slice a n1 c)∧w'.cell? ⟨w.heap.size+1,2,none⟩=some (.int .i64 ex))) (go_keep) (first|(go_at_call 24;refine(OF.out _).mono ?_;rintro e w2 ⟨d2,rfl,hd2,m2⟩;have M2:=Lh (((Mod.refl [] WW).drewN _).trans m2);obtain⟨⟨c1,c2⟩,⟨e0,e1,e2⟩⟩:=HP.out w2 M2.out;have CC:=Lh (CM.out w2 d2 (MA.out.trans M2.out) hd2);clear m2 hd2 OF)|(go_at_call 22;refine CC.out.mono ?_;rintro e w3 ⟨rfl,m3⟩;have M3:=Lh (M2.out.trans m3);obtain⟨⟨f1,f2⟩,⟨g0,g1,g2⟩⟩:=HP.out w3 M3.out;clear m3)))|fail "the region"
   all_goals
    go_wp2_with fail
    go_ret
    refine⟨⟨decide (cc≤0),rfl,?_⟩,MA.out.trans M3.out⟩
    rw[decide_eq_true_eq]
    exact⟨fun h=>⟨HH.out.1.1 h,HH.out.2.2 (.inr HX.out)⟩,fun h=>HH.out.1.2 h.1⟩
end Go.Proofs.YtcpjclakdpjjfaaGreatDoor
namespace Go.Proofs.YtcpjclakdpjjfaaGreatDoor
open Go.RowKit Wd Dg
def QcRet (fn:Nat) (V:Int) (w:World) (e:Ending) (w':World):Prop:=∃(t:List UInt8) (b:Bool),e=.returned (.tuple #[.string ⟨t.toArray⟩,.bool b])∧(b=true↔CanOk fn V)∧(b=true→CanTxt fn V t)∧Mod [] w w'
theorem CanOk.may {fn:Nat} {V:Int} (h:CanOk fn V):MayV V:=⟨h.1,h.2.1⟩
theorem MayV.ok {fn:Nat} {V:Int} (h:MayV V) (hf:fn≠1):CanOk fn V:=⟨h.1,h.2,fun h1=>(hf h1).elim⟩
theorem canon_edge (fn:Nat) (neg:Bool) (sl:Value) (l:List Nat) (ex V lo hi:Int) (w:World) (hir:Ir w sl l) (hF:DF neg l ex V lo hi) (hc:¬MayV V∨l=[]):
 Calls Tryz.prog 18 #[dcv neg sl ex,.int .i64 fn] w (QcRet fn V w):=by
 have MY:=Lh (fun(w':World) (m:Mod [] w w')=>spec_may (dcv neg sl ex) V lo hi w' ⟨neg,sl,l,ex,rfl,hir.mod m,hF⟩)
 obtain⟨a,c,rfl,-,-⟩:=hir.form
 have h0:=hF.eq0
 have HH:=Lh (Aj hc h0)
 have mA:Mod [] w (w.alloc (.cells #[.bool neg,.slice a l.length c,.int .i64 ex] 27)):=(Mod.refl [] w).alloc _
 have hd:=Hd.new w 27 #[.bool neg,.slice a l.length c,.int .i64 ex]
 clear hir hF h0 hc
 unfold dcv at*
 go_enter Tryz.func18,Tryz.ntmps18
 go_wp2_with fail
 refine(MY.out _ mA).mono ?_
 rintro _ w1 ⟨⟨b,rfl,hb⟩,m1⟩
 have hd1:=Hd.mod hd m1 (by simp)
 have c1:=hd1.cell (i:=1) rfl
 cases b
 ·have hn:¬MayV V:=fun h=>by have:=hb.2 h;cases this
  have HB:=Lh (Aj hn (mA.trans m1))
  clear hb m1 hd hd1 mA hn
  go_wp2_with fail
  go_ret2
  exact⟨[],false,rfl,⟨fun h=>(by cases h),fun h=>(HB.out.1 (CanOk.may h)).elim⟩,fun h=>(by cases h),HB.out.2⟩
 ·have hm:=hb.1 rfl
  have HB:=Lh (Aj hm (mA.trans m1))
  have hl:l=[]:=HH.out.1.resolve_left (fun h=>h hm)
  have hlen:l.length=0:=by rw[hl];rfl
  rw[hlen] at c1
  have HL:=Lh hl
  clear hb m1 hd hd1 mA hl hlen hm
  go_wp2_with fail
  go_ret2
  have hV:=HH.out.2.2 HL.out
  exact⟨[48],true,rfl,⟨fun _=>⟨HB.out.1.1,HB.out.1.2,fun _=>.inl hV⟩,fun _=>rfl⟩,fun _=>.inl ⟨hV,rfl⟩,HB.out.2⟩
def sfS (e:Int):ByteArray:=⟨(sfxD e).toArray⟩
theorem cell_sfx (X:World) (q:Nat) (hq:q<8):(X.alloc (.cells #[.string ⟨#[109]⟩,.string ⟨#[]⟩,.string ⟨#[107]⟩,.string ⟨#[77]⟩,.string ⟨#[71]⟩,.string ⟨#[84]⟩,.string ⟨#[80]⟩,.string ⟨#[69]⟩] 9)).cell? ⟨X.heap.size,q,none⟩=some (.string (sfS ((q:Int)*3-3))):=by
 have hd:=Hd.new X 9 #[.string ⟨#[109]⟩,.string ⟨#[]⟩,.string ⟨#[107]⟩,.string ⟨#[77]⟩,.string ⟨#[71]⟩,.string ⟨#[84]⟩,.string ⟨#[80]⟩,.string ⟨#[69]⟩]
 have:q=0∨q=1∨q=2∨q=3∨q=4∨q=5∨q=6∨q=7:=by omega
 rcases this with rfl|rfl|rfl|rfl|rfl|rfl|rfl|rfl<;>exact hd.cell rfl
theorem canon_ten (fn:Nat) (hfn:fn=0∨fn=2) (neg:Bool) (sl:Value) (l:List Nat) (ex V lo hi:Int) (w:World) (hir:Ir w sl l) (hF:DF neg l ex V lo hi) (hm:MayV V) (hl:l≠[]) (h7:hi-lo≤900):
 Calls Tryz.prog 18 #[dcv neg sl ex,.int .i64 fn] w (QcRet fn V w):=by
 have MY:=Lh (fun(w':World) (m:Mod [] w w')=>spec_may (dcv neg sl ex) V lo hi w' ⟨neg,sl,l,ex,rfl,hir.mod m,hF⟩)
 obtain⟨a,c,rfl,-,-⟩:=hir.form
 have hge:=hF.ge hl
 have hle:=hF.le hl
 have hxm:-3≤ex:=((hF.mult (c:=-3) (by decide)).1 hm.2).resolve_left hl
 have hV0:V≠0:=fun h=>hl (hF.eq0.1 h)
 obtain⟨E,hE⟩:∃E,E=(ex+300)/3*3-300:=⟨_,rfl⟩
 have hE3:E%3=0:=by omega
 have hEx:E≤ex∧ex<E+3:=by omega
 have hcn:=hF.cn hl hE3 hEx.1 hEx.2 (by omega)
 have hEf:=hcn.fine hV0 hm.1 hm.2
 obtain⟨M,hM⟩:∃M,M=sg neg*(dv l:Int)*(10^(ex-E).toNat:Nat):=⟨_,rfl⟩
 rw[←hM] at hcn hEf
 have hb:=hF.bhi
 have TX:=Lh (fun(w':World) (m:Mod [] w w')=>spec_text (dcv neg (.slice a l.length c) (ex-E)) _ (ex-E) (ex-E+l.length) M w' ⟨neg,_,l,ex-E,rfl,hir.mod m,hF.at hl (by omega) (Int.le_refl _) (by omega)⟩ (by rw[DF.int (by omega),hM]) (by omega) (by omega) (by omega))
 have HH:=Lh (Aj hm (Aj hcn (Aj hV0 (Aj hEf (Aj hE3 (Aj hEx hE))))))
 have mA:Mod [] w (w.alloc (.cells #[.bool neg,.slice a l.length c,.int .i64 ex] 27)):=(Mod.refl [] w).alloc _
 have hd:=Hd.new w 27 #[.bool neg,.slice a l.length c,.int .i64 ex]
 have t1:((l.length:Int)==0)=false:=by simp;exact hl
 have X1:=Lh<| show wrap64 (ex+300)=ex+300 from w64 rfl (by omega) (by omega)
 obtain⟨e3,he3⟩:∃e3,e3=(ex+300)/3:=⟨_,rfl⟩
 have X2:=Lh<| show wrap64 ((ex+300).tdiv 3)=e3 from w64 (by rw[Int.tdiv_eq_ediv_of_nonneg (by omega),he3]) (by omega) (by omega)
 have X3:=Lh<| show wrap64 (e3*3)=e3*3 from w64 rfl (by omega) (by omega)
 have X4:=Lh<| show wrap64 (e3*3-300)=E from w64 (by omega) (by omega) (by omega)
 have X5:=Lh<| show wrap64 (ex-E)=ex-E from w64 rfl (by omega) (by omega)
 clear hir hF hm hl h7 hge hle hxm hV0 hE hE3 hEx hcn hEf hM hb he3
 unfold dcv at*
 generalize l.length=n1 at*
 rcases hfn with rfl|rfl
 ·go_enter Tryz.func18,Tryz.ntmps18
  go_wp2_with fail
  refine(MY.out _ mA).mono ?_
  rintro _ w1 ⟨⟨b,rfl,hb⟩,m1⟩
  obtain rfl:b=true:=hb.2 HH.out.1
  have hd1:=Hd.mod hd m1 (by simp)
  have c0:=hd1.cell (i:=0) rfl
  have c1:=hd1.cell (i:=1) rfl
  have c2:=hd1.cell (i:=2) rfl
  have f2:=hd1.free 2
  have HB:=Lh (Aj (mA.trans m1) hd1)
  clear hb m1 hd hd1 mA
  go_wp2_with fail
  go_quiet (fail)
  have hd2:=Hd.mod HB.out.2 (((Mod.refl [] w1).alloc (.cells #[.bool false,.slice a n1 c,.int .i64 ex] 27)).drewN nq) (by simp)
  have mw2:=HB.out.1.trans (((Mod.refl [] w1).alloc (.cells #[.bool false,.slice a n1 c,.int .i64 ex] 27)).drewN nq)
  generalize ((w1.alloc (.cells #[.bool false,.slice a n1 c,.int .i64 ex] 27)).drewN nq)=W2 at*
  clear c0 c1 c2 f2
  have c0:=hd2.cell (i:=0) rfl
  have c1:=hd2.cell (i:=1) rfl
  have c2:=hd2.cell (i:=2) rfl
  have f2:=hd2.free 2
  have hd3:=hd2.set 2 (.int .i64 (ex-E))
  have d0:=hd3.cell (i:=0) rfl
  have d1:=hd3.cell (i:=1) rfl
  have d2:=hd3.cell (i:=2) rfl
  have m3:Mod [] w (W2.setCell ⟨w.heap.size,2,none⟩ (.int .i64 (ex-E))):=mw2.setCell _ (.inr (Nat.le_refl _))
  have TX2:=Lh (TX.out _ m3)
  have M3:=Lh m3
  have x1:=X1.out
  have x2:=X2.out
  have x3:=X3.out
  have x4:=X4.out
  have x5:=X5.out
  clear hd2 mw2 hd3 m3 HB
  go_wp2_with fail
  refine TX2.out.mono ?_
  rintro _ w4 ⟨rfl,m4⟩
  have M4:=Lh (M3.out.trans m4)
  clear m4 TX2 x1 x2 x3 x5 d0 d1 d2 c0 c1 c2 f2
  have g1:decide (18<E)=false:=by have:=HH.out.2.2.2.1;simp;omega
  have g2:decide (E< -3)=false:=by have:=HH.out.2.2.2.1;simp;omega
  obtain⟨tb,htb⟩:∃tb,tb=(⟨(Lib.itoa M).toArray⟩:ByteArray):=⟨_,rfl⟩
  have htl:tb.size≤100:=by
   have e:tb.size=(Lib.itoa M).length:=by rw[htb];rfl
   rw[e,itoa_dg,List.length_append]
   have:=dg_length_le (n:=M.natAbs) (k:=22) (by decide) HH.out.2.2.2.1.2.2
   simp only[dch,List.length_map]
   split<;>simp<;>omega
  rw[←htb]
  have HT:=Lh htb
  clear htb
  by_cases hE0:E=0
  ·subst hE0
   go_wp2_with fail
   go_ret2
   refine⟨Lib.itoa M,true,by rw[HT.out];rfl,⟨fun _=>HH.out.1.ok (by decide),fun _=>rfl⟩,fun _=>?_,M4.out⟩
   have:=can_dec (fn:=0) (by decide) HH.out.2.1 HH.out.2.2.1
   simpa [sfxE,sfxD] using this
  ·have g3:(E==0)=false:=by simpa using hE0
   have HE0:=Lh hE0
   clear hE0
   by_cases hE1:E<0
   ·have hE3':E=-3:=by have:=HH.out.2.2.2.1;have:=HH.out.2.2.2.2.1;omega
    subst hE3'
    have OF:=Lh (decimalOf_calls 3 0 w4 (by unfold i64;decide) (by decide) (by decide))
    clear hE1 g3
    go_wp2_with fail
    refine OF.out.mono ?_
    rintro _ w5 ⟨d5,rfl,hd5,m5⟩
    have TT:=Lh (spec_text d5 _ _ _ 3 w5 hd5 rfl (by decide) (by decide) (by decide))
    have M5:=Lh (M4.out.trans m5)
    obtain⟨ng5,sl5,l5,ex5,rfl,i5,-⟩:=hd5
    clear m5 OF i5
    go_wp2_with fail
    refine TT.out.mono ?_
    rintro _ w6 ⟨rfl,m6⟩
    have M6:=Lh (M5.out.trans m6)
    rw[show Lib.itoa 3=[51] by decide+kernel]
    clear m6 TT
    go_wp2_with fail
    go_ret2
    refine⟨Lib.itoa M++[101,45,51],true,?_,⟨fun _=>HH.out.1.ok (by decide),fun _=>rfl⟩,fun _=>?_,M6.out⟩
    ·rw[←ba_app,←HT.out]
     first|rfl|(show _=Ending.returned (.tuple #[.string (tb++(⟨#[101,45]⟩++⟨#[51]⟩)),.bool true]);simp[←ByteArray.append_assoc])
    ·have:=can_dec (fn:=0) (by decide) HH.out.2.1 HH.out.2.2.1
     rwa [if_pos rfl,show sfxE (-3)=[101,45,51] by decide+kernel] at this
   ·have g4:decide (E<0)=false:=by simp;omega
    have OF:=Lh (decimalOf_calls E 0 w4 (by have:=HH.out.2.2.2.1;unfold i64;omega) (by decide) (by decide))
    have HE1:=Lh hE1
    clear hE1
    go_wp2_with fail
    refine OF.out.mono ?_
    rintro _ w5 ⟨d5,rfl,hd5,m5⟩
    have TT:=Lh (spec_text d5 _ _ _ E w5 hd5 rfl (by decide) (by decide) (by decide))
    have M5:=Lh (M4.out.trans m5)
    obtain⟨ng5,sl5,l5,ex5,rfl,i5,-⟩:=hd5
    clear m5 OF i5
    go_wp2_with fail
    refine TT.out.mono ?_
    rintro _ w6 ⟨rfl,m6⟩
    have M6:=Lh (M5.out.trans m6)
    obtain⟨eb,heb⟩:∃eb,eb=(⟨(Lib.itoa E).toArray⟩:ByteArray):=⟨_,rfl⟩
    have hel:eb.size≤100:=by
     have e:eb.size=(Lib.itoa E).length:=by rw[heb];rfl
     rw[e,itoa_dg,List.length_append]
     have h8:(10:Nat)^22=10000000000000000000000:=by decide
     have hE22:E.natAbs<10^22:=by have:=HH.out.2.2.2.1;omega
     have:=dg_length_le (n:=E.natAbs) (k:=22) (by decide) hE22
     simp only[dch,List.length_map]
     split<;>simp<;>omega
    rw[←heb]
    have HEB:=Lh heb
    clear m6 TT heb
    go_wp2_with fail
    go_ret2
    refine⟨Lib.itoa M++(101::Lib.itoa E),true,?_,⟨fun _=>HH.out.1.ok (by decide),fun _=>rfl⟩,fun _=>?_,M6.out⟩
    ·have e1:=ba_app (Lib.itoa M) [101]
     have e2:=ba_app (Lib.itoa M++[101]) (Lib.itoa E)
     rw[←HT.out] at e1
     rw[←e1,←HEB.out,List.append_assoc] at e2
     rw[show Lib.itoa M++101::Lib.itoa E=Lib.itoa M++([101]++Lib.itoa E) by rfl,←e2]
     rfl
    ·have:=can_dec (fn:=0) (by decide) HH.out.2.1 HH.out.2.2.1
     rwa [if_pos rfl,sfxE,if_neg HE0.out] at this
 ·go_enter Tryz.func18,Tryz.ntmps18
  go_wp2_with fail
  refine(MY.out _ mA).mono ?_
  rintro _ w1 ⟨⟨b,rfl,hb⟩,m1⟩
  obtain rfl:b=true:=hb.2 HH.out.1
  have hd1:=Hd.mod hd m1 (by simp)
  have c0:=hd1.cell (i:=0) rfl
  have c1:=hd1.cell (i:=1) rfl
  have c2:=hd1.cell (i:=2) rfl
  have f2:=hd1.free 2
  have HB:=Lh (Aj (mA.trans m1) hd1)
  clear hb m1 hd hd1 mA
  go_wp2_with fail
  go_quiet (fail)
  have hd2:=Hd.mod HB.out.2 (((Mod.refl [] w1).alloc (.cells #[.bool false,.slice a n1 c,.int .i64 ex] 27)).drewN nq) (by simp)
  have mw2:=HB.out.1.trans (((Mod.refl [] w1).alloc (.cells #[.bool false,.slice a n1 c,.int .i64 ex] 27)).drewN nq)
  generalize ((w1.alloc (.cells #[.bool false,.slice a n1 c,.int .i64 ex] 27)).drewN nq)=W2 at*
  clear c0 c1 c2 f2
  have c0:=hd2.cell (i:=0) rfl
  have c1:=hd2.cell (i:=1) rfl
  have c2:=hd2.cell (i:=2) rfl
  have f2:=hd2.free 2
  have hd3:=hd2.set 2 (.int .i64 (ex-E))
  have d0:=hd3.cell (i:=0) rfl
  have d1:=hd3.cell (i:=1) rfl
  have d2:=hd3.cell (i:=2) rfl
  have m3:Mod [] w (W2.setCell ⟨w.heap.size,2,none⟩ (.int .i64 (ex-E))):=mw2.setCell _ (.inr (Nat.le_refl _))
  have TX2:=Lh (TX.out _ m3)
  have M3:=Lh m3
  have x1:=X1.out
  have x2:=X2.out
  have x3:=X3.out
  have x4:=X4.out
  have x5:=X5.out
  clear hd2 mw2 hd3 m3 HB
  go_wp2_with fail
  refine TX2.out.mono ?_
  rintro _ w4 ⟨rfl,m4⟩
  have M4:=Lh (M3.out.trans m4)
  clear m4 TX2 x1 x2 x3 x5 d0 d1 d2 c0 c1 c2 f2
  have g1:decide (18<E)=false:=by have:=HH.out.2.2.2.1;simp;omega
  have g2:decide (E< -3)=false:=by have:=HH.out.2.2.2.1;simp;omega
  obtain⟨tb,htb⟩:∃tb,tb=(⟨(Lib.itoa M).toArray⟩:ByteArray):=⟨_,rfl⟩
  have htl:tb.size≤100:=by
   have e:tb.size=(Lib.itoa M).length:=by rw[htb];rfl
   rw[e,itoa_dg,List.length_append]
   have:=dg_length_le (n:=M.natAbs) (k:=22) (by decide) HH.out.2.2.2.1.2.2
   simp only[dch,List.length_map]
   split<;>simp<;>omega
  rw[←htb]
  have HT:=Lh htb
  clear htb
  by_cases hE0:E=0
  ·subst hE0
   go_wp2_with fail
   go_ret2
   refine⟨Lib.itoa M,true,by rw[HT.out];rfl,⟨fun _=>HH.out.1.ok (by decide),fun _=>rfl⟩,fun _=>?_,M4.out⟩
   have:=can_dec (fn:=2) (by decide) HH.out.2.1 HH.out.2.2.1
   simpa [sfxE,sfxD] using this
  ·have g3:(E==0)=false:=by simpa using hE0
   have HE0:=Lh hE0
   clear hE0
   obtain⟨q,hq⟩:∃q:Nat,(q:Int)=E/3+1:=⟨(E/3+1).toNat,by have:=HH.out.2.2.2.1;omega⟩
   have hq8:q<8:=by have:=HH.out.2.2.2.1;omega
   have CE:=fun X=>cell_sfx X q hq8
   have hEq:(q:Int)*3-3=E:=by have:=HH.out.2.2.2.2.1;omega
   rw[hEq] at CE
   have y1:wrap64 (E.tdiv 3)=(q:Int)-1:=w64 (by
    have h3:=HH.out.2.2.2.2.1
    have hE:E=((q:Int)-1)*3:=by omega
    rw[hE,Int.mul_tdiv_cancel _ (by decide)]) (by omega) (by omega)
   obtain⟨sb,hsb⟩:∃sb,sb=sfS E:=⟨_,rfl⟩
   have hsl:sb.size≤1:=by
    rw[hsb]
    show (sfxD E).length≤1
    unfold sfxD
    repeat' split
    all_goals simp
   rw[←hsb] at CE
   have HS:=Lh hsb
   clear hsb hq hEq
   go_wp2_with fail
   go_ret2
   refine⟨Lib.itoa M++sfxD E,true,?_,⟨fun _=>HH.out.1.ok (by decide),fun _=>rfl⟩,fun _=>?_,M4.out.alloc _⟩
   ·rw[←ba_app,←HT.out]
    have:(⟨(sfxD E).toArray⟩:ByteArray)=sb:=HS.out.symm
    rw[this];rfl
   ·have:=can_dec (fn:=2) (by decide) HH.out.2.1 HH.out.2.2.1
    rwa [if_neg (by decide)] at this
end Go.Proofs.YtcpjclakdpjjfaaGreatDoor
