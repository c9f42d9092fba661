/- Numbers in normal form: sign, digits, exponent; plain. -/
import Derived.Test.YtcpjclakdpjjfaaGreatDoorC09
import Derived.Test.YtcpjclakdpjjfaaGreatDoorC01
import Derived.Lib.AppendZeros
import Derived.LoopTactic
import Derived.Handy
import Derived.Deep.RegionHeld3
set_option maxHeartbeats 3200000
set_option maxRecDepth 10000
namespace Dg
open Go.Lib
theorem parse_sg {g P:List UInt8} (hg:g=[]∨g=[43]∨g=[45]) (h:BD P) (h0:P≠[]) (hb:bv P<2^63):parseIntB 64 (g++P)=.ok (if g=[45] then -(bv P:Int) else bv P):=by
 have e63:(2:Nat)^63=9223372036854775808:=by decide
 have h1:parseUintB 64 P=.ok (bv P):=by
  rw[parseUintB,if_neg h0]
  have:=parse_go (2^64-1) (by decide) P 0 h (by omega)
  simpa using this
 rcases hg with rfl|rfl|rfl
 ·rw[List.nil_append,parse_digits h h0 hb,if_neg (by decide)]
 ·have n1:((43:UInt8).toNat=43∨(43:UInt8).toNat=45):=.inl rfl
  have n2:¬(43:UInt8).toNat=45:=by decide
  rw[List.singleton_append]
  simp only[parseIntB,if_pos n1,h1]
  rw[if_neg (fun h=>by have:=h.2;rw[show 64-1=63 from rfl] at this;omega),if_neg (fun h=>n2 h.1),if_neg n2,if_neg (by decide)]
 ·have n1:((45:UInt8).toNat=43∨(45:UInt8).toNat=45):=.inr rfl
  have n2:(45:UInt8).toNat=45:=rfl
  rw[List.singleton_append]
  simp only[parseIntB,if_pos n1,h1]
  rw[if_neg (fun h=>h.1 n2),if_neg (fun h=>by have:=h.2;rw[show 64-1=63 from rfl] at this;omega),if_pos n2]
  simp
def sg (neg:Bool):Int:=if neg then -1 else 1
theorem sg_abs (neg:Bool) (n p:Nat):(sg neg*(n:Int)*(p:Int)).natAbs=n*p:=by
 rw[Int.natAbs_mul,Int.natAbs_mul,Int.natAbs_natCast,Int.natAbs_natCast]
 cases neg<;>simp[sg]
structure DF (neg:Bool) (l:List Nat) (e V lo hi:Int):Prop where
 nd:Nd l
 v:V=sg neg*(dv l:Int)*(sc e:Int)
 zero:l=[]→neg=false∧e=0
 ge:l≠[]→lo≤e
 le:l≠[]→e+l.length≤hi
 blo:-400≤lo
 bhi:hi≤1000
theorem DF.abs {neg:Bool} {l:List Nat} {e V lo hi:Int} (h:DF neg l e V lo hi):V.natAbs=dv l*sc e:=by rw[h.v,sg_abs]
theorem DF.eq0 {neg:Bool} {l:List Nat} {e V lo hi:Int} (h:DF neg l e V lo hi):V=0↔l=[]:=by
 constructor
 ·intro h0
  have h1:=h.abs
  have h2:=sc_pos e
  by_cases hl:l=[]
  ·exact hl
  ·have:=Nat.mul_pos (Nat.pos_of_ne_zero (h.nd.ne hl)) h2
   rw[h0,Int.natAbs_zero] at h1
   omega
 ·intro h0
  rw[h.v,h0,dv_nil];simp
theorem DF.neg {neg:Bool} {l:List Nat} {e V lo hi:Int} (h:DF neg l e V lo hi):neg=decide (V<0):=by
 have hp:=sc_pos e
 cases neg with
 |false=>
  have:0≤V:=by
   rw[h.v]
   show 0≤(1:Int)*(dv l:Int)*(sc e:Int)
   rw[Int.one_mul,←Int.natCast_mul]
   exact Int.natCast_nonneg _
  symm;exact decide_eq_false (by omega)
 |true=>
  have hl:l≠[]:=fun h0=>by have:=(h.zero h0).1;cases this
  have h2:=Nat.mul_pos (Nat.pos_of_ne_zero (h.nd.ne hl)) hp
  have h1:V=-((dv l*sc e:Nat):Int):=by
   rw[h.v]
   show (-1:Int)*(dv l:Int)*(sc e:Int)=_
   rw[Int.mul_assoc,←Int.natCast_mul,Int.neg_mul,Int.one_mul]
  symm;exact decide_eq_true (by omega)
theorem DF.mono {neg:Bool} {l:List Nat} {e V lo hi lo' hi':Int} (h:DF neg l e V lo hi) (h1:lo'≤lo) (h2:hi≤hi') (h3:-400≤lo') (h4:hi'≤1000):DF neg l e V lo' hi':=
 ⟨h.nd,h.v,h.zero,fun hl=>Int.le_trans h1 (h.ge hl),fun hl=>Int.le_trans (h.le hl) h2,h3,h4⟩
theorem DF.len {neg:Bool} {l:List Nat} {e V lo hi:Int} (h:DF neg l e V lo hi) (h0:0≤hi-lo):(l.length:Int)≤hi-lo:=by
 by_cases hl:l=[]
 ·rw[hl];simpa using h0
 ·have:=h.ge hl;have:=h.le hl;omega
theorem DF.strip {neg:Bool} {r l:List Nat} {x hi:Int} {j k:Nat} (hr:r=List.replicate j 0++(l++List.replicate k 0)) (hA:AD r) (hl:l≠[]) (hhd:l.getD 0 0≠0) (hlt:l.getD (l.length-1) 0≠0) (h1:-400≤x) (h2:x+r.length≤hi) (h3:hi≤1000):
 DF neg l (x+k) (sg neg*(dv r:Int)*(sc x:Int)) x hi:=by
 have hlen:r.length=j+(l.length+k):=by rw[hr];simp
 refine⟨⟨?_,fun _=>hhd,fun _=>hlt⟩,?_,fun h=>(hl h).elim,fun _=>by omega,fun _=>by omega,h1,h3⟩
 ·rw[hr] at hA
  exact hA.right.left
 ·rw[strip_ends hr,sc_add h1,Int.natCast_mul,Int.natCast_mul,Int.mul_assoc,Int.mul_assoc,Int.mul_assoc,Int.mul_comm ((10^k:Nat):Int)]
theorem DF.none {neg:Bool} {r:List Nat} {x lo hi:Int} (hr:dv r=0) (h1:-400≤lo) (h3:hi≤1000):DF false [] 0 (sg neg*(dv r:Int)*(sc x:Int)) lo hi:=by
 refine⟨Nd.nil,by rw[hr,dv_nil];simp,fun _=>⟨rfl,rfl⟩,fun h=>(h rfl).elim,fun h=>(h rfl).elim,h1,h3⟩
theorem split_ends (r:List Nat):(∃j,r=List.replicate j 0)∨∃j l k,r=List.replicate j 0++(l++List.replicate k 0)∧l≠[]∧l.getD 0 0≠0∧l.getD (l.length-1) 0≠0:=by
 have front:∀r:List Nat,∃j l,r=List.replicate j 0++l∧(l≠[]→l.getD 0 0≠0):=by
  intro r
  induction r with
  |nil=>exact⟨0,[],rfl,fun h=>(h rfl).elim⟩
  |cons d r ih=>
   by_cases hd:d=0
   ·obtain⟨j,l,h1,h2⟩:=ih
    exact⟨j+1,l,by rw[hd,List.replicate_succ,List.cons_append,←h1],h2⟩
   ·exact⟨0,d::r,rfl,fun _=>by simpa using hd⟩
 obtain⟨j,m,h1,h2⟩:=front r
 obtain⟨k,t,h3,h4⟩:=front m.reverse
 have h5:m=t.reverse++List.replicate k 0:=by
  have:=congrArg List.reverse h3
  rwa [List.reverse_reverse,List.reverse_append,List.reverse_replicate] at this
 by_cases ht:t=[]
 ·left
  rw[ht,List.reverse_nil,List.nil_append] at h5
  exact⟨j+k,by rw[h1,h5,List.replicate_append_replicate]⟩
 ·right
  have hl:t.reverse≠[]:=by simpa using ht
  refine⟨j,t.reverse,k,by rw[h1,h5],hl,?_,?_⟩
  ·have h6:=h2 (by rw[h5];simp[hl])
   rw[h5] at h6
   rwa [List.getD_eq_getElem?_getD,List.getElem?_append_left (List.length_pos_iff.2 hl),←List.getD_eq_getElem?_getD] at h6
  ·have h6:=h4 ht
   have h7:0<t.length:=List.length_pos_iff.2 ht
   rw[List.getD_eq_getElem?_getD,List.getElem?_reverse (by simp;omega)]
   rw[List.getD_eq_getElem?_getD] at h6
   rw[List.length_reverse,show t.length-1-(t.length-1)=0 by omega]
   exact h6
theorem DF.at {neg:Bool} {l:List Nat} {e V lo hi:Int} (h:DF neg l e V lo hi) (hl:l≠[]) {x hi':Int} (h1:-400≤x) (h2:x+l.length≤hi') (h3:hi'≤1000):DF neg l x (sg neg*(dv l:Int)*(sc x:Int)) x hi':=
 ⟨h.nd,rfl,fun h0=>(hl h0).elim,fun _=>Int.le_refl _,fun _=>h2,h1,h3⟩
theorem DF.mult {neg:Bool} {l:List Nat} {e V lo hi:Int} (h:DF neg l e V lo hi) {c:Int} (hc:-400≤c):(∃m:Int,V=m*sc c)↔(l=[]∨c≤e):=by
 have hlo:=h.blo
 constructor
 ·rintro⟨m,hm⟩
  by_cases hl:l=[]
  ·exact .inl hl
  ·right
   rcases Int.lt_or_le e c with hlt|hle
   ·exfalso
    have h0:=h.ge hl
    obtain⟨k,hk⟩:∃k:Nat,c=e+(k+1:Nat):=⟨(c-e-1).toNat,by omega⟩
    have h1:=h.abs
    rw[hm,Int.natAbs_mul,Int.natAbs_natCast,hk,sc_add (by omega),Nat.pow_succ,Nat.mul_comm (sc e),←Nat.mul_assoc] at h1
    have h2:=Nat.eq_of_mul_eq_mul_right (sc_pos e) h1
    have h3:=h.nd.mod hl
    rw[←h2,←Nat.mul_assoc] at h3
    omega
   ·exact hle
 ·rintro(hl|hle)
  ·exact⟨0,by rw[h.eq0.2 hl,Int.zero_mul]⟩
  ·obtain⟨k,hk⟩:∃k:Nat,e=c+(k:Nat):=⟨(e-c).toNat,by omega⟩
   refine⟨sg neg*(dv l:Int)*(10^k:Nat),?_⟩
   rw[h.v,hk,sc_add hc,Int.natCast_mul,Int.mul_assoc,Int.mul_assoc,Int.mul_assoc,Int.mul_comm (sc c:Int)]
theorem DF.whole {neg:Bool} {l:List Nat} {e V lo hi:Int} (h:DF neg l e V lo hi) {n:Int} (hn:V=n*sc 0) (hl:l≠[]):0≤e∧l++List.replicate e.toNat 0=dg n.natAbs∧neg=decide (n<0)∧n≠0:=by
 have h0:0≤e:=((h.mult (c:=0) (by decide)).1 ⟨n,hn⟩).elim (fun h=>(hl h).elim) id
 have hp:=sc_pos 0
 have hn0:n≠0:=fun h1=>hl (h.eq0.1 (by rw[hn,h1,Int.zero_mul]))
 refine⟨h0,?_,?_,hn0⟩
 ·rw[whole_text h.nd hl]
  have h1:=h.abs
  rw[hn,Int.natAbs_mul,Int.natAbs_natCast,show e=0+(e.toNat:Int) by omega,sc_add (by decide),Nat.mul_comm (sc 0),←Nat.mul_assoc] at h1
  rw[Nat.eq_of_mul_eq_mul_right hp h1]
 ·rw[h.neg,hn]
  have hp':(0:Int)<sc 0:=by omega
  by_cases hh:n<0
  ·rw[decide_eq_true hh,decide_eq_true (Int.mul_neg_of_neg_of_pos hh hp')]
  ·rw[decide_eq_false hh,decide_eq_false (by have:=Int.mul_nonneg (show 0≤n by omega) (Int.le_of_lt hp');omega)]
theorem DF.text {neg:Bool} {l:List Nat} {e V lo hi:Int} (h:DF neg l e V lo hi) {n:Int} (hn:V=n*sc 0) (hl:l≠[]):(if neg then [45] else [])++dch (l++List.replicate e.toNat 0)=itoa n:=by
 obtain⟨-,h1,h2,-⟩:=h.whole hn hl
 rw[h1,h2,itoa_dg]
 by_cases hh:n<0
 ·simp[hh]
 ·simp[hh]
end Dg
namespace Dg
open Go.Lib
def Sfx (S:List UInt8) (fn:Nat) (x:Int):Prop:=
 (fn=2∧((S=[]∧x=0)∨(S=[109]∧x=-3)∨(S=[107]∧x=3)∨(S=[77]∧x=6)∨(S=[71]∧x=9)∨(S=[84]∧x=12)∨(S=[80]∧x=15)∨(S=[69]∧x=18)))∨
 (fn=1∧∃k:Nat,1≤k∧k≤6∧S=sfxB k∧x=(k:Int)*10)∨
 (fn=0∧∃c g P,S=c::(g++P)∧(c=69∨c=101)∧(g=[]∨g=[43]∨g=[45])∧BD P∧P≠[]∧P.length≤3∧x=(if g=[45] then -(bv P:Int) else bv P)∧-60≤x∧x≤60)
def qV (neg:Bool) (A D:List UInt8) (fn:Nat) (x:Int):Int:=
 if fn=1 then sg neg*(bv (A++D):Int)*(2^x.toNat:Nat)*(sc (-(D.length:Int)):Int) else sg neg*(bv (A++D):Int)*(sc (x-(D.length:Int)):Int)
def CanOk (fn:Nat) (V:Int):Prop:=
 V.natAbs≤9223372036854775807*sc 0∧(∃m:Int,V=m*sc (-3))∧(fn=1→V=0∨((∃m:Int,V=m*sc 0)∧V.natAbs≠1000*sc 0))
theorem CanOk.neg {fn:Nat} {V:Int} (h:CanOk fn V):CanOk fn (-V):=by
 obtain⟨h1,⟨m,h2⟩,h3⟩:=h
 refine⟨by rw[Int.natAbs_neg];exact h1,⟨-m,by rw[h2,Int.neg_mul]⟩,fun hf=>?_⟩
 rcases h3 hf with h4|⟨⟨k,h4⟩,h5⟩
 ·exact .inl (by rw[h4];rfl)
 ·exact .inr ⟨⟨-k,by rw[h4,Int.neg_mul]⟩,by rw[Int.natAbs_neg];exact h5⟩
theorem Cn.fine {V M e:Int} (hc:Cn V M e) (h0:V≠0) (h1:V.natAbs≤9223372036854775807*sc 0) (h2:∃m:Int,V=m*sc (-3)):-3≤e∧e≤18∧M.natAbs<10^22:=by
 have h3:=hc.three
 have hlo:=hc.lo
 have hM:M≠0:=fun hm=>h0 (by rw[hc.v,hm,Int.zero_mul])
 have hV:V.natAbs=M.natAbs*sc e:=by rw[hc.v,Int.natAbs_mul,Int.natAbs_natCast]
 have lo:-3≤e:=by
  rcases Int.lt_or_le e (-3) with g|g
  ·exfalso
   obtain⟨m,hm⟩:=h2
   obtain⟨k,hk⟩:∃k:Nat,(-3:Int)=e+(k+3:Nat):=⟨(-3-e-3).toNat,by omega⟩
   have hv:=hc.v
   rw[hm,hk,sc_add hlo,Int.natCast_mul,Int.mul_comm (sc e:Int),←Int.mul_assoc] at hv
   have h5:=Int.eq_of_mul_eq_mul_right (by have:=sc_pos e;omega) hv
   apply hc.m
   rw[←h5,Nat.pow_add,Int.natCast_mul]
   show (m*(((10^k:Nat):Int)*1000))%1000=0
   rw[←Int.mul_assoc]
   exact Int.mul_emod_left _ _
  ·exact g
 have hi:e≤18:=by
  rcases Int.lt_or_le 18 e with g|g
  ·exfalso
   obtain⟨k,hk⟩:∃k:Nat,e=0+(20+k:Nat):=⟨(e-20).toNat,by omega⟩
   rw[hk,sc_add (by decide),Nat.pow_add,Nat.mul_comm (sc 0),←Nat.mul_assoc] at hV
   have h4:1≤M.natAbs:=by omega
   have h5:1*(10^20*1)≤M.natAbs*(10^20*10^k):=Nat.mul_le_mul h4 (Nat.mul_le_mul_left _ (Nat.pow_pos (by decide)))
   rw[hV] at h1
   have h6:=Nat.le_of_mul_le_mul_right h1 (sc_pos 0)
   have h7:(10:Nat)^20=100000000000000000000:=by decide
   omega
  ·exact g
 refine⟨lo,hi,?_⟩
 obtain⟨k,hk⟩:∃k:Nat,e=-3+(k:Nat):=⟨(e+3).toNat,by omega⟩
 rw[hk,sc_add (by decide),Nat.mul_comm (sc (-3)),←Nat.mul_assoc] at hV
 have hs:sc 0=sc (-3)*10^3:=by
  have:=sc_add (e:=-3) (k:=3) (by decide)
  rwa [show (-3:Int)+(3:Nat)=0 by decide] at this
 rw[hV,hs,Nat.mul_comm (sc (-3)),←Nat.mul_assoc] at h1
 have h6:=Nat.le_of_mul_le_mul_right h1 (sc_pos (-3))
 have h7:M.natAbs*1≤M.natAbs*10^k:=Nat.mul_le_mul_left _ (Nat.pow_pos (by decide))
 have h8:(10:Nat)^22=10000000000000000000000:=by decide
 have h9:(10:Nat)^3=1000:=by decide
 omega
theorem bd_of {l:List UInt8} (h:(l.all fun c=>decide (48≤c.toNat) && decide (c.toNat≤57))=true):BD l:=fun c hc=>by
 have:=List.all_eq_true.1 h c hc
 simp only[Bool.and_eq_true,decide_eq_true_eq] at this
 exact this
theorem bd_dch {l:List Nat} (h:AD l):BD (dch l):=by
 intro c hc
 obtain⟨d,hd,rfl⟩:=List.mem_map.1 hc
 have:=h d hd
 have e:(UInt8.ofNat (48+d)).toNat=48+d:=by
  rw[UInt8.toNat_ofNat']
  omega
 omega
theorem bv_dch {l:List Nat} (h:AD l):bv (dch l)=dv l:=by
 unfold bv dch
 congr 1
 rw[List.map_map]
 conv=>rhs;rw[←List.map_id l]
 refine List.map_congr_left fun d hd=>?_
 have:=h d hd
 have e:(UInt8.ofNat (48+d)).toNat=48+d:=by
  rw[UInt8.toNat_ofNat']
  omega
 simp only[Function.comp_apply,e,id_eq]
 omega
theorem sfxE_exp {e:Int} (h:e=-3∨e=3∨e=6∨e=9∨e=12∨e=15∨e=18):Sfx (sfxE e) 0 e:=by
 refine .inr (.inr ⟨rfl,?_⟩)
 rcases h with rfl|rfl|rfl|rfl|rfl|rfl|rfl
 ·exact⟨101,[45],[51],by decide+kernel,.inr rfl,.inr (.inr rfl),bd_of (by decide),by decide,by decide,by decide,by decide,by decide⟩
 ·exact⟨101,[],[51],by decide+kernel,.inr rfl,.inl rfl,bd_of (by decide),by decide,by decide,by decide,by decide,by decide⟩
 ·exact⟨101,[],[54],by decide+kernel,.inr rfl,.inl rfl,bd_of (by decide),by decide,by decide,by decide,by decide,by decide⟩
 ·exact⟨101,[],[57],by decide+kernel,.inr rfl,.inl rfl,bd_of (by decide),by decide,by decide,by decide,by decide,by decide⟩
 ·exact⟨101,[],[49,50],by decide+kernel,.inr rfl,.inl rfl,bd_of (by decide),by decide,by decide,by decide,by decide,by decide⟩
 ·exact⟨101,[],[49,53],by decide+kernel,.inr rfl,.inl rfl,bd_of (by decide),by decide,by decide,by decide,by decide,by decide⟩
 ·exact⟨101,[],[49,56],by decide+kernel,.inr rfl,.inl rfl,bd_of (by decide),by decide,by decide,by decide,by decide,by decide⟩
theorem sfxD_exp {e:Int} (h:e=-3∨e=0∨e=3∨e=6∨e=9∨e=12∨e=15∨e=18):Sfx (sfxD e) 2 e:=by
 refine .inl ⟨rfl,?_⟩
 rcases h with rfl|rfl|rfl|rfl|rfl|rfl|rfl|rfl<;>decide
theorem can_word {fn:Nat} {V:Int} {t:List UInt8} (h:CanTxt fn V t) (hk:fn≠1) (h0:V≠0) (h1:V.natAbs≤9223372036854775807*sc 0) (h2:∃m:Int,V=m*sc (-3)):
 ∃(neg:Bool) (A S:List UInt8) (fn':Nat) (x:Int),t=(if neg then [45] else [])++A++S∧BD A∧A≠[]∧A.length≤22∧Sfx S fn' x∧fn'≠1∧qV neg A [] fn' x=V:=by
 rcases h with ⟨h,-⟩|⟨-,-,M,e,hc,rfl⟩|⟨h,-⟩
 ·exact(h0 h).elim
 ·obtain⟨e1,e2,hM⟩:=hc.fine h0 h1 h2
  have h3:=hc.three
  have he:e=-3∨e=0∨e=3∨e=6∨e=9∨e=12∨e=15∨e=18:=by omega
  have hS:∃fn',fn'≠1∧Sfx (if fn=0 then sfxE e else sfxD e) fn' e:=by
   by_cases hf:fn=0
   ·rw[if_pos hf]
    by_cases hz:e=0
    ·exact⟨2,by decide,.inl ⟨rfl,.inl ⟨by rw[hz];rfl,hz⟩⟩⟩
    ·exact⟨0,by decide,sfxE_exp (by omega)⟩
   ·rw[if_neg hf]
    exact⟨2,by decide,sfxD_exp he⟩
  obtain⟨fn',hf',hS⟩:=hS
  refine⟨decide (M<0),dch (dg M.natAbs),_,fn',e,?_,bd_dch (dg_AD _),?_,?_,hS,hf',?_⟩
  ·rw[itoa_dg]
   by_cases hh:M<0<;>simp[hh]
  ·have:=dg_ne M.natAbs
   simpa [dch] using this
  ·have:=dg_length_le (n:=M.natAbs) (k:=22) (by decide) hM
   simpa [dch] using this
  ·unfold qV
   rw[if_neg hf',List.append_nil,bv_dch (dg_AD _),dv_dg,hc.v]
   congr 1
   ·by_cases hh:M<0
    ·simp[hh,sg];omega
    ·simp[hh,sg];omega
   ·simp
 ·exact(hk h).elim
theorem split_zeros (A:List UInt8):∃(z:Nat) (A':List UInt8),A=List.replicate z 48++A'∧(A'≠[]→A'.getD 0 0≠48):=by
 induction A with
 |nil=>exact⟨0,[],rfl,fun h=>(h rfl).elim⟩
 |cons c r ih=>
  by_cases hc:c=48
  ·obtain⟨z,A',h1,h2⟩:=ih
   exact⟨z+1,A',by rw[hc,List.replicate_succ,List.cons_append,←h1],h2⟩
  ·exact⟨0,c::r,rfl,fun _=>by simpa using hc⟩
theorem bv_zeros (z:Nat) (A:List UInt8):bv (List.replicate z 48++A)=bv A:=by
 unfold bv
 rw[List.map_append,List.map_replicate]
 exact dv_strip z _
end Dg
namespace Dg
open Go.Lib
theorem sg_mod {neg:Bool} {n:Nat} (h:n%10≠0):(sg neg*(n:Int))%10≠0:=by
 cases neg
 ·simp only[sg,Bool.false_eq_true,if_false];omega
 ·simp only[sg,if_true];omega
theorem DF.cn {neg:Bool} {l:List Nat} {e V lo hi:Int} (h:DF neg l e V lo hi) (hl:l≠[]) {E:Int} (hE:E%3=0) (h1:E≤e) (h2:e<E+3) (h3:-400≤E):Cn V (sg neg*(dv l:Int)*(10^(e-E).toNat:Nat)) E:=by
 obtain⟨j,hj⟩:∃j:Nat,e-E=j:=⟨(e-E).toNat,by omega⟩
 have:=cn_of (V:=V) (a:=sg neg*(dv l:Int)) (e:=e) (j:=j) h.v (sg_mod (h.nd.mod hl)) (by omega) (by rw[show e-(j:Int)=E by omega];exact hE) (by omega)
 rw[show e-(j:Int)=E by omega] at this
 rw[hj,Int.toNat_natCast,Int.natCast_pow]
 exact this
theorem DF.int {neg:Bool} {l:List Nat} {j:Int} (hj:0≤j):sg neg*(dv l:Int)*(sc j:Int)=(sg neg*(dv l:Int)*(10^j.toNat:Nat))*(sc 0:Int):=by
 obtain⟨k,rfl⟩:∃k:Nat,j=k:=⟨j.toNat,by omega⟩
 have:=sc_add (e:=0) (k:=k) (by decide)
 rw[Int.zero_add] at this
 rw[this,Int.toNat_natCast,Int.natCast_mul,Int.mul_assoc,Int.mul_comm (sc 0:Int)]
 simp only[Int.mul_assoc]
theorem can_dec {fn:Nat} {V M E:Int} (hf:fn≠1) (hc:Cn V M E) (h0:V≠0):CanTxt fn V (itoa M++if fn=0 then sfxE E else sfxD E):=.inr (.inl ⟨h0,.inl hf,M,E,hc,rfl⟩)
theorem bn_done {n m:Int} {k:Nat} (h:n=m*1024^k) (h0:n≠0) (hn:n.natAbs≤9223372036854775808) (hd:m%1024≠0∨k=6):Bn n m k:=by
 refine⟨h,?_⟩
 rcases hd with hd|rfl
 ·exact hd
 ·intro hm
  have hm0:m≠0:=fun hm=>h0 (by rw[h,hm,Int.zero_mul])
  have h2:n.natAbs=m.natAbs*1024^6:=by rw[h,Int.natAbs_mul,Int.natAbs_pow];rfl
  rw[show (1024:Nat)^6=1152921504606846976 by decide] at h2
  omega
theorem can_bin {n m:Int} {k:Nat} (hb:Bn n m k) (h0:n≠0) (h1:n.natAbs≠1000):CanTxt 1 (n*sc 0) (itoa m++sfxB k):=by
 have hp:=sc_pos 0
 have hV0:n*(sc 0:Int)≠0:=Int.mul_ne_zero h0 (by omega)
 by_cases hs:n.natAbs<1024
 ·have hk:k=0:=by
   rcases Nat.eq_zero_or_pos k with h|h
   ·exact h
   ·exfalso
    have hm0:m≠0:=fun hm=>h0 (by rw[hb.v,hm,Int.zero_mul])
    have h2:n.natAbs=m.natAbs*1024^k:=by rw[hb.v,Int.natAbs_mul,Int.natAbs_pow];rfl
    have h3:(1024:Nat)^1≤1024^k:=Nat.pow_le_pow_right (by decide) h
    have h4:1*1024^1≤m.natAbs*1024^k:=Nat.mul_le_mul (by omega) h3
    omega
  subst hk
  have hm:n=m:=by rw[hb.v];simp
  subst hm
  refine .inr (.inl ⟨hV0,.inr ?_,n,0,⟨rfl,rfl,by omega,by decide⟩,?_⟩)
  ·rw[Int.natAbs_mul,Int.natAbs_natCast]
   exact Nat.mul_lt_mul_of_pos_right hs hp
  ·rfl
 ·exact .inr (.inr ⟨rfl,by rw[Int.natAbs_mul,Int.natAbs_natCast];exact Nat.mul_le_mul_right _ (by omega),n,m,k,rfl,hb,rfl⟩)
theorem DF.lt_len {neg neg':Bool} {l r:List Nat} {e f V W lo hi lo' hi':Int} (h:DF neg l e V lo hi) (k:DF neg' r f W lo' hi') (hl:l≠[]) (hr:r≠[]) (hx:(l.length:Int)+e<r.length+f):V.natAbs<W.natAbs:=by
 have h1:=h.blo;have h2:=h.ge hl;have h3:=k.blo;have h4:=k.ge hr
 rw[h.abs,k.abs]
 unfold sc
 exact larger_len h.nd k.nd hl hr (by omega)
theorem DF.lt_part {neg neg':Bool} {l r:List Nat} {e f V W lo hi lo' hi':Int} (h:DF neg l e V lo hi) (k:DF neg' r f W lo' hi') (hl:l≠[]) (hr:r≠[]) (hx:(l.length:Int)+e=r.length+f) {i:Nat} (hj:∀j,j<i→l.getD j 0=r.getD j 0) (hd:l.getD i 0<r.getD i 0):V.natAbs<W.natAbs:=by
 have h1:=h.blo;have h2:=h.ge hl;have h3:=k.blo;have h4:=k.ge hr
 rw[h.abs,k.abs]
 unfold sc
 exact larger_part h.nd.ad k.nd.ad (by omega) hj hd
theorem DF.same {neg neg':Bool} {l r:List Nat} {e f V W lo hi lo' hi':Int} (h:DF neg l e V lo hi) (k:DF neg' r f W lo' hi') (hl:l≠[]) (hr:r≠[]) (hx:(l.length:Int)+e=r.length+f) (hj:∀j,j<l.length∨j<r.length→l.getD j 0=r.getD j 0):V.natAbs=W.natAbs:=by
 have h1:=h.blo;have h2:=h.ge hl;have h3:=k.blo;have h4:=k.ge hr
 rw[h.abs,k.abs]
 unfold sc
 exact larger_same (by omega) hj
end Dg
namespace Go.Proofs.YtcpjclakdpjjfaaGreatDoor
open Go.RowKit Wd
def Hd (w:World) (b:Nat) (t:TypeId) (cs:Array Value):Prop:=w.heap[b]?=some (.cells cs t (0,0))
theorem Hd.cell {w:World} {b:Nat} {t:TypeId} {cs:Array Value} (h:Hd w b t cs) {i:Nat} {v:Value} (hv:cs[i]?=some v):w.cell? ⟨b,i,none⟩=some v:=by
 unfold Hd at h;simp[World.cell?,h,hv]
theorem Hd.free {w:World} {b:Nat} {t:TypeId} {cs:Array Value} (h:Hd w b t cs) (i:Nat):w.frozen? ⟨b,i,none⟩=false:=by
 unfold Hd at h;simp[World.frozen?,h]
theorem Hd.lt {w:World} {b:Nat} {t:TypeId} {cs:Array Value} (h:Hd w b t cs):b<w.heap.size:=lt_of_block h
theorem Hd.mod {S:List Nat} {w w':World} {b:Nat} {t:TypeId} {cs:Array Value} (h:Hd w b t cs) (m:Mod S w w') (hb:b∉S):Hd w' b t cs:=(m.block b h.lt hb).trans h
theorem Hd.set {w:World} {b:Nat} {t:TypeId} {cs:Array Value} (h:Hd w b t cs) (i:Nat) (u:Value):Hd (w.setCell ⟨b,i,none⟩ u) b t (cs.setIfInBounds i u):=by
 unfold Hd at*;exact heap_setCell_same h i u
theorem Hd.new (w:World) (t:TypeId) (cs:Array Value):Hd (w.alloc (.cells cs t)) w.heap.size t cs:=by
 show (w.heap.push _)[w.heap.size]?=_
 simp
theorem Mod.grown {w w':World} {r:Option Nat} (h:w.grownBy w' r) {S:List Nat} (hr:∀k,r=some k→k∈S):Mod S w w':=
 ⟨h.os,h.tape,h.output,h.size,fun k hk hs=>h.block k hk (fun e=>hs (hr k e.symm))⟩
end Go.Proofs.YtcpjclakdpjjfaaGreatDoor
namespace Go.Proofs.YtcpjclakdpjjfaaGreatDoor
open Go.RowKit Wd Dg
theorem info3:(Tryz.prog.info? 3).map (fun i=>(i.zero,i.size,i.bytes))=some (some (.int .i64 0),1,8):=by kernel_rfl
def ics (l:List Nat):List Value:=l.map fun d:Nat=>Value.int .i64 (d:Int)
theorem ics_len (l:List Nat):(ics l).length=l.length:=by simp[ics]
theorem ics_app (l r:List Nat):ics (l++r)=ics l++ics r:=by simp[ics]
theorem ics_one {l:List Nat}:∀u∈ics l,u.oneCell'=true:=by
 intro u hu
 obtain⟨d,-,rfl⟩:=List.mem_map.1 hu
 rfl
def Bk (w:World) (g:Nat):Prop:=∃cur,w.heap[g]?=some (.cells cur 3 (0,0))
theorem Bk.lt {w:World} {g:Nat} (h:Bk w g):g<w.heap.size:=lt_of_heap h.choose_spec
theorem Bk.mod {S:List Nat} {w w':World} {g:Nat} (h:Bk w g) (m:Mod S w w') (hg:g∉S):Bk w' g:=by
 obtain⟨cur,h1⟩:=h
 exact⟨cur,(m.block g (lt_of_heap h1) hg).trans h1⟩
def Ir (w:World) (v:Value) (l:List Nat):Prop:=
 (v=.slice none 0 0∧l=[])∨∃g o c,v=.slice (some ⟨g,o,none⟩) l.length c∧l.length≤c∧c≤9223372036854775807∧Bk w g∧∀i (hi:i<l.length),w.cell? ⟨g,o+i,none⟩=some (.int .i64 ((l[i]'hi:Nat):Int))
theorem Ir.nil (w:World):Ir w (.slice none 0 0) []:=.inl ⟨rfl,rfl⟩
theorem Ir.mod {w w':World} {v:Value} {l:List Nat} (h:Ir w v l) (m:Mod [] w w'):Ir w' v l:=by
 rcases h with h|⟨g,o,c,h1,h2,h3,h4,h5⟩
 ·exact .inl h
 ·exact .inr ⟨g,o,c,h1,h2,h3,h4.mod m (by simp),fun i hi=>(m.cell (p:=⟨g,o+i,none⟩) h4.lt (by simp)).trans (h5 i hi)⟩
theorem Ir.mods {S:List Nat} {w w':World} {v:Value} {l:List Nat} (h:Ir w v l) (m:Mod S w w') (hS:∀k,v.ownBlock=some k→k∉S):Ir w' v l:=by
 rcases h with h|⟨g,o,c,rfl,h2,h3,h4,h5⟩
 ·exact .inl h
 ·exact .inr ⟨g,o,c,rfl,h2,h3,h4.mod m (hS g rfl),fun i hi=>(m.cell (p:=⟨g,o+i,none⟩) h4.lt (hS g rfl)).trans (h5 i hi)⟩
theorem Ir.form {w:World} {v:Value} {l:List Nat} (h:Ir w v l):∃a c,v=.slice a l.length c∧l.length≤c∧c≤9223372036854775807:=by
 rcases h with ⟨rfl,rfl⟩|⟨g,o,c,h1,h2,h3,-⟩
 ·exact⟨none,0,rfl,Nat.le_refl _,by decide⟩
 ·exact⟨_,c,h1,h2,h3⟩
theorem Ir.cells {w:World} {v:Value} {l:List Nat} (h:Ir w v l) (hl:l≠[]):∃g o c,v=.slice (some ⟨g,o,none⟩) l.length c∧l.length≤c∧c≤9223372036854775807∧Bk w g∧∀i (hi:i<l.length),w.cell? ⟨g,o+i,none⟩=some (.int .i64 ((l[i]'hi:Nat):Int)):=by
 rcases h with ⟨-,h⟩|h
 ·exact(hl h).elim
 ·exact h
theorem Ir.own {w:World} {base:Nat} {v:Value} {l:List Nat} (h:w.ownsRow base 3 1 v l.length (ics l)):Ir w v l:=by
 obtain⟨h1,⟨rfl,h2⟩|⟨g,cap,cur,rfl,h3,h4,h5,h6,h7,h8⟩⟩:=h
 ·exact .inl ⟨by rfl,List.eq_nil_of_length_eq_zero h2⟩
 ·refine .inr ⟨g,0,cap,rfl,h5,h6,⟨cur,h4⟩,fun i hi=>?_⟩
  have e:cur[i]?=some (.int .i64 ((l[i]'hi:Nat):Int)):=by
   have h9:(cur.toList.take (l.length*1))[i]?=some (.int .i64 ((l[i]'hi:Nat):Int)):=by
    rw[h8];simp[ics,hi]
   rw[List.getElem?_take_of_lt (by omega)] at h9
   simpa using h9
  rw[Nat.zero_add]
  simp[World.cell?,h4,e]
theorem append_ir {w:World} {base:Nat} {v y:Value} {xs ys:List Nat} (hown:w.ownsRow base 3 1 v xs.length (ics xs)) (hy:Ir w y ys) (hb:xs.length+ys.length≤1000000) (hbase:base≤w.heap.size):
 ∃v' w',(Builtin.append_ #[25,25] 25 #[v,y]).run Tryz.prog w=.ok v' w'∧w'.ownsRow base 3 1 v' (xs++ys).length (ics (xs++ys))∧w.grownBy w' v.ownBlock:=by
 obtain⟨i,hi,hz⟩:=Option.map_eq_some_iff.1 info3
 simp only[Prod.mk.injEq] at hz
 obtain⟨h1,h2,h3⟩:=hz
 have hM:maxLen=9223372036854775807:=rfl
 rcases hy with ⟨rfl,rfl⟩|⟨g,o,c,rfl,k2,k3,k4,k5⟩
 ·refine⟨v,w,?_,by rw[List.append_nil];exact hown,⟨rfl,rfl,rfl,Nat.le_refl _,fun _ _ _=>rfl⟩⟩
  obtain⟨-,⟨rfl,hn⟩|⟨g,cap,cur,rfl,g3,g4,g5,g6,g7,g8⟩⟩:=hown
  ·simp[Builtin.append_,run_underlying Tryz.underlying25,sizeOf,typeInfo,hi,Builtin.lenOf,Builtin.firstCells]
  ·simp[Builtin.append_,run_underlying Tryz.underlying25,sizeOf,typeInfo,hi,Builtin.lenOf,Builtin.firstCells,loadCells,g5,storeCells]
 ·obtain⟨v',w',r1,r2,r3,-⟩:=run_append_own (P:=Tryz.prog) w base 25 25 3 i (.int .i64 0) 1 8 Tryz.underlying25 hi h1 h2 h3 rfl (by decide) v xs.length (ics xs) hown ⟨g,o,none⟩ ys.length c (ics ys) (by rw[ics_len,Nat.mul_one]) (fun j u hj=>by
   obtain⟨hj1,hj2⟩:=List.getElem?_eq_some_iff.1 hj
   rw[ics_len] at hj1
   rw[Addr.add_lit,k5 j hj1,←hj2]
   simp[ics]) ics_one (by omega) (by omega) hbase
  exact⟨v',w',r1,by rw[List.length_append,ics_app];exact r2,r3⟩
def dcv (neg:Bool) (sl:Value) (e:Int):Value:=.agg #[.bool neg,sl,.int .i64 e]
def Dc (w:World) (d:Value) (V lo hi:Int):Prop:=∃neg sl l e,d=dcv neg sl e∧Ir w sl l∧DF neg l e V lo hi
theorem Dc.mod {w w':World} {d:Value} {V lo hi:Int} (h:Dc w d V lo hi) (m:Mod [] w w'):Dc w' d V lo hi:=by
 obtain⟨neg,sl,l,e,h1,h2,h3⟩:=h
 exact⟨neg,sl,l,e,h1,h2.mod m,h3⟩
theorem Dc.mono {w:World} {d:Value} {V lo hi lo' hi':Int} (h:Dc w d V lo hi) (h1:lo'≤lo) (h2:hi≤hi') (h3:-400≤lo') (h4:hi'≤1000):Dc w d V lo' hi':=by
 obtain⟨neg,sl,l,e,k1,k2,k3⟩:=h
 exact⟨neg,sl,l,e,k1,k2,k3.mono h1 h2 h3 h4⟩
theorem Ir.off {w:World} {v:Value} {l:List Nat} (h:Ir w v l) {b:Nat} {t:TypeId} {cs:Array Value} (hd:Hd w b t cs) (ht:t≠3):∀k,v.ownBlock=some k→k∉[b]:=by
 intro k hk hm
 obtain rfl:=List.mem_singleton.1 hm
 rcases h with ⟨rfl,-⟩|⟨g,o,c,rfl,-,-,⟨cur,h4⟩,-⟩
 ·cases hk
 ·have:g=k:=by simpa [Value.ownBlock] using hk
  subst this
  have:=hd.symm.trans h4
  simp only[Option.some.injEq,Obj.cells.injEq] at this
  exact ht this.2.1
theorem dc_put {w w2:World} {b:Nat} {z0 z1 z2:Value} {neg:Bool} {sl:Value} {l:List Nat} {ex V lo hi:Int} (hd:Hd w2 b 27 #[z0,z1,z2]) (hb:w.heap.size≤b) (m:Mod [] w w2) (hir:Ir w2 sl l) (hF:DF neg l ex V lo hi):
 Hd (((w2.setCell ⟨b,0,none⟩ (.bool neg)).setCell ⟨b,1,none⟩ sl).setCell ⟨b,2,none⟩ (.int .i64 ex)) b 27 #[.bool neg,sl,.int .i64 ex]∧
 Dc (((w2.setCell ⟨b,0,none⟩ (.bool neg)).setCell ⟨b,1,none⟩ sl).setCell ⟨b,2,none⟩ (.int .i64 ex)) (dcv neg sl ex) V lo hi∧Mod [] w (((w2.setCell ⟨b,0,none⟩ (.bool neg)).setCell ⟨b,1,none⟩ sl).setCell ⟨b,2,none⟩ (.int .i64 ex)):=by
 have m3:Mod [b] w2 (((w2.setCell ⟨b,0,none⟩ (.bool neg)).setCell ⟨b,1,none⟩ sl).setCell ⟨b,2,none⟩ (.int .i64 ex)):=(((Mod.refl [b] w2).setCell _ (.inl (by simp))).setCell _ (.inl (by simp))).setCell _ (.inl (by simp))
 refine⟨?_,⟨neg,sl,l,ex,rfl,hir.mods m3 (hir.off hd (by decide)),hF⟩,m.step m3 (fun x hx=>.inr (by rw[List.mem_singleton.1 hx];exact hb))⟩
 exact((hd.set 0 (.bool neg)).set 1 sl).set 2 (.int .i64 ex)
def DcRet (V lo hi:Int) (w:World) (e:Ending) (w':World):Prop:=∃d,e=.returned d∧Dc w' d V lo hi∧Mod [] w w'
end Go.Proofs.YtcpjclakdpjjfaaGreatDoor
namespace Go.Proofs.YtcpjclakdpjjfaaGreatDoor
open Go.RowKit Wd Dg
theorem decimal_nil (neg:Bool) (x:Int) (w:World):Calls Tryz.prog 40 #[.bool neg,.slice none 0 0,.int .i64 x] w fun e w'=>e=.returned (dcv false (.slice none 0 0) 0)∧Mod [] w w':=by
 go_enter Tryz.func40,Tryz.ntmps40
 go_wp2_with fail
 go_loopw [1] (fun t1 wr=>t1=.slice none 0 0∧wr=w.alloc (.cells #[.bool false,.slice none 0 0,.int .i64 0] 27)) (fun _ _=>0)
 case atStart=>exact⟨rfl,rfl⟩
 case round=>
  obtain⟨rfl,rfl⟩:=hrel
  go_wp2_with fail
  go_loopw [1,2] (fun t1 t2 wr=>t1=.slice none 0 0∧t2=.int .i64 x∧wr=w.alloc (.cells #[.bool false,.slice none 0 0,.int .i64 0] 27)) (fun _ _ _=>0)
  case atStart=>exact⟨rfl,rfl,rfl⟩
  case round=>
   obtain⟨rfl,rfl,rfl⟩:=hrel
   go_wp2_with fail
   have hd:=Hd.new w 27 #[.bool false,.slice none 0 0,.int .i64 0]
   have c0:=hd.cell (i:=0) rfl
   have c1:=hd.cell (i:=1) rfl
   have c2:=hd.cell (i:=2) rfl
   refine bodyPost_ret (v:=dcv false (.slice none 0 0) 0) (by unfold dcv;simp[results,Tryz.results40,go_sem,c0,c1,c2];try rfl) rfl ?_
   exact⟨rfl,(Mod.refl [] w).alloc _⟩
def slen:Value→Nat
 | .slice _ n _=>n
 |_=>0
def Cl (w:World) (g o:Nat) (r:List Nat):Prop:=∀i (hi:i<r.length),w.cell? ⟨g,o+i,none⟩=some (.int .i64 ((r[i]'hi:Nat):Int))
def Rw (w:World) (g:Nat) (v:Value) (r:List Nat):Prop:=
 ∃o c,v=.slice (some ⟨g,o,none⟩) r.length c∧r.length≤c∧c≤9223372036854775807∧Cl w g o r
theorem Rw.tail {w:World} {g o c d:Nat} {r:List Nat} (h:Cl w g o (d::r)) (h1:r.length+1≤c) (h2:c≤9223372036854775807) {n:Nat} (hn:n=r.length):Rw w g (.slice (if c=1 then some ⟨g,o,none⟩ else some ⟨g,o+1,none⟩) n (c-1)) r:=by
 subst hn
 by_cases hc:c=1
 ·rw[if_pos hc]
  exact⟨o,c-1,rfl,by omega,by omega,fun i hi=>by omega⟩
 ·rw[if_neg hc]
  refine⟨o+1,c-1,rfl,by omega,by omega,fun i hi=>?_⟩
  have:=h (i+1) (by simpa using hi)
  rw[Nat.add_assoc,Nat.add_comm 1 i]
  simpa using this
theorem decimal_zero (neg:Bool) (x:Int) (v:Value) (g j:Nat) (w:World) (hg:Bk w g) (h:Rw w g v (List.replicate j 0)):Calls Tryz.prog 40 #[.bool neg,v,.int .i64 x] w fun e w'=>e=.returned (dcv false (.slice none 0 0) 0)∧Mod [] w w':=by
 have h':Rw (w.alloc (.cells #[.bool false,.slice none 0 0,.int .i64 0] 27)) g v (List.replicate j 0):=by
  obtain⟨o,c,h1,h2,h3,h4⟩:=h
  exact⟨o,c,h1,h2,h3,fun i hi=>(((Mod.refl [] w).alloc _).cell (p:=⟨g,o+i,none⟩) hg.lt (by simp)).trans (h4 i hi)⟩
 have H0:=Lh h'
 clear h h' hg
 go_enter Tryz.func40,Tryz.ntmps40
 go_wp2_with fail
 go_loopw [1] (fun t1 wr=>∃k,Rw (w.alloc (.cells #[.bool false,.slice none 0 0,.int .i64 0] 27)) g t1 (List.replicate k 0)∧wr=w.alloc (.cells #[.bool false,.slice none 0 0,.int .i64 0] 27)) (fun t1 _=>slen t1)
 case atStart=>exact⟨j,H0.out,rfl⟩
 case round=>
  obtain⟨k,⟨o,c,rfl,hc1,hc2,hcell⟩,rfl⟩:=hrel
  rcases k with _|k
  ·clear hcell
   go_wp2_with fail
   go_loopw [1,2] (fun t1 t2 wr=>t1=.slice (some ⟨g,o,none⟩) 0 c∧t2=.int .i64 x∧wr=w.alloc (.cells #[.bool false,.slice none 0 0,.int .i64 0] 27)) (fun _ _ _=>0)
   case atStart=>exact⟨rfl,rfl,rfl⟩
   case round=>
    obtain⟨rfl,rfl,rfl⟩:=hrel
    go_wp2_with fail
    have hd:=Hd.new w 27 #[.bool false,.slice none 0 0,.int .i64 0]
    have c0:=hd.cell (i:=0) rfl
    have c1:=hd.cell (i:=1) rfl
    have c2:=hd.cell (i:=2) rfl
    refine bodyPost_ret (v:=dcv false (.slice none 0 0) 0) (by unfold dcv;simp[results,Tryz.results40,go_sem,c0,c1,c2];try rfl) rfl ?_
    exact⟨rfl,(Mod.refl [] w).alloc _⟩
  ·have e0:=hcell 0 (by simp)
   simp only[List.length_replicate] at hc1
   simp at e0
   have HC:=Lh (Aj hcell hc1)
   clear hcell hc1
   simp only[List.length_replicate]
   go_wp2_with fail
   go_roundw
   case rel=>exact⟨k,Rw.tail (d:=0) (r:=List.replicate k 0) HC.out.1 (by simpa using HC.out.2) hc2 (by simp),trivial⟩
   case measure=>simp[slen]
theorem dc_store {w w':World} {b:Nat} {v':Value} {l:List Nat} (hd:Hd w' b 27 #[.bool false,.slice none 0 0,.int .i64 0]) (hb:w.heap.size≤b) (m:Mod [] w w') (ho:w'.ownsRow (b+1) 3 1 v' l.length (ics l)) (neg:Bool) (y:Int):
 Hd (((w'.setCell ⟨b,0,none⟩ (.bool neg)).setCell ⟨b,1,none⟩ v').setCell ⟨b,2,none⟩ (.int .i64 y)) b 27 #[.bool neg,v',.int .i64 y]∧Ir (((w'.setCell ⟨b,0,none⟩ (.bool neg)).setCell ⟨b,1,none⟩ v').setCell ⟨b,2,none⟩ (.int .i64 y)) v' l∧Mod [] w (((w'.setCell ⟨b,0,none⟩ (.bool neg)).setCell ⟨b,1,none⟩ v').setCell ⟨b,2,none⟩ (.int .i64 y)):=by
 have m3:Mod [b] w' (((w'.setCell ⟨b,0,none⟩ (.bool neg)).setCell ⟨b,1,none⟩ v').setCell ⟨b,2,none⟩ (.int .i64 y)):=(((Mod.refl [b] w').setCell _ (.inl (by simp))).setCell _ (.inl (by simp))).setCell _ (.inl (by simp))
 refine⟨((hd.set 0 (.bool neg)).set 1 v').set 2 (.int .i64 y),(Ir.own ho).mods m3 (fun k hk hm=>?_),m.step m3 (fun x hx=>.inr (by rw[List.mem_singleton.1 hx];exact hb))⟩
 obtain⟨-,⟨rfl,-⟩|⟨g,cap,cur,rfl,h3,-⟩⟩:=ho
 ·cases hk
 ·have:g=k:=by simpa [Value.ownBlock] using hk
  have:=List.mem_singleton.1 hm
  omega
theorem own_form {w:World} {base:Nat} {v:Value} {l:List Nat} (h:w.ownsRow base 3 1 v l.length (ics l)):∃a c,v=.slice a l.length c:=by
 obtain⟨-,⟨rfl,h⟩|⟨g,cap,cur,rfl,-⟩⟩:=h
 ·exact⟨none,0,by rw[h]⟩
 ·exact⟨_,_,rfl⟩
theorem decimal_some (neg:Bool) (x:Int) (v:Value) (g j k:Nat) (l:List Nat) (w:World) (hg:Bk w g) (h:Rw w g v (List.replicate j 0++(l++List.replicate k 0))) (hl:l≠[]) (hhd:l.getD 0 0≠0) (hlt:l.getD (l.length-1) 0≠0) (hx1:-1000000≤x) (hx2:x≤1000000) (hn:j+(l.length+k)≤1000000):
 Calls Tryz.prog 40 #[.bool neg,v,.int .i64 x] w fun e w'=>∃sl,e=.returned (dcv neg sl (x+k))∧Ir w' sl l∧Mod [] w w':=by
 have h':Rw (w.alloc (.cells #[.bool false,.slice none 0 0,.int .i64 0] 27)) g v (List.replicate j 0++(l++List.replicate k 0)):=by
  obtain⟨o,c,h1,h2,h3,h4⟩:=h
  exact⟨o,c,h1,h2,h3,fun i hi=>(((Mod.refl [] w).alloc _).cell (p:=⟨g,o+i,none⟩) hg.lt (by simp)).trans (h4 i hi)⟩
 have hl0:0<l.length:=List.length_pos_iff.2 hl
 have hd0:l.getD 0 0=l[0]:=by rw[List.getD_eq_getElem?_getD,List.getElem?_eq_getElem hl0,Option.getD_some]
 have hdl:l.getD (l.length-1) 0=l[l.length-1]:=by rw[List.getD_eq_getElem?_getD,List.getElem?_eq_getElem (by omega),Option.getD_some]
 rw[hd0] at hhd
 rw[hdl] at hlt
 have H0:=Lh (Aj h' (Aj hhd (Aj hlt (Aj hx1 (Aj hx2 (Aj hn hg))))))
 clear h h' hg hhd hlt hx1 hx2 hn hd0 hdl
 go_enter Tryz.func40,Tryz.ntmps40
 go_wp2_with fail
 go_loopw [1] (fun t1 wr=>∃q,Rw (w.alloc (.cells #[.bool false,.slice none 0 0,.int .i64 0] 27)) g t1 (List.replicate q 0++(l++List.replicate k 0))∧wr=w.alloc (.cells #[.bool false,.slice none 0 0,.int .i64 0] 27)) (fun t1 _=>slen t1)
 case atStart=>exact⟨j,H0.out.1,rfl⟩
 case round=>
  obtain⟨q,⟨o,c,rfl,hc1,hc2,hcell⟩,rfl⟩:=hrel
  rcases q with _|q
  ·have hcl:Cl (w.alloc (.cells #[.bool false,.slice none 0 0,.int .i64 0] 27)) g o (l++List.replicate k 0):=hcell
   clear hcell
   have e0:=hcl 0 (by simp;omega)
   rw[List.getElem_append_left hl0,Nat.add_zero] at e0
   have hd:(((l[0]:Nat):Int)==0)=false:=by have:=H0.out.2.1;simp;omega
   obtain⟨M,hM⟩:∃M,l.length+k=M+1:=⟨l.length+k-1,by omega⟩
   simp only[List.replicate_zero,List.nil_append,List.length_append,List.length_replicate] at hc1 ⊢
   have HC:=Lh (Aj hcl (Aj hM hc1))
   rw[hM]
   clear hcl hM hc1
   go_wp2_with fail
   go_loopw [1,2] (fun t1 t2 wr=>∃(q n:Nat) (y:Int),n=l.length+q∧q≤k∧y=x+((k-q:Nat):Int)∧t1=.slice (some ⟨g,o,none⟩) n c∧t2=.int .i64 y∧wr=w.alloc (.cells #[.bool false,.slice none 0 0,.int .i64 0] 27)) (fun t1 _ _=>slen t1)
   case atStart=>exact⟨k,M+1,x,HC.out.2.1.symm,Nat.le_refl _,by rw[Nat.sub_self];simp,rfl,rfl,rfl⟩
   case round=>
    obtain⟨q,n,y,hn,hq,hy,rfl,rfl,rfl⟩:=hrel
    rcases Nat.eq_zero_or_pos q with h0|h0
    ·subst h0
     obtain⟨m,hm⟩:∃m,n=m+1:=⟨n-1,by omega⟩
     subst hm
     have e1:=HC.out.1 m (by simp;omega)
     rw[List.getElem_append_left (by omega)] at e1
     have hd1:(((l[m]'(by omega):Nat):Int)==0)=false:=by
      have:=H0.out.2.2.1
      have hm:m=l.length-1:=by omega
      subst hm
      simp;omega
     generalize (l[m]'(by omega):Nat)=dm at*
     have HN:=Lh (Aj hn hy)
     have hm2:m<1000000:=by have:=H0.out.2.2.2.2.2.1;omega
     have hln:l.length=m+1:=by omega
     have hir:Ir ((w.alloc (.cells #[.bool false,.slice none 0 0,.int .i64 0] 27)).alloc (.cells #[] 3)) (.slice (some ⟨g,o,none⟩) (m+1) c) l:=
      .inr ⟨g,o,c,by rw[hln],by have:=HC.out.2.2;omega,hc2,(H0.out.2.2.2.2.2.2.mod ((Mod.refl [] w).alloc _) (by simp)).mod ((Mod.refl [] _).alloc _) (by simp),fun i hi=>by
       have:=HC.out.1 i (by simp;omega)
       rw[List.getElem_append_left hi] at this
       rw[←this]
       exact(((Mod.refl [] _).alloc _).cell (p:=⟨g,o+i,none⟩) (by have:=H0.out.2.2.2.2.2.2.lt;simp;omega) (by simp))⟩
     have hown:((w.alloc (.cells #[.bool false,.slice none 0 0,.int .i64 0] 27)).alloc (.cells #[] 3)).ownsRow (w.heap.size+1) 3 1 (.slice (some ⟨w.heap.size+1,0,none⟩) 0 0) ([]:List Nat).length (ics []):=by
      refine⟨rfl,.inr ⟨w.heap.size+1,0,#[],rfl,Nat.le_refl _,?_,Nat.le_refl _,by decide,rfl,rfl⟩⟩
      have:=Hd.new (w.alloc (.cells #[.bool false,.slice none 0 0,.int .i64 0] 27)) 3 #[]
      unfold Hd at this
      rwa [show (w.alloc (.cells #[.bool false,.slice none 0 0,.int .i64 0] 27)).heap.size=w.heap.size+1 by simp] at this
     obtain⟨v',w',hrun,ho2,hgr⟩:=append_ir hown hir (by have:=H0.out.2.2.2.2.2.1;simp;omega) (by simp)
     rw[List.nil_append] at ho2
     have mA:Mod [w.heap.size+1] ((w.alloc (.cells #[.bool false,.slice none 0 0,.int .i64 0] 27)).alloc (.cells #[] 3)) w':=Mod.grown hgr (fun k hk=>by
      have:w.heap.size+1=k:=by simpa [Value.ownBlock] using hk
      simp[this])
     have hd:Hd w' w.heap.size 27 #[.bool false,.slice none 0 0,.int .i64 0]:=Hd.mod (Hd.mod (Hd.new w 27 _) ((Mod.refl [] _).alloc _) (by simp)) mA (by simp)
     have mw:Mod [] w w':=(((Mod.refl [] w).alloc _).alloc _).step mA (fun x hx=>.inr (by rw[List.mem_singleton.1 hx];omega))
     have k0:=hd.cell (i:=0) rfl
     have k1:=hd.cell (i:=1) rfl
     have k2:=hd.cell (i:=2) rfl
     have kf:=hd.free
     obtain⟨av,cv,rfl⟩:=own_form ho2
     have FS:=Lh (dc_store hd (Nat.le_refl _) mw ho2 neg y)
     clear hn hy hq hir hown ho2 hgr hln hd mw mA
     go_wp2_with (at_builtin;refine Lib.wpList_append_run _ rfl _ _ _ _ rfl _ _ rfl rfl _ _ hrun ?_)
     obtain⟨hd,hir,hmd⟩:=FS.out
     have c0:=hd.cell (i:=0) rfl
     have c1:=hd.cell (i:=1) rfl
     have c2:=hd.cell (i:=2) rfl
     refine bodyPost_ret (v:=dcv neg (.slice av l.length cv) y) (by unfold dcv;simp[results,Tryz.results40,go_sem,c0,c1,c2];try rfl) rfl ?_
     exact⟨_,by rw[HN.out.2,Nat.sub_zero],hir,hmd⟩
    ·obtain⟨p,rfl⟩:∃p,q=p+1:=⟨q-1,by omega⟩
     obtain⟨m,hm⟩:∃m,n=m+1:=⟨n-1,by omega⟩
     subst hm
     have e1:=HC.out.1 m (by simp;omega)
     rw[List.getElem_append_right (by omega),List.getElem_replicate] at e1
     have hm2:m<1000000:=by have:=H0.out.2.2.2.2.2.1;omega
     have hy2:y<3000000∧-3000000<y:=by have:=H0.out.2.2.2.1;have:=H0.out.2.2.2.2.1;have:=H0.out.2.2.2.2.2.1;omega
     have t1:wrap64 (y+1)=y+1:=by unfold wrap64;omega
     have HN:=Lh (Aj hn (Aj hy hq))
     have hmc:m≤c:=by have:=HC.out.2.1;have:=HC.out.2.2;omega
     clear hn hy hq
     go_wp2_with fail
     go_roundw
     case rel=>exact⟨p,m,y+1,by have:=HN.out.1;omega,by have:=HN.out.2.2;omega,by have:=HN.out.2;omega,rfl,rfl,trivial⟩
     case measure=>simp[slen]
  ·have e0:=hcell 0 (by simp;omega)
   simp only[List.length_append,List.length_replicate] at hc1
   simp[List.replicate_succ] at e0
   have HC:=Lh (Aj hcell hc1)
   clear hcell hc1
   obtain⟨n,hn⟩:∃n,n=q+(l.length+k):=⟨_,rfl⟩
   have hn1:(List.replicate (q+1) 0++(l++List.replicate k 0)).length=n+1:=by simp;omega
   rw[hn1]
   have HN:=Lh hn
   clear hn hn1
   go_wp2_with fail
   go_roundw
   case rel=>exact⟨q,Rw.tail (d:=0) (r:=List.replicate q 0++(l++List.replicate k 0)) HC.out.1 (by have:=HC.out.2;simp;omega) hc2 (by rw[HN.out];simp),trivial⟩
   case measure=>simp[slen]
theorem decimal_calls (neg:Bool) (x:Int) (v:Value) (r:List Nat) (w:World) (h:Ir w v r) (hA:AD r) (h1:-400≤x) {hi:Int} (h2:x+r.length≤hi) (h3:hi≤1000):
 Calls Tryz.prog 40 #[.bool neg,v,.int .i64 x] w (DcRet (sg neg*(dv r:Int)*(sc x:Int)) x hi w):=by
 rcases h with ⟨rfl,rfl⟩|⟨g,o,c,rfl,hc1,hc2,hg,hcl⟩
 ·refine(decimal_nil neg x w).mono ?_
  rintro e w' ⟨rfl,m⟩
  exact⟨_,rfl,⟨false,_,[],0,rfl,Ir.nil _,DF.none rfl h1 h3⟩,m⟩
 ·have hrw:Rw w g (.slice (some ⟨g,o,none⟩) r.length c) r:=⟨o,c,rfl,hc1,hc2,hcl⟩
  rcases split_ends r with ⟨j,hr⟩|⟨j,l,k,hr,hl,hhd,hlt⟩
  ·refine(decimal_zero neg x _ g j w hg (hr▸hrw)).mono ?_
   rintro e w' ⟨rfl,m⟩
   exact⟨_,rfl,⟨false,_,[],0,rfl,Ir.nil _,DF.none (by rw[hr,dv_zeros]) h1 h3⟩,m⟩
  ·have hlen:r.length=j+(l.length+k):=by rw[hr];simp
   refine(decimal_some neg x _ g j k l w hg (hr▸hrw) hl hhd hlt (by omega) (by omega) (by omega)).mono ?_
   rintro e w' ⟨sl,rfl,hir,m⟩
   exact⟨_,rfl,⟨neg,sl,l,x+k,rfl,hir,DF.strip hr hA hl hhd hlt h1 h2 h3⟩,m⟩
end Go.Proofs.YtcpjclakdpjjfaaGreatDoor
namespace Go.Proofs.YtcpjclakdpjjfaaGreatDoor
open Go.RowKit Wd Dg
def sgV (V:Int):Int:=if V<0 then -1 else if V=0 then 0 else 1
theorem spec_sign (d:Value) (V lo hi:Int) (w:World) (h:Dc w d V lo hi):Calls Tryz.prog 12 #[d] w fun e w'=>e=.returned (.int .i64 (sgV V))∧Mod [] w w':=by
 obtain⟨neg,sl,l,ex,rfl,hir,hF⟩:=h
 obtain⟨a,c,rfl,hc1,hc2⟩:=hir.form
 have hv0:=hF.eq0
 have hvn:=hF.neg
 unfold dcv
 have HV:∀x:Int,(x=if l=[] then 0 else if neg then -1 else 1)→x=sgV V:=fun x hx=>by
  rw[hx]
  unfold sgV
  by_cases h0:V=0
  ·rw[if_pos (hv0.1 h0),h0];rfl
  ·rw[if_neg (fun h=>h0 (hv0.2 h)),hvn]
   by_cases h1:V<0<;>simp[h1,h0]
 have HH:=Lh HV
 clear HV hv0 hvn hir hF hc1 hc2
 rcases l with _|⟨x,r⟩
 ·go_enter Tryz.func12,Tryz.ntmps12
  go_wp2_with fail
  go_ret
  exact⟨by rw[←HH.out 0 (by simp)];rfl,(Mod.refl [] w).alloc _⟩
 ·simp only[List.length_cons]
  cases neg
  all_goals
   go_enter Tryz.func12,Tryz.ntmps12
   go_wp2_with fail
   go_ret
   exact⟨by rw[←HH.out _ rfl];rfl,(Mod.refl [] w).alloc _⟩
theorem Dc.negate {w w':World} {neg:Bool} {sl:Value} {l:List Nat} {ex V lo hi:Int} (hir:Ir w sl l) (hF:DF neg l ex V lo hi) (m:Mod [] w w'):Dc w' (dcv (if l=[] then neg else !neg) sl ex) (-V) lo hi:=by
 refine⟨_,sl,l,ex,rfl,hir.mod m,⟨hF.nd,?_,fun h=>?_,hF.ge,hF.le,hF.blo,hF.bhi⟩⟩
 ·rw[hF.v]
  by_cases h:l=[]
  ·rw[h,dv_nil];simp
  ·rw[if_neg h]
   cases neg
   ·simp[sg,Int.neg_mul]
   ·simp[sg,Int.neg_mul]
 ·rw[if_pos h];exact hF.zero h
theorem spec_neg (d:Value) (V lo hi:Int) (w:World) (h:Dc w d V lo hi):Calls Tryz.prog 26 #[d] w (DcRet (-V) lo hi w):=by
 obtain⟨neg,sl,l,ex,rfl,hir,hF⟩:=h
 obtain⟨a,c,hsl,hc1,hc2⟩:=hir.form
 have HD:=Lh (fun w' (m:Mod [] w w')=>Dc.negate hir hF m)
 have hl:sl=.slice a l.length c:=hsl
 subst hl
 clear hir hF hc1 hc2 hsl
 unfold dcv
 rcases l with _|⟨x,r⟩
 ·go_enter Tryz.func26,Tryz.ntmps26
  go_wp2_with fail
  refine bodyPost_ret (v:=dcv neg (.slice a 0 c) ex) (by unfold dcv;simp[results,Tryz.results26,go_sem];try rfl) rfl ?_
  exact⟨_,rfl,HD.out _ (((Mod.refl [] w).alloc _).alloc _),((Mod.refl [] w).alloc _).alloc _⟩
 ·simp only[List.length_cons]
  go_enter Tryz.func26,Tryz.ntmps26
  go_wp2_with fail
  refine bodyPost_ret (v:=dcv (!neg) (.slice a (r.length+1) c) ex) (by unfold dcv;simp[results,Tryz.results26,go_sem];try rfl) rfl ?_
  exact⟨_,rfl,HD.out _ (((Mod.refl [] w).alloc _).alloc _),((Mod.refl [] w).alloc _).alloc _⟩
theorem spec_at (v:Value) (l:List Nat) (i:Nat) (w:World) (h:Ir w v l) (hn:l.length≤1000000) (hi:i≤1000000):Calls Tryz.prog 95 #[v,.int .i64 (i:Int)] w fun e w'=>e=.returned (.int .i64 ((rat l i:Nat):Int))∧w=w':=by
 by_cases hil:i<l.length
 ·obtain⟨g,o,c,rfl,hc1,hc2,hg,hcl⟩:=h.cells (by rintro rfl;simp at hil)
  have e0:=hcl (l.length-1-i) (by omega)
  have HR:(rat l i:Nat)=l[l.length-1-i]'(by omega):=by
   unfold rat
   rw[if_pos hil,List.getD_eq_getElem?_getD,List.getElem?_eq_getElem (by omega),Option.getD_some]
  rw[←HR] at e0
  have t0:decide (i<l.length)=true:=by simpa using hil
  clear HR hcl h
  generalize rat l i=x at*
  generalize l.length=n at*
  go_enter Tryz.func95,Tryz.ntmps95
  go_wp2_with fail
  go_ret
  exact⟨rfl,rfl⟩
 ·obtain⟨a,c,rfl,hc1,hc2⟩:=h.form
  have hr:rat l i=0:=rat_out (by omega)
  rw[hr]
  have t0:decide (i<l.length)=false:=by simp;omega
  clear h hr hil
  go_enter Tryz.func95,Tryz.ntmps95
  go_wp2_with fail
  go_ret
  exact⟨rfl,rfl⟩
end Go.Proofs.YtcpjclakdpjjfaaGreatDoor
namespace Go.Proofs.YtcpjclakdpjjfaaGreatDoor
open Go.RowKit Wd Dg
def cmpV (a b:Int):Int:=if a<b then -1 else if b<a then 1 else 0
theorem cmpV_lt {a b:Int} (h:a<b):cmpV a b=-1:=by simp[cmpV,h]
theorem cmpV_gt {a b:Int} (h:b<a):cmpV a b=1:=by simp[cmpV,h];omega
theorem cmpV_eq {a b:Int} (h:a=b):cmpV a b=0:=by simp[cmpV,h]
theorem getD_cell {l:List Nat} {i:Nat} (hi:i<l.length):l.getD i 0=l[i]:=by rw[List.getD_eq_getElem?_getD,List.getElem?_eq_getElem hi,Option.getD_some]
theorem getD_out {l:List Nat} {i:Nat} (hi:l.length≤i):l.getD i 0=0:=by rw[List.getD_eq_getElem?_getD,List.getElem?_eq_none hi];rfl
theorem larger_calls (d1 d2:Value) (V W lo hi lo' hi':Int) (w:World) (h:Dc w d1 V lo hi) (k:Dc w d2 W lo' hi') (hV:V≠0) (hW:W≠0) (hlo:-400≤lo∧-400≤lo'):
 Calls Tryz.prog 49 #[d1,d2] w fun e w'=>e=.returned (.int .i64 (cmpV V.natAbs W.natAbs))∧Mod [] w w':=by
 obtain⟨neg,sl,l,ex,rfl,hir,hF⟩:=h
 obtain⟨neg',sl',r,ey,rfl,kir,kF⟩:=k
 have hl:l≠[]:=fun h=>hV (hF.eq0.2 h)
 have hr:r≠[]:=fun h=>hW (kF.eq0.2 h)
 obtain⟨g,o,c,rfl,hc1,hc2,hg,hcl⟩:=hir.cells hl
 obtain⟨g',o',c',rfl,kc1,kc2,kg,kcl⟩:=kir.cells hr
 have b1:=hF.ge hl;have b2:=hF.le hl;have b3:=kF.ge hr;have b4:=kF.le hr
 have b5:=hF.bhi;have b6:=kF.bhi
 obtain⟨x,hx⟩:∃x,x=(l.length:Int)+ex:=⟨_,rfl⟩
 obtain⟨y,hy⟩:∃y,y=(r.length:Int)+ey:=⟨_,rfl⟩
 have t1:IntKind.i64.wrap ((l.length:Int)+ex)=x:=by rw[IntKind.wrap_i64];omega
 have t2:IntKind.i64.wrap ((r.length:Int)+ey)=y:=by rw[IntKind.wrap_i64];omega
 have mA:Mod [] w ((w.alloc (.cells #[.bool neg,.slice (some ⟨g,o,none⟩) l.length c,.int .i64 ex] 27)).alloc (.cells #[.bool neg',.slice (some ⟨g',o',none⟩) r.length c',.int .i64 ey] 27)):=((Mod.refl [] w).alloc _).alloc _
 have A1:∀i (hi:i<l.length),((w.alloc (.cells #[.bool neg,.slice (some ⟨g,o,none⟩) l.length c,.int .i64 ex] 27)).alloc (.cells #[.bool neg',.slice (some ⟨g',o',none⟩) r.length c',.int .i64 ey] 27)).cell? ⟨g,o+i,none⟩=some (.int .i64 ((l.getD i 0:Nat):Int)):=fun i hi=>by rw[getD_cell hi];exact(mA.cell (p:=⟨g,o+i,none⟩) hg.lt (by simp)).trans (hcl i hi)
 have A2:∀i (hi:i<r.length),((w.alloc (.cells #[.bool neg,.slice (some ⟨g,o,none⟩) l.length c,.int .i64 ex] 27)).alloc (.cells #[.bool neg',.slice (some ⟨g',o',none⟩) r.length c',.int .i64 ey] 27)).cell? ⟨g',o'+i,none⟩=some (.int .i64 ((r.getD i 0:Nat):Int)):=fun i hi=>by rw[getD_cell hi];exact(mA.cell (p:=⟨g',o'+i,none⟩) kg.lt (by simp)).trans (kcl i hi)
 have H0:=Lh (Aj hF (Aj kF (Aj hl (Aj hr (Aj hx (Aj hy mA))))))
 have HA:=Lh (Aj A1 A2)
 have HB:=Lh (show l.length≤2000∧r.length≤2000 by omega)
 clear hF kF hl hr hx hy mA A1 A2 hcl kcl hg kg hir kir b1 b2 b3 b4 b5 b6 hV hW hlo
 unfold dcv
 rcases Int.lt_trichotomy x y with hxy|hxy|hxy
 ·have u1:(x==y)=false:=by simp;omega
  have u2:decide (x<y)=true:=by simpa using hxy
  have HX:=Lh hxy
  clear hxy
  go_enter Tryz.func49,Tryz.ntmps49
  go_wp2_with fail
  go_quiet (fail)
  go_wp2_with fail
  go_ret
  obtain⟨k1,k2,k3,k4,k5,k6,k7⟩:=H0.out
  exact⟨by rw[cmpV_lt (by have:=k1.lt_len k2 k3 k4 (by have:=HX.out;omega);omega)];rfl,k7.drewN _⟩
 ·subst hxy
  go_enter Tryz.func49,Tryz.ntmps49
  go_wp2_with fail
  go_quiet (fail)
  go_wp2_with fail
  have p1:=Hd.cell (Hd.mod (Hd.new w 27 #[.bool neg,.slice (some ⟨g,o,none⟩) l.length c,.int .i64 ex]) ((Mod.refl [] _).alloc (.cells #[.bool neg',.slice (some ⟨g',o',none⟩) r.length c',.int .i64 ey] 27)) (by simp)) (i:=1) rfl
  have p2:=Hd.cell (Hd.new (w.alloc (.cells #[.bool neg,.slice (some ⟨g,o,none⟩) l.length c,.int .i64 ex] 27)) 27 #[.bool neg',.slice (some ⟨g',o',none⟩) r.length c',.int .i64 ey]) (i:=1) rfl
  rw[show (w.alloc (.cells #[.bool neg,.slice (some ⟨g,o,none⟩) l.length c,.int .i64 ex] 27)).heap.size=w.heap.size+1 by simp] at p2
  obtain⟨k1,k2,k3,k4,k5,k6,k7⟩:=H0.out
  have HM:=Lh (k7.drewN nq)
  have FF:=Lh (show (∀i,(∀j,j<i→l.getD j 0=r.getD j 0)→l.getD i 0<r.getD i 0→cmpV V.natAbs W.natAbs=-1)∧(∀i,(∀j,j<i→l.getD j 0=r.getD j 0)→r.getD i 0<l.getD i 0→cmpV V.natAbs W.natAbs=1)∧((∀j,j<l.length∨j<r.length→l.getD j 0=r.getD j 0)→cmpV V.natAbs W.natAbs=0) from
   ⟨fun i h1 h2=>cmpV_lt (by have:=k1.lt_part k2 k3 k4 (by omega) h1 h2;omega),fun i h1 h2=>cmpV_gt (by have:=k2.lt_part k1 k4 k3 (by omega) (fun j hj=>(h1 j hj).symm) h2;omega),fun h1=>cmpV_eq (by have:=k1.same k2 k3 k4 (by omega) h1;omega)⟩)
  have FO:=Lh (show (∀i,l.length≤i→l.getD i 0=0)∧(∀i,r.length≤i→r.getD i 0=0) from ⟨fun i h=>getD_out h,fun i h=>getD_out h⟩)
  clear k1 k2 k3 k4 k5 k6 k7 H0 t1 t2
  generalize l.length=n1 at*
  generalize r.length=n2 at*
  generalize (w.alloc (.cells #[.bool neg,.slice (some ⟨g,o,none⟩) n1 c,.int .i64 ex] 27)).alloc (.cells #[.bool neg',.slice (some ⟨g',o',none⟩) n2 c',.int .i64 ey] 27)=W0 at*
  go_loop [7] (fun t7=>∃i:Nat,t7=.int .i64 i∧i≤2000∧∀j,j<i→l.getD j 0=r.getD j 0) (fun t7=>2001-(intOf t7).toNat)
  case atStart=>exact⟨0,rfl,by omega,fun j hj=>by omega⟩
  case round=>
   obtain⟨i,rfl,hi2,hj⟩:=hrel
   obtain⟨a,ha⟩:∃a,a=l.getD i 0:=⟨_,rfl⟩
   obtain⟨b,hb⟩:∃b,b=r.getD i 0:=⟨_,rfl⟩
   have e1:=HA.out.1 i
   have e2:=HA.out.2 i
   have z1:=FO.out.1 i
   have z2:=FO.out.2 i
   rw[←ha] at e1 z1
   rw[←hb] at e2 z2
   have HJ:=Lh (Aj hj (Aj ha hb))
   clear hj ha hb
   have HB1:=HB.out
   by_cases i1:i<n1
   ·replace e1:=e1 i1
    have d1:decide (i<n1)=true:=by simpa using i1
    by_cases i2:i<n2
    ·replace e2:=e2 i2
     have d2:decide (i<n2)=true:=by simpa using i2
     clear z1 z2
     rcases Nat.lt_trichotomy a b with hab|hab|hab
     ·have HX:=Lh hab
      have q1:((a:Int)==(b:Int))=false:=by simp;omega
      have q2:decide (a<b)=true:=by simpa using hab
      clear hab
      go_wp2_with fail
      go_ret
      exact⟨by rw[FF.out.1 i HJ.out.1 (by have:=HJ.out.2;have:=HX.out;omega)];rfl,HM.out⟩
     ·have HX:=Lh hab
      subst hab
      go_wp2_with fail
      go_round
      case rel=>exact⟨i+1,by go_num,by have:=HB.out;omega,fun j hj=>by rcases Nat.lt_succ_iff_lt_or_eq.1 hj with h|h;exact HJ.out.1 j h;rw[h,←HJ.out.2.1,←HJ.out.2.2]⟩
      case measure=>simp[intOf];have:=HB.out;omega
     ·have HX:=Lh hab
      have q1:((a:Int)==(b:Int))=false:=by simp;omega
      have q2:decide (a<b)=false:=by simp;omega
      clear hab
      go_wp2_with fail
      go_ret
      exact⟨by rw[FF.out.2.1 i HJ.out.1 (by have:=HJ.out.2;have:=HX.out;omega)];rfl,HM.out⟩
    ·have d2:decide (i<n2)=false:=by simp;omega
     obtain rfl:=z2 (by omega)
     clear z1 z2 e2
     rcases Nat.eq_zero_or_pos a with hab|hab
     ·have HX:=Lh hab
      subst hab
      go_wp2_with fail
      go_round
      case rel=>exact⟨i+1,by go_num,by have:=HB.out;omega,fun j hj=>by rcases Nat.lt_succ_iff_lt_or_eq.1 hj with h|h;exact HJ.out.1 j h;rw[h,←HJ.out.2.1,←HJ.out.2.2]⟩
      case measure=>simp[intOf];have:=HB.out;omega
     ·have HX:=Lh hab
      have q1:((a:Int)==0)=false:=by simp;omega
      have q2:decide ((a:Int)<0)=false:=by simp
      clear hab
      go_wp2_with fail
      go_ret
      exact⟨by rw[FF.out.2.1 i HJ.out.1 (by have:=HJ.out.2;have:=HX.out;omega)];rfl,HM.out⟩
   ·have d1:decide (i<n1)=false:=by simp;omega
    obtain rfl:=z1 (by omega)
    clear e1
    by_cases i2:i<n2
    ·replace e2:=e2 i2
     have d2:decide (i<n2)=true:=by simpa using i2
     clear z1 z2
     rcases Nat.eq_zero_or_pos b with hab|hab
     ·have HX:=Lh hab
      subst hab
      go_wp2_with fail
      go_round
      case rel=>exact⟨i+1,by go_num,by have:=HB.out;omega,fun j hj=>by rcases Nat.lt_succ_iff_lt_or_eq.1 hj with h|h;exact HJ.out.1 j h;rw[h,←HJ.out.2.1,←HJ.out.2.2]⟩
      case measure=>simp[intOf];have:=HB.out;omega
     ·have HX:=Lh hab
      have q1:((0:Int)==(b:Int))=false:=by simp;omega
      have q2:decide (0<b)=true:=by simpa using hab
      clear hab
      go_wp2_with fail
      go_ret
      exact⟨by rw[FF.out.1 i HJ.out.1 (by have:=HJ.out.2;have:=HX.out;omega)];rfl,HM.out⟩
    ·have d2:decide (i<n2)=false:=by simp;omega
     have HX:=Lh (Aj i1 i2)
     clear z1 z2 e2 i1 i2
     go_wp2_with fail
     go_ret
     exact⟨by rw[FF.out.2.2 (fun j hj=>HJ.out.1 j (by have:=HX.out;omega))];rfl,HM.out⟩
 ·have u1:(x==y)=false:=by simp;omega
  have u2:decide (x<y)=false:=by simp;omega
  have HX:=Lh hxy
  clear hxy
  go_enter Tryz.func49,Tryz.ntmps49
  go_wp2_with fail
  go_quiet (fail)
  go_wp2_with fail
  go_ret
  obtain⟨k1,k2,k3,k4,k5,k6,k7⟩:=H0.out
  exact⟨by rw[cmpV_gt (by have:=k2.lt_len k1 k4 k3 (by have:=HX.out;omega);omega)];rfl,k7.drewN _⟩
theorem spec_cmp (d1 d2:Value) (V W lo hi lo' hi':Int) (w:World) (h:Dc w d1 V lo hi) (k:Dc w d2 W lo' hi'):
 Calls Tryz.prog 22 #[d1,d2] w fun e w'=>e=.returned (.int .i64 (cmpV V W))∧Mod [] w w':=by
 have S1:=Lh (fun(w':World) (m:Mod [] w w')=>spec_sign d1 V lo hi w' (h.mod m))
 have S2:=Lh (fun(w':World) (m:Mod [] w w')=>spec_sign d2 W lo' hi' w' (k.mod m))
 have hb:-400≤lo∧-400≤lo':=by
  obtain⟨_,_,_,_,-,-,hF⟩:=h
  obtain⟨_,_,_,_,-,-,kF⟩:=k
  exact⟨hF.blo,kF.blo⟩
 have LG:=Lh (fun(w':World) (m:Mod [] w w') (hV:V≠0) (hW:W≠0)=>larger_calls d1 d2 V W lo hi lo' hi' w' (h.mod m) (k.mod m) hV hW hb)
 obtain⟨neg,sl,l,ex,rfl,hir,hF⟩:=h
 obtain⟨neg',sl',r,ey,rfl,kir,kF⟩:=k
 obtain⟨g,c,rfl,-,-⟩:=hir.form
 obtain⟨g',c',rfl,-,-⟩:=kir.form
 clear hir kir hF kF hb
 unfold dcv at*
 have mA:Mod [] w ((w.alloc (.cells #[.bool neg,.slice g l.length c,.int .i64 ex] 27)).alloc (.cells #[.bool neg',.slice g' r.length c',.int .i64 ey] 27)):=((Mod.refl [] w).alloc _).alloc _
 have p1:Hd ((w.alloc (.cells #[.bool neg,.slice g l.length c,.int .i64 ex] 27)).alloc (.cells #[.bool neg',.slice g' r.length c',.int .i64 ey] 27)) w.heap.size 27 #[.bool neg,.slice g l.length c,.int .i64 ex]:=Hd.mod (Hd.new w 27 _) ((Mod.refl [] _).alloc _) (by simp)
 have p2:=Hd.new (w.alloc (.cells #[.bool neg,.slice g l.length c,.int .i64 ex] 27)) 27 #[.bool neg',.slice g' r.length c',.int .i64 ey]
 rw[show (w.alloc (.cells #[.bool neg,.slice g l.length c,.int .i64 ex] 27)).heap.size=w.heap.size+1 by simp] at p2
 have HP:=Lh (fun(w':World) (m:Mod [] ((w.alloc (.cells #[.bool neg,.slice g l.length c,.int .i64 ex] 27)).alloc (.cells #[.bool neg',.slice g' r.length c',.int .i64 ey] 27)) w')=>show (w'.cell? ⟨w.heap.size,0,none⟩=some (.bool neg)∧w'.cell? ⟨w.heap.size,1,none⟩=some (.slice g l.length c)∧w'.cell? ⟨w.heap.size,2,none⟩=some (.int .i64 ex))∧(w'.cell? ⟨w.heap.size+1,0,none⟩=some (.bool neg')∧w'.cell? ⟨w.heap.size+1,1,none⟩=some (.slice g' r.length c')∧w'.cell? ⟨w.heap.size+1,2,none⟩=some (.int .i64 ey)) from
  ⟨⟨Hd.cell (p1.mod m (by simp)) rfl,Hd.cell (p1.mod m (by simp)) rfl,Hd.cell (p1.mod m (by simp)) rfl⟩,⟨Hd.cell (Hd.mod p2 m (by simp)) rfl,Hd.cell (Hd.mod p2 m (by simp)) rfl,Hd.cell (Hd.mod p2 m (by simp)) rfl⟩⟩)
 have MA:=Lh mA
 clear p1 p2 mA
 go_enter Tryz.func22,Tryz.ntmps22
 go_wp2_with fail
 generalize (w.alloc (.cells #[.bool neg,.slice g l.length c,.int .i64 ex] 27)).alloc (.cells #[.bool neg',.slice g' r.length c',.int .i64 ey] 27)=WW at*
 obtain⟨⟨a0,a1,a2⟩,⟨b0,b1,b2⟩⟩:=HP.out WW (Mod.refl [] WW)
 go_region_held3 (fun w'=>(w'.cell? ⟨w.heap.size,0,none⟩=some (.bool neg)∧w'.cell? ⟨w.heap.size,1,none⟩=some (.slice g l.length c)∧w'.cell? ⟨w.heap.size,2,none⟩=some (.int .i64 ex))∧(w'.cell? ⟨w.heap.size+1,0,none⟩=some (.bool neg')∧w'.cell? ⟨w.heap.size+1,1,none⟩=some (.slice g' r.length c')∧w'.cell? ⟨w.heap.size+1,2,none⟩=some (.int .i64 ey))) (go_keep)
  (first|(go_at_call 12;first|(refine(S1.out _ (MA.out.drewN _)).mono ?_;rintro e w2 ⟨rfl,m2⟩;have M2:=Lh (((Mod.refl [] WW).drewN _).trans m2);obtain⟨⟨c0,c1,c2⟩,⟨e0,e1,e2⟩⟩:=HP.out w2 M2.out;clear m2 S1)|(refine(S2.out _ (MA.out.trans M2.out)).mono ?_;rintro e w3 ⟨rfl,m3⟩;have M3:=Lh (M2.out.trans m3);obtain⟨⟨f0,f1,f2⟩,⟨g0,g1,g2⟩⟩:=HP.out w3 M3.out;clear m3)))
 have HL:=Lh (fun hV hW=>LG.out w3 (MA.out.trans M3.out) hV hW)
 replace M3:=Lh (MA.out.trans M3.out)
 clear HP S2 LG M2
 rcases Int.lt_trichotomy V 0 with hV|hV|hV
 ·have sV:sgV V=-1:=by simp[sgV,hV]
  rw[sV]
  rcases Int.lt_trichotomy W 0 with hW|hW|hW
  ·have sW:sgV W=-1:=by simp[sgV,hW]
   rw[sW]
   have CC:=Lh (HL.out (by omega) (by omega))
   have HV:=Lh (show wrap64 (-(cmpV V.natAbs W.natAbs))=cmpV V W by
    have:wrap64 (-(cmpV V.natAbs W.natAbs))=-(cmpV V.natAbs W.natAbs):=by
     unfold wrap64 cmpV;split
     ·omega
     ·split<;>omega
    rw[this]
    rcases Int.lt_trichotomy V W with h|h|h
    ·rw[cmpV_lt h,cmpV_gt (by omega)]
    ·rw[cmpV_eq h,cmpV_eq (by omega)];rfl
    ·rw[cmpV_gt h,cmpV_lt (by omega)];rfl)
   clear hV hW sV sW HL
   go_wp2_with fail
   refine CC.out.mono ?_
   rintro _ w4 ⟨rfl,m4⟩
   have M4:=Lh m4
   clear m4
   go_wp2_with fail
   go_ret
   exact⟨by rw[←HV.out];rfl,M3.out.trans M4.out⟩
  ·have sW:sgV W=0:=by simp[sgV,hW]
   rw[sW]
   have HV:=Lh (cmpV_lt (a:=V) (b:=W) (by omega))
   clear hV hW sV sW HL
   go_wp2_with fail
   go_ret
   exact⟨by rw[HV.out];rfl,M3.out⟩
  ·have sW:sgV W=1:=by simp[sgV];omega
   rw[sW]
   have HV:=Lh (cmpV_lt (a:=V) (b:=W) (by omega))
   clear hV hW sV sW HL
   go_wp2_with fail
   go_ret
   exact⟨by rw[HV.out];rfl,M3.out⟩
 ·have sV:sgV V=0:=by simp[sgV,hV]
  rw[sV]
  rcases Int.lt_trichotomy W 0 with hW|hW|hW
  ·have sW:sgV W=-1:=by simp[sgV,hW]
   rw[sW]
   have HV:=Lh (cmpV_gt (a:=V) (b:=W) (by omega))
   clear hV hW sV sW HL
   go_wp2_with fail
   go_ret
   exact⟨by rw[HV.out];rfl,M3.out⟩
  ·have sW:sgV W=0:=by simp[sgV,hW]
   rw[sW]
   have HV:=Lh (cmpV_eq (a:=V) (b:=W) (by omega))
   clear hV hW sV sW HL
   go_wp2_with fail
   go_ret
   exact⟨by rw[HV.out];rfl,M3.out⟩
  ·have sW:sgV W=1:=by simp[sgV];omega
   rw[sW]
   have HV:=Lh (cmpV_lt (a:=V) (b:=W) (by omega))
   clear hV hW sV sW HL
   go_wp2_with fail
   go_ret
   exact⟨by rw[HV.out];rfl,M3.out⟩
 ·have sV:sgV V=1:=by simp[sgV];omega
  rw[sV]
  rcases Int.lt_trichotomy W 0 with hW|hW|hW
  ·have sW:sgV W=-1:=by simp[sgV,hW]
   rw[sW]
   have HV:=Lh (cmpV_gt (a:=V) (b:=W) (by omega))
   clear hV hW sV sW HL
   go_wp2_with fail
   go_ret
   exact⟨by rw[HV.out];rfl,M3.out⟩
  ·have sW:sgV W=0:=by simp[sgV,hW]
   rw[sW]
   have HV:=Lh (cmpV_gt (a:=V) (b:=W) (by omega))
   clear hV hW sV sW HL
   go_wp2_with fail
   go_ret
   exact⟨by rw[HV.out];rfl,M3.out⟩
  ·have sW:sgV W=1:=by simp[sgV];omega
   rw[sW]
   have CC:=Lh (HL.out (by omega) (by omega))
   have HV:=Lh (show cmpV V.natAbs W.natAbs=cmpV V W by
    rcases Int.lt_trichotomy V W with h|h|h
    ·rw[cmpV_lt h,cmpV_lt (by omega)]
    ·rw[cmpV_eq h,cmpV_eq (by omega)]
    ·rw[cmpV_gt h,cmpV_gt (by omega)])
   clear hV hW sV sW HL
   go_wp2_with fail
   refine CC.out.mono ?_
   rintro _ w4 ⟨rfl,m4⟩
   have M4:=Lh m4
   clear m4
   go_wp2_with fail
   go_ret
   exact⟨by rw[←HV.out];rfl,M3.out.trans M4.out⟩
end Go.Proofs.YtcpjclakdpjjfaaGreatDoor
namespace Go.Proofs.YtcpjclakdpjjfaaGreatDoor
open Go.RowKit Wd Dg
theorem own_one (w:World) (d:Nat):(w.alloc (.cells #[.int .i64 (d:Int)] 3)).ownsRow w.heap.size 3 1 (.slice (some ⟨w.heap.size,0,none⟩) 1 1) [d].length (ics [d]):=by
 refine⟨rfl,.inr ⟨w.heap.size,1,#[.int .i64 (d:Int)],rfl,Nat.le_refl _,?_,Nat.le_refl _,by decide,rfl,rfl⟩⟩
 exact Hd.new w 3 _
theorem own_none (w:World):(w.alloc (.cells #[] 3)).ownsRow w.heap.size 3 1 (.slice (some ⟨w.heap.size,0,none⟩) 0 0) ([]:List Nat).length (ics []):=by
 refine⟨rfl,.inr ⟨w.heap.size,0,#[],rfl,Nat.le_refl _,?_,Nat.le_refl _,by decide,rfl,rfl⟩⟩
 exact Hd.new w 3 _
theorem own_mods {S:List Nat} {w w':World} {base:Nat} {v:Value} {l:List Nat} (h:w.ownsRow base 3 1 v l.length (ics l)) (m:Mod S w w') (hS:∀k,v.ownBlock=some k→k∉S):w'.ownsRow base 3 1 v l.length (ics l):=by
 obtain⟨h1,h2⟩:=h
 refine⟨h1,h2.imp_right ?_⟩
 rintro⟨g,cap,cur,rfl,e2,e3,e4⟩
 exact⟨g,cap,cur,rfl,e2,(m.block g (lt_of_heap e3) (hS g rfl)).trans e3,e4⟩
theorem own_lt {w:World} {base:Nat} {v:Value} {l:List Nat} (h:w.ownsRow base 3 1 v l.length (ics l)):∀k,v.ownBlock=some k→base≤k∧k<w.heap.size:=by
 obtain⟨h1,⟨rfl,-⟩|⟨g,cap,cur,rfl,e2,e3,-⟩⟩:=h
 ·intro k hk;cases hk
 ·intro k hk
  have:g=k:=by simpa [Value.ownBlock] using hk
  subst this
  exact⟨e2,lt_of_heap e3⟩
theorem own_grown {w w1 w2:World} {base:Nat} {v:Value} {l:List Nat} (h:w1.ownsRow base 3 1 v l.length (ics l)) (hb:w.heap.size≤base) (m:Mod [] w w1) (hg:w1.grownBy w2 v.ownBlock):Mod [] w w2:=
 m.step (S':=v.ownBlock.toList) (Mod.grown hg (fun k hk=>by rw[hk];simp)) (fun x hx=>.inr (by
  have:v.ownBlock=some x:=by simpa using hx
  exact Nat.le_trans hb (own_lt h x this).1))
def WdSt (w:World) (l:List Nat) (q:Nat) (v:Value) (wr:World):Prop:=
 wr.ownsRow w.heap.size 3 1 v (l++List.replicate q 0).length (ics (l++List.replicate q 0))∧Mod [] w wr
theorem wide_calls (neg:Bool) (sl:Value) (l:List Nat) (ex x:Int) (w:World) (h:Ir w sl l) (hl:l.length≤10000) (h1:-10000≤ex) (h2:ex≤10000) (h3:-10000≤x) (h4:x≤10000):
 Calls Tryz.prog 53 #[dcv neg sl ex,.int .i64 x] w fun e w'=>∃v,e=.returned v∧Ir w' v (if l=[] then [] else l++List.replicate (ex-x).toNat 0)∧Mod [] w w':=by
 obtain⟨a,c,hsl,-,-⟩:=h.form
 have mA:Mod [] w ((w.alloc (.cells #[.bool neg,.slice a l.length c,.int .i64 ex] 27)).alloc (.cells #[] 3)):=((Mod.refl [] w).alloc _).alloc _
 obtain⟨v1,w1,hrun,ho,hg⟩:=append_ir (own_none (w.alloc (.cells #[.bool neg,.slice a l.length c,.int .i64 ex] 27))) (h.mod mA) (by simp;omega) (by simp)
 have hsz:(w.alloc (.cells #[.bool neg,.slice a l.length c,.int .i64 ex] 27)).heap.size=w.heap.size+1:=by simp
 rw[hsz] at hrun ho hg
 have hw1:WdSt w l 0 v1 w1:=by
  rw[List.nil_append] at ho
  refine⟨?_,own_grown (own_none (w.alloc (.cells #[.bool neg,.slice a l.length c,.int .i64 ex] 27))) (by simp) mA (by rw[hsz];exact hg)⟩
  rw[List.replicate_zero,List.append_nil]
  exact⟨ho.1,ho.2.imp_right (fun⟨g,cap,cur,q1,q2,q3⟩=>⟨g,cap,cur,q1,by omega,q3⟩)⟩
 have hc2:w1.cell? ⟨w.heap.size,2,none⟩=some (.int .i64 ex):=by
  have h5:Hd ((w.alloc (.cells #[.bool neg,.slice a l.length c,.int .i64 ex] 27)).alloc (.cells #[] 3)) w.heap.size 27 #[.bool neg,.slice a l.length c,.int .i64 ex]:=Hd.mod (Hd.new w 27 _) ((Mod.refl [] _).alloc _) (by simp)
  exact Hd.cell (Hd.mod h5 (Mod.grown (S:=[w.heap.size+1]) hg (fun k hk=>by
   have:w.heap.size+1=k:=by simpa [Value.ownBlock] using hk
   simp[this])) (by simp)) (i:=2) rfl
 obtain⟨R,hR⟩:∃R,R=if l=[] then [] else l++List.replicate (ex-x).toNat 0:=⟨_,rfl⟩
 rw[←hR]
 replace hR:=Lh hR
 subst hsl
 have H0:=Lh (Aj hl (Aj h1 (Aj h2 (Aj h3 (Aj h4 hw1)))))
 clear h mA ho hg hsz hl h1 h2 h3 h4 hw1
 unfold dcv
 go_enter Tryz.func53,Tryz.ntmps53
 go_wp2_with (at_builtin;refine Lib.wpList_append_run _ rfl _ _ _ _ rfl _ _ rfl rfl _ _ hrun ?_)
 clear hrun hc2
 go_loopw [5,6] (fun t5 t6 wr=>∃(q:Nat) (v:Value) (y:Int),v=t5∧t6=.int .i64 y∧y=ex-(q:Int)∧(q:Int)≤max 0 (ex-x)∧(l=[]→q=0)∧WdSt w l q v wr) (fun _ t6 _=>(intOf t6-x).toNat)
 case atStart=>exact⟨0,v1,ex,rfl,rfl,by simp,by omega,fun _=>rfl,H0.out.2.2.2.2.2⟩
 case round=>
  obtain⟨q,v,y,hv,rfl,hy,hq,hq0,hst⟩:=hrel
  obtain⟨av,cv,rfl⟩:=own_form hst.1
  subst hv
  have hN:(l++List.replicate q 0).length=l.length+q:=by simp
  have HH:=Lh (Aj hst (Aj hy (Aj hq hq0)))
  have hqb:(q:Int)≤20000:=by have:=H0.out;omega
  have t9:wrap64 (y-1)=y-1:=by have:=H0.out;unfold wrap64;omega
  rcases Int.lt_or_le x y with hxy|hxy
  ·by_cases hl0:l=[]
   ·obtain rfl:=hq0 hl0
    have t1:decide (x<y)=true:=by simpa using hxy
    have hN0:(l++List.replicate 0 0).length=0:=by rw[hl0];rfl
    have hRe:R=l++List.replicate 0 0:=by rw[hR.out,if_pos hl0,hl0];rfl
    have HF:=Lh (Aj hst hRe)
    rw[hN0] at hst ⊢
    have HN:=Lh hN0
    clear hst hy hq hq0 hN hqb hxy hl0 hN0 hRe
    go_wp2_with fail
    go_ret
    exact⟨_,rfl,by have:=Ir.own HF.out.1.1;rw[HN.out] at this;rw[HF.out.2];exact this,HF.out.1.2⟩
   ·have t1:decide (x<y)=true:=by simpa using hxy
    have t2:decide (0<(l++List.replicate q 0).length)=true:=by
     have:=List.length_pos_iff.2 hl0
     simp;omega
    have mA:Mod [] w (wr.alloc (.cells #[.int .i64 0] 3)):=hst.2.alloc _
    obtain⟨v1,w1,hrun,ho,hg⟩:=append_ir (w:=wr.alloc (.cells #[.int .i64 0] 3)) (ys:=[0]) (own_mods hst.1 ((Mod.refl [] wr).alloc _) (by simp)) (Ir.own (own_one wr 0)) (by rw[hN];have:=H0.out.1;simp;omega) (by have:=hst.2.size;simp;omega)
    have hnew:WdSt w l (q+1) v1 w1:=by
     rw[List.append_assoc,←List.replicate_succ'] at ho
     exact⟨ho,own_grown (own_mods hst.1 ((Mod.refl [] wr).alloc _) (by simp)) (Nat.le_refl _) mA hg⟩
    have HN:=Lh (Aj hnew hl0)
    generalize (l++List.replicate q 0).length=N at*
    have HX:=Lh hxy
    clear hst hy hq hq0 hN hqb hxy hl0 hnew ho hg mA
    go_wp2_with (at_builtin;refine Lib.wpList_append_run _ rfl _ _ _ _ rfl _ _ rfl rfl _ _ hrun ?_)
    go_roundw
    case rel=>exact⟨q+1,v1,y-1,rfl,by rw[t9],by have:=HH.out;omega,by have:=HH.out;have:=HX.out;omega,fun h=>absurd h HN.out.2,HN.out.1⟩
    case measure=>simp only[intOf,t9];have:=HX.out;omega
  ·have t1:decide (x<y)=false:=by simp;omega
   have HF:=Lh (Aj hst (show R=l++List.replicate q 0 by
    rw[hR.out]
    by_cases hl0:l=[]
    ·rw[if_pos hl0,hq0 hl0,hl0];rfl
    ·rw[if_neg hl0,show (ex-x).toNat=q by omega]))
   generalize hNN:(l++List.replicate q 0).length=N at hst ⊢
   replace hNN:=Lh hNN
   clear hst hy hq hq0 hN hqb hxy
   go_wp2_with fail
   go_ret
   exact⟨_,rfl,by rw[HF.out.2,←hNN.out];exact Ir.own HF.out.1.1,HF.out.1.2⟩
end Go.Proofs.YtcpjclakdpjjfaaGreatDoor
namespace Go.Proofs.YtcpjclakdpjjfaaGreatDoor
open Go.RowKit Wd Dg
def OfSt (w:World) (b U:Nat) (x:Nat) (v:Value) (l:List Nat) (wr:World):Prop:=
 x=U/10^l.length∧dv l=U%10^l.length∧AD l∧l.length≤20∧wr.ownsRow (b+1) 3 1 v l.length (ics l)∧Mod [] w wr∧Hd wr b 27 #[.bool false,.slice none 0 0,.int .i64 0]
theorem of_step {U n:Nat} {l:List Nat} (hn:n=l.length) (h:dv l=U%10^n):dv (U/10^n%10::l)=U%10^(n+1):=by
 subst hn
 rw[dv_cons,h,Nat.pow_succ,Nat.mod_mul,Nat.mul_comm,Nat.add_comm]
theorem of_turn {w wr:World} {b U y:Nat} {v:Value} {l:List Nat} (hst:OfSt w b U y v l wr) (hU:U<18446744073709551616) (hy:0<y) (hlt:b<wr.heap.size):
 ∃v1 w1,(Builtin.append_ #[25,25] 25 #[.slice (some ⟨wr.heap.size,0,none⟩) 1 1,v]).run Tryz.prog (wr.alloc (.cells #[.int .i64 ((y:Int)%10)] 3))=.ok v1 w1∧OfSt w b U (y/10) v1 (y%10::l) w1:=by
 obtain⟨e1,e2,e3,e4,e5,e6,e7⟩:=hst
 have eM:(y:Int)%10=((y%10:Nat):Int):=by omega
 rw[eM]
 have hir:Ir (wr.alloc (.cells #[.int .i64 ((y%10:Nat):Int)] 3)) v l:=(Ir.own e5).mod ((Mod.refl [] wr).alloc _)
 obtain⟨v1,w1,hrun,ho,hg⟩:=append_ir (own_one wr (y%10)) hir (by simp;omega) (by simp)
 have hl19:l.length≤19:=by
  rcases Nat.lt_or_ge 19 l.length with h|h
  ·exfalso
   have h1:(10:Nat)^20≤10^l.length:=Nat.pow_le_pow_right (by decide) h
   have h2:(10:Nat)^20=100000000000000000000:=by decide
   rw[Nat.div_eq_of_lt (by omega)] at e1
   omega
  ·exact h
 have mA:Mod [] w (wr.alloc (.cells #[.int .i64 ((y%10:Nat):Int)] 3)):=e6.alloc _
 have hgm:Mod [wr.heap.size] (wr.alloc (.cells #[.int .i64 ((y%10:Nat):Int)] 3)) w1:=Mod.grown hg (fun k hk=>by
  have:wr.heap.size=k:=by simpa [Value.ownBlock] using hk
  simp[this])
 refine⟨v1,w1,hrun,?_,?_,e3.cons (by omega),by simp;omega,?_,own_grown (own_one wr (y%10)) e6.size mA hg,Hd.mod (Hd.mod e7 ((Mod.refl [] wr).alloc _) (by simp)) hgm (by simp;omega)⟩
 ·rw[e1,List.length_cons,Nat.pow_succ,Nat.div_div_eq_div_mul]
 ·rw[e1,List.length_cons];exact of_step rfl e2
 ·rw[List.singleton_append] at ho
  exact⟨ho.1,ho.2.imp_right (fun⟨g,cap,cur,q1,q2,q3⟩=>⟨g,cap,cur,q1,by omega,q3⟩)⟩
theorem decimalOf_calls (n x:Int) (w:World) (hn:i64 n) (h1:-400≤x) (h2:x≤900):Calls Tryz.prog 24 #[.int .i64 n,.int .i64 x] w (DcRet (n*sc x) x (x+20) w):=by
 obtain⟨U,hU⟩:∃U,U=n.natAbs:=⟨_,rfl⟩
 have hUB:U<18446744073709551616:=by unfold i64 at hn;omega
 have key:(∃m:Nat,IntKind.u64.wrap n=(m:Int)∧IntKind.u64.wrap (-(m:Int))=(U:Int)∧decide (n<0)=true∧n=sg true*(U:Int))∨(IntKind.u64.wrap n=(U:Int)∧decide (n<0)=false∧n=sg false*(U:Int)):=by
  unfold i64 at hn
  rcases Int.lt_or_le n 0 with h0|h0
  ·refine .inl ⟨(n+18446744073709551616).toNat,?_,?_,by simpa using h0,by simp[sg];omega⟩
   ·rw[IntKind.wrap_u64];omega
   ·rw[IntKind.wrap_u64];omega
  ·refine .inr ⟨?_,by simp;omega,by simp[sg];omega⟩
   rw[IntKind.wrap_u64];omega
 have H0:=Lh (Aj hUB (Aj h1 h2))
 clear hn h1 h2 hU hUB
 rcases key with ⟨m,t1,t3,t2,hn⟩|⟨t1,t2,hn⟩
 ·have HN:=Lh hn
  clear hn
  go_enter Tryz.func24,Tryz.ntmps24
  go_wp2_with fail
  go_loopw [5,6] (fun t5 t6 wr=>∃(y:Nat) (v:Value) (l:List Nat),t5=.int .u64 y∧v=t6∧OfSt w w.heap.size U y v l wr) (fun t5 _ _=>(intOf t5).toNat)
  case atStart=>exact⟨U,_,[],rfl,rfl,by simp,by simp[dv_nil,Nat.mod_one],AD.nil,by simp,World.ownsRow_nil _ _ 3 1,(Mod.refl [] w).alloc _,Hd.new w 27 _⟩
  case round=>
   obtain⟨y,v,l,rfl,hv,hst⟩:=hrel
   rcases Nat.eq_zero_or_pos y with hy|hy
   ·subst hy
    subst hv
    obtain⟨e1,e2,e3,e4,e5,e6,e7⟩:=hst
    have hdv:dv l=U:=by
     rw[e2]
     exact Nat.mod_eq_of_lt ((Nat.div_eq_zero_iff.1 e1.symm).resolve_left (by have:=Nat.pow_pos (n:=l.length) (show 0<10 by decide);omega))
    have DC:=Lh (decimal_calls true x v l wr (Ir.own e5) e3 H0.out.2.1 (hi:=x+20) (by omega) (by have:=H0.out.2.2;omega))
    rw[hdv,←HN.out] at DC
    have HE:=Lh (Aj e6 e7)
    clear e1 e2 e3 e4 e5 e6 e7 hdv
    go_wp2_with fail
    refine DC.out.mono ?_
    rintro _ w2 ⟨d,rfl,⟨ng,sl,l2,ex,rfl,hir,hF⟩,m2⟩
    obtain⟨av,cv,hsl,-,-⟩:=hir.form
    subst hsl
    have hd2:=Hd.mod HE.out.2 m2 (by simp)
    have FS:=Lh (dc_put hd2 (Nat.le_refl _) (HE.out.1.trans m2) hir hF)
    have k0:=hd2.cell (i:=0) rfl
    have k1:=hd2.cell (i:=1) rfl
    have k2:=hd2.cell (i:=2) rfl
    have kf:=hd2.free
    clear hir hF m2 hd2 DC
    unfold dcv
    go_wp2_with fail
    obtain⟨hd,hdc,hmd⟩:=FS.out
    have c0:=hd.cell (i:=0) rfl
    have c1:=hd.cell (i:=1) rfl
    have c2:=hd.cell (i:=2) rfl
    refine bodyPost_ret (v:=dcv ng (.slice av l2.length cv) ex) (by unfold dcv;simp[results,Tryz.results24,go_sem,c0,c1,c2];try rfl) rfl ?_
    exact⟨_,rfl,hdc,hmd⟩
   ·obtain⟨v1,w1,hrun,hnew⟩:=of_turn hst H0.out.1 hy (Hd.lt hst.2.2.2.2.2.2)
    have HS:=Lh hnew
    subst hv
    have hyU:y≤U:=by rw[hst.1];exact Nat.div_le_self _ _
    have t6:IntKind.u64.wrap ((y:Int)/10)=((y/10:Nat):Int):=by have:=H0.out.1;rw[IntKind.wrap_u64];omega
    have HQ:=Lh (Aj hy t6)
    have t5:decide (0<y)=true:=by simpa using hy
    clear hst hnew hy t6 hyU
    go_wp2_with (at_builtin;refine Lib.wpList_append_run _ rfl _ _ _ _ rfl _ _ rfl rfl _ _ hrun ?_)
    rw[HQ.out.2]
    go_roundw
    case rel=>exact⟨y/10,v1,y%10::l,rfl,rfl,HS.out⟩
    case measure=>simp only[intOf];have:=HQ.out.1;omega
 ·have HN:=Lh hn
  clear hn
  go_enter Tryz.func24,Tryz.ntmps24
  go_wp2_with fail
  go_loopw [5,6] (fun t5 t6 wr=>∃(y:Nat) (v:Value) (l:List Nat),t5=.int .u64 y∧v=t6∧OfSt w w.heap.size U y v l wr) (fun t5 _ _=>(intOf t5).toNat)
  case atStart=>exact⟨U,_,[],rfl,rfl,by simp,by simp[dv_nil,Nat.mod_one],AD.nil,by simp,World.ownsRow_nil _ _ 3 1,(Mod.refl [] w).alloc _,Hd.new w 27 _⟩
  case round=>
   obtain⟨y,v,l,rfl,hv,hst⟩:=hrel
   rcases Nat.eq_zero_or_pos y with hy|hy
   ·subst hy
    subst hv
    obtain⟨e1,e2,e3,e4,e5,e6,e7⟩:=hst
    have hdv:dv l=U:=by
     rw[e2]
     exact Nat.mod_eq_of_lt ((Nat.div_eq_zero_iff.1 e1.symm).resolve_left (by have:=Nat.pow_pos (n:=l.length) (show 0<10 by decide);omega))
    have DC:=Lh (decimal_calls false x v l wr (Ir.own e5) e3 H0.out.2.1 (hi:=x+20) (by omega) (by have:=H0.out.2.2;omega))
    rw[hdv,←HN.out] at DC
    have HE:=Lh (Aj e6 e7)
    clear e1 e2 e3 e4 e5 e6 e7 hdv
    go_wp2_with fail
    refine DC.out.mono ?_
    rintro _ w2 ⟨d,rfl,⟨ng,sl,l2,ex,rfl,hir,hF⟩,m2⟩
    obtain⟨av,cv,hsl,-,-⟩:=hir.form
    subst hsl
    have hd2:=Hd.mod HE.out.2 m2 (by simp)
    have FS:=Lh (dc_put hd2 (Nat.le_refl _) (HE.out.1.trans m2) hir hF)
    have k0:=hd2.cell (i:=0) rfl
    have k1:=hd2.cell (i:=1) rfl
    have k2:=hd2.cell (i:=2) rfl
    have kf:=hd2.free
    clear hir hF m2 hd2 DC
    unfold dcv
    go_wp2_with fail
    obtain⟨hd,hdc,hmd⟩:=FS.out
    have c0:=hd.cell (i:=0) rfl
    have c1:=hd.cell (i:=1) rfl
    have c2:=hd.cell (i:=2) rfl
    refine bodyPost_ret (v:=dcv ng (.slice av l2.length cv) ex) (by unfold dcv;simp[results,Tryz.results24,go_sem,c0,c1,c2];try rfl) rfl ?_
    exact⟨_,rfl,hdc,hmd⟩
   ·obtain⟨v1,w1,hrun,hnew⟩:=of_turn hst H0.out.1 hy (Hd.lt hst.2.2.2.2.2.2)
    have HS:=Lh hnew
    subst hv
    have hyU:y≤U:=by rw[hst.1];exact Nat.div_le_self _ _
    have t6:IntKind.u64.wrap ((y:Int)/10)=((y/10:Nat):Int):=by have:=H0.out.1;rw[IntKind.wrap_u64];omega
    have HQ:=Lh (Aj hy t6)
    have t5:decide (0<y)=true:=by simpa using hy
    clear hst hnew hy t6 hyU
    go_wp2_with (at_builtin;refine Lib.wpList_append_run _ rfl _ _ _ _ rfl _ _ rfl rfl _ _ hrun ?_)
    rw[HQ.out.2]
    go_roundw
    case rel=>exact⟨y/10,v1,y%10::l,rfl,rfl,HS.out⟩
    case measure=>simp only[intOf];have:=HQ.out.1;omega
def dgs (l:List UInt8):List Nat:=l.map fun c=>c.toNat-48
def RdSt' (w:World) (b:Nat) (s:ByteArray) (i:Nat) (v:Value) (wr:World):Prop:=
 i≤s.size∧wr.ownsRow (b+1) 3 1 v (dgs (s.data.toList.take i)).length (ics (dgs (s.data.toList.take i)))∧Mod [] w wr∧Hd wr b 27 #[.bool false,.slice none 0 0,.int .i64 0]
theorem rd_turn {w wr:World} {b i:Nat} {s:ByteArray} {v:Value} (hst:RdSt' w b s i v wr) (hb:w.heap.size≤b) (hi:i<s.size) (hs:s.size≤300) (hlt:b<wr.heap.size):
 ∃v1 w1,(Builtin.append_ #[25,25] 25 #[v,.slice (some ⟨wr.heap.size,0,none⟩) 1 1]).run Tryz.prog (wr.alloc (.cells #[.int .i64 (((s[i]'hi).toNat-48:Nat):Int)] 3))=.ok v1 w1∧RdSt' w b s (i+1) v1 w1:=by
 obtain⟨e1,e5,e6,e7⟩:=hst
 have hl:(dgs (s.data.toList.take i)).length=i:=by simp[dgs];omega
 have mA:Mod [] w (wr.alloc (.cells #[.int .i64 (((s[i]'hi).toNat-48:Nat):Int)] 3)):=e6.alloc _
 obtain⟨v1,w1,hrun,ho,hg⟩:=append_ir (ys:=[(s[i]'hi).toNat-48]) (own_mods e5 ((Mod.refl [] wr).alloc (.cells #[.int .i64 (((s[i]'hi).toNat-48:Nat):Int)] 3)) (by simp)) (Ir.own (own_one wr ((s[i]'hi).toNat-48))) (by rw[hl];simp;omega) (by have:=e6.size;simp;omega)
 have hgm:Mod v.ownBlock.toList (wr.alloc (.cells #[.int .i64 (((s[i]'hi).toNat-48:Nat):Int)] 3)) w1:=Mod.grown hg (fun k hk=>by simp[hk])
 refine⟨v1,w1,hrun,by omega,?_,?_,Hd.mod (Hd.mod e7 ((Mod.refl [] wr).alloc _) (by simp)) hgm (fun hm=>?_)⟩
 ·have e:dgs (s.data.toList.take (i+1))=dgs (s.data.toList.take i)++[(s[i]'hi).toNat-48]:=by
   have hi':i<s.data.toList.length:=hi
   rw[List.take_succ_eq_append_getElem hi',dgs,List.map_append]
   rfl
  rw[e]
  exact ho
 ·refine mA.step hgm (fun y hy=>.inr ?_)
  have:v.ownBlock=some y:=by simpa using hy
  have:=(own_lt e5 y this).1
  omega
 ·have:v.ownBlock=some b:=by simpa using hm
  have:=(own_lt e5 b this).1
  omega
theorem decimalRead_calls (neg:Bool) (s:ByteArray) (x:Int) (w:World) (hs:BD s.data.toList) (hl:s.size≤300) (h1:-400≤x) (h2:x≤500):Calls Tryz.prog 57 #[.bool neg,.string s,.int .i64 x] w (DcRet (sg neg*(bv s.data.toList:Int)*(sc x:Int)) x (x+s.size) w):=by
 have H0:=Lh (Aj hs (Aj hl (Aj h1 h2)))
 clear hs hl h1 h2
 go_enter Tryz.func57,Tryz.ntmps57
 go_wp2_with fail
 go_loopw [7,8] (fun t7 t8 wr=>∃(i:Nat) (v:Value),t8=.int .i64 i∧v=t7∧RdSt' w w.heap.size s i v wr) (fun _ t8 _=>s.size-(intOf t8).toNat)
 case atStart=>exact⟨0,_,rfl,rfl,Nat.zero_le _,World.ownsRow_nil _ _ 3 1,(Mod.refl [] w).alloc _,Hd.new w 27 _⟩
 case round=>
  obtain⟨i,v,rfl,hv,hst⟩:=hrel
  rcases Nat.lt_or_ge i s.size with hi|hi
  ·have hbd:=H0.out.1 _ (List.getElem_mem (l:=s.data.toList) (n:=i) hi)
   have hce:(s.data.toList[i]'hi)=s[i]'hi:=rfl
   rw[hce] at hbd
   subst hv
   obtain⟨v1,w1,hrun,hnew⟩:=rd_turn hst (Nat.le_refl _) hi H0.out.2.1 (Hd.lt hst.2.2.2)
   have hs300:=H0.out.2.1
   have t1:decide ((48:Int)≤((s[i]'hi).toNat:Int))=true:=by simp;omega
   have t2:decide (((s[i]'hi).toNat:Int)≤57)=true:=by simp;omega
   have t3:IntKind.u8.wrap (((s[i]'hi).toNat:Int)-48)=(((s[i]'hi).toNat-48:Nat):Int):=by rw[IntKind.wrap_u8];omega
   have t4:wrap64 ((((s[i]'hi).toNat-48:Nat):Int))=(((s[i]'hi).toNat-48:Nat):Int):=by unfold wrap64;omega
   have HS:=Lh hnew
   clear hst hnew hbd hce
   go_wp2_with (at_builtin;refine Lib.wpList_append_run _ rfl _ _ _ _ rfl _ _ rfl rfl _ _ hrun ?_)
   go_roundw
   case rel=>exact⟨i+1,v1,by go_num,rfl,HS.out⟩
   case measure=>simp[intOf];omega
  ·have hie:i=s.size:=by have:=hst.1;omega
   subst hie
   subst hv
   obtain⟨-,e5,e6,e7⟩:=hst
   have hta:s.data.toList.take s.size=s.data.toList:=List.take_of_length_le (Nat.le_refl _)
   rw[hta] at e5
   have DC:=Lh (decimal_calls neg x v (dgs s.data.toList) wr (Ir.own e5) (BD.ad H0.out.1) H0.out.2.2.1 (hi:=x+s.size) (by simp[dgs]) (by have:=H0.out.2;omega))
   have HE:=Lh (Aj e6 e7)
   clear e5 e6 e7
   go_wp2_with fail
   refine DC.out.mono ?_
   rintro _ w2 ⟨d,rfl,⟨ng,sl,l2,ex,rfl,hir,hF⟩,m2⟩
   obtain⟨av,cv,hsl,-,-⟩:=hir.form
   subst hsl
   have hd2:=Hd.mod HE.out.2 m2 (by simp)
   have FS:=Lh (dc_put hd2 (Nat.le_refl _) (HE.out.1.trans m2) hir hF)
   have k0:=hd2.cell (i:=0) rfl
   have k1:=hd2.cell (i:=1) rfl
   have k2:=hd2.cell (i:=2) rfl
   have kf:=hd2.free
   clear hir hF m2 hd2 DC
   unfold dcv
   go_wp2_with fail
   obtain⟨hd,hdc,hmd⟩:=FS.out
   have c0:=hd.cell (i:=0) rfl
   have c1:=hd.cell (i:=1) rfl
   have c2:=hd.cell (i:=2) rfl
   refine bodyPost_ret (v:=dcv ng (.slice av l2.length cv) ex) (by unfold dcv;simp[results,Tryz.results57,go_sem,c0,c1,c2];try rfl) rfl ?_
   exact⟨_,rfl,hdc,hmd⟩
end Go.Proofs.YtcpjclakdpjjfaaGreatDoor
