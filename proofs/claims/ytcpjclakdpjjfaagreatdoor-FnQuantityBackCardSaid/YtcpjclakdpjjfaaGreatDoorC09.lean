/- Decimal digits, plain. -/
import Derived.Lib.ItoaNum
import Derived.Lib.ParseIntB
import Derived.Test.YtcpjclakdpjjfaaGreatDoorC01
set_option maxHeartbeats 1600000
namespace Dg
def dv (l:List Nat):Nat:=l.foldl (fun a d=>10*a+d) 0
theorem dv_nil:dv []=0:=rfl
theorem fold_app (l:List Nat) (a:Nat):l.foldl (fun a d=>10*a+d) a=a*10^l.length+dv l:=by
 unfold dv
 induction l generalizing a with
 |nil=>simp
 |cons d l ih=>
  simp only[List.foldl_cons,List.length_cons]
  rw[ih,ih (10*0+d),Nat.pow_succ]
  generalize (10:Nat)^l.length=p
  generalize List.foldl (fun a d=>10*a+d) 0 l=r
  rw[Nat.add_mul,Nat.add_mul,Nat.mul_zero,Nat.zero_mul,Nat.zero_add,←Nat.add_assoc]
  congr 2
  rw[Nat.mul_comm 10 a,Nat.mul_assoc,Nat.mul_comm 10 p]
theorem dv_append (l r:List Nat):dv (l++r)=dv l*10^r.length+dv r:=by
 rw[dv,List.foldl_append];exact fold_app r _
theorem dv_snoc (l:List Nat) (d:Nat):dv (l++[d])=10*dv l+d:=by
 rw[dv_append];simp[dv,Nat.mul_comm]
theorem dv_cons (d:Nat) (l:List Nat):dv (d::l)=d*10^l.length+dv l:=by
 have:=dv_append [d] l
 simpa [dv] using this
theorem dv_zero (l:List Nat):dv (0::l)=dv l:=by rw[dv_cons];simp
theorem dv_zeros (n:Nat):dv (List.replicate n 0)=0:=by
 induction n with
 |zero=>rfl
 |succ n ih=>rw[List.replicate_succ,dv_zero,ih]
theorem dv_pad (l:List Nat) (n:Nat):dv (l++List.replicate n 0)=dv l*10^n:=by
 rw[dv_append,dv_zeros,List.length_replicate];rfl
def AD (l:List Nat):Prop:=∀d,d∈l→d≤9
theorem AD.nil:AD []:=fun _ h=>by cases h
theorem AD.append {l r:List Nat} (h:AD l) (k:AD r):AD (l++r):=fun d hd=>(List.mem_append.1 hd).elim (h d) (k d)
theorem AD.cons {d:Nat} {r:List Nat} (h:d≤9) (k:AD r):AD (d::r):=fun x hd=>(List.mem_cons.1 hd).elim (fun e=>e▸h) (k x)
theorem AD.tail {d:Nat} {r:List Nat} (h:AD (d::r)):AD r:=fun x hx=>h x (List.mem_cons_of_mem _ hx)
theorem AD.head {d:Nat} {r:List Nat} (h:AD (d::r)):d≤9:=h d (List.mem_cons_self ..)
theorem AD.left {l r:List Nat} (h:AD (l++r)):AD l:=fun x hx=>h x (List.mem_append_left _ hx)
theorem AD.right {l r:List Nat} (h:AD (l++r)):AD r:=fun x hx=>h x (List.mem_append_right _ hx)
theorem AD.take {l:List Nat} (h:AD l) (n:Nat):AD (l.take n):=fun x hx=>h x (List.mem_of_mem_take hx)
theorem AD.drop {l:List Nat} (h:AD l) (n:Nat):AD (l.drop n):=fun x hx=>h x (List.mem_of_mem_drop hx)
theorem AD.zeros (n:Nat):AD (List.replicate n 0):=fun x hx=>by rw[List.eq_of_mem_replicate hx];omega
theorem dv_lt {l:List Nat} (h:AD l):dv l<10^l.length:=by
 induction l with
 |nil=>simp[dv]
 |cons d l ih=>
  rw[dv_cons,List.length_cons,Nat.pow_succ]
  have h1:=ih h.tail
  have h2:=h.head
  generalize (10:Nat)^l.length=p at*
  have:d*p≤9*p:=Nat.mul_le_mul_right _ h2
  omega
theorem dv_ge {d:Nat} {l:List Nat} (_h:d≠0):10^l.length≤dv (d::l):=by
 rw[dv_cons]
 have:1*10^l.length≤d*10^l.length:=Nat.mul_le_mul_right _ (by omega)
 omega
theorem dv_inj {l r:List Nat} (hl:AD l) (hr:AD r) (hn:l.length=r.length) (h:dv l=dv r):l=r:=by
 induction l generalizing r with
 |nil=>cases r with
  |nil=>rfl
  |cons d r=>simp at hn
 |cons d l ih=>cases r with
  |nil=>simp at hn
  |cons e r=>
   rw[dv_cons,dv_cons] at h
   have hn':l.length=r.length:=by simpa using hn
   rw[hn'] at h
   have h1:=dv_lt hl.tail
   have h2:=dv_lt hr.tail
   rw[hn'] at h1
   have hp:0<10^r.length:=Nat.pow_pos (by decide)
   generalize (10:Nat)^r.length=p at*
   have q1:(d*p+dv l)/p=d:=by rw[Nat.mul_comm,Nat.mul_add_div hp,Nat.div_eq_of_lt h1];rfl
   have q2:(e*p+dv r)/p=e:=by rw[Nat.mul_comm,Nat.mul_add_div hp,Nat.div_eq_of_lt h2];rfl
   have:d=e:=by rw[←q1,h,q2]
   subst this
   rw[ih hl.tail hr.tail hn' (by omega)]
def dg (n:Nat):List Nat:=if _h:n<10 then [n] else dg (n/10)++[n%10]
theorem dg_small {n:Nat} (h:n<10):dg n=[n]:=by rw[dg];simp[h]
theorem dg_big {n:Nat} (h:10≤n):dg n=dg (n/10)++[n%10]:=by rw[dg];simp[show ¬n<10 by omega]
theorem dv_dg (n:Nat):dv (dg n)=n:=by
 induction n using Nat.strongRecOn with
 |_ n ih=>
  rcases Nat.lt_or_ge n 10 with h|h
  ·rw[dg_small h];simp[dv]
  ·rw[dg_big h,dv_snoc,ih (n/10) (by omega)];omega
theorem dg_AD (n:Nat):AD (dg n):=by
 induction n using Nat.strongRecOn with
 |_ n ih=>
  rcases Nat.lt_or_ge n 10 with h|h
  ·rw[dg_small h];exact AD.cons (by omega) AD.nil
  ·rw[dg_big h];exact(ih (n/10) (by omega)).append (AD.cons (by omega) AD.nil)
theorem dg_ne (n:Nat):dg n≠[]:=by
 rcases Nat.lt_or_ge n 10 with h|h
 ·rw[dg_small h];simp
 ·rw[dg_big h];simp
theorem dg_head {n:Nat} (h0:n≠0):∃d r,dg n=d::r∧d≠0:=by
 induction n using Nat.strongRecOn with
 |_ n ih=>
  rcases Nat.lt_or_ge n 10 with h|h
  ·exact⟨n,[],dg_small h,h0⟩
  ·obtain⟨d,r,e,hd⟩:=ih (n/10) (by omega) (by omega)
   exact⟨d,r++[n%10],by rw[dg_big h,e];rfl,hd⟩
theorem pow_lt_inj {a b n:Nat} (h1:10^a≤n) (h2:n<10^b):a<b:=by
 rcases Nat.lt_or_ge a b with h|h
 ·exact h
 ·have:=Nat.pow_le_pow_right (show 0<10 by decide) h;omega
theorem dg_unique {d:Nat} {r:List Nat} (h0:d≠0) (h:AD (d::r)):d::r=dg (dv (d::r)):=by
 have hn:dv (d::r)≠0:=by have:=dv_ge (l:=r) h0;have:=Nat.pow_pos (n:=r.length) (show 0<10 by decide);omega
 obtain⟨d',r',e,hd'⟩:=dg_head hn
 rw[e]
 have hA:AD (d'::r'):=e▸dg_AD _
 have hv:dv (d'::r')=dv (d::r):=by rw[←e,dv_dg]
 refine dv_inj h hA ?_ hv.symm
 have a1:=dv_ge (l:=r) h0
 have a2:=dv_lt h
 have b1:=dv_ge (l:=r') hd'
 have b2:=dv_lt hA
 rw[hv] at b1 b2
 have c1:=pow_lt_inj a1 b2
 have c2:=pow_lt_inj b1 a2
 simp only[List.length_cons] at*
 omega
theorem dg_length_le {n k:Nat} (hk:0<k) (h:n<10^k):(dg n).length≤k:=by
 by_cases h0:n=0
 ·subst h0;rw[dg_small (by omega)];simp;omega
 ·obtain⟨d,r,e,hd⟩:=dg_head h0
  have:=dv_ge (l:=r) hd
  rw[←e,dv_dg] at this
  rw[e,List.length_cons]
  exact pow_lt_inj this h
theorem dv_strip (k:Nat) (l:List Nat):dv (List.replicate k 0++l)=dv l:=by
 rw[dv_append,dv_zeros,Nat.zero_mul,Nat.zero_add]
theorem dv_set {l:List Nat} {i x:Nat} (h:i<l.length):dv (l.set i (l[i]+x))=dv l+x*10^(l.length-1-i):=by
 have e:l=l.take i++l[i]::l.drop (i+1):=by rw[←List.drop_eq_getElem_cons h,List.take_append_drop]
 have e2:l.set i (l[i]+x)=l.take i++(l[i]+x)::l.drop (i+1):=by
  rw[List.set_eq_take_append_cons_drop];simp[h]
 rw[e2]
 conv=>rhs;rw[e]
 have hl:(l.drop (i+1)).length=l.length-1-i:=by simp;omega
 have hl2:(l.take i++l[i]::l.drop (i+1)).length-1-i=l.length-1-i:=by rw[←e]
 rw[hl2,dv_append,dv_append,dv_cons,dv_cons,hl,List.length_cons,List.length_cons,Nat.add_mul]
 omega
end Dg
namespace Dg
def rat (l:List Nat) (i:Nat):Nat:=if i<l.length then l.getD (l.length-1-i) 0 else 0
def low (l:List Nat) (i:Nat):Nat:=dv (l.drop (l.length-i))
theorem low_zero (l:List Nat):low l 0=0:=by simp[low,dv]
theorem low_all {l:List Nat} {i:Nat} (h:l.length≤i):low l i=dv l:=by
 have:l.length-i=0:=by omega
 simp[low,this]
theorem low_succ (l:List Nat) (i:Nat):low l (i+1)=low l i+rat l i*10^i:=by
 by_cases h:i<l.length
 ·simp only[low,rat,if_pos h]
  have e:l.length-i=l.length-(i+1)+1:=by omega
  have hk:l.length-(i+1)<l.length:=by omega
  have e2:l.drop (l.length-(i+1))=l[l.length-(i+1)]::l.drop (l.length-i):=by rw[e];exact List.drop_eq_getElem_cons hk
  have e3:l.length-1-i=l.length-(i+1):=by omega
  rw[e2,dv_cons,e3,List.getD_eq_getElem?_getD,List.getElem?_eq_getElem hk,Option.getD_some]
  have:(l.drop (l.length-i)).length=i:=by simp;omega
  rw[this];omega
 ·have h1:l.length≤i:=by omega
  rw[low_all h1,low_all (by omega),rat,if_neg h];simp
theorem rat_le {l:List Nat} (h:AD l) (i:Nat):rat l i≤9:=by
 unfold rat
 split
 ·rename_i hi
  rw[List.getD_eq_getElem?_getD,List.getElem?_eq_getElem (by omega),Option.getD_some]
  exact h _ (List.getElem_mem _)
 ·omega
theorem rat_out {l:List Nat} {i:Nat} (h:l.length≤i):rat l i=0:=by unfold rat;rw[if_neg (by omega)]
theorem dv_part {l r:List Nat} (hl:AD l) (_hr:AD r) (hn:l.length=r.length) (i:Nat) (hi:i<l.length) (hh:l.take i=r.take i) (hd:l.getD i 0<r.getD i 0):dv l<dv r:=by
 have hi':i<r.length:=by omega
 have e1:l=l.take i++l[i]::l.drop (i+1):=by rw[←List.drop_eq_getElem_cons hi,List.take_append_drop]
 have e2:r=r.take i++r[i]::r.drop (i+1):=by rw[←List.drop_eq_getElem_cons hi',List.take_append_drop]
 rw[List.getD_eq_getElem?_getD,List.getElem?_eq_getElem hi,List.getD_eq_getElem?_getD,List.getElem?_eq_getElem hi',Option.getD_some,Option.getD_some] at hd
 rw[e1,e2,hh,dv_append,dv_append,dv_cons,dv_cons]
 have h1:(l.drop (i+1)).length=(r.drop (i+1)).length:=by simp[hn]
 have b1:=dv_lt (hl.drop (i+1))
 rw[List.length_cons,List.length_cons,h1] at*
 have hp:0<10^(r.drop (i+1)).length:=Nat.pow_pos (by decide)
 have hm:(l[i]+1)*10^(r.drop (i+1)).length≤r[i]*10^(r.drop (i+1)).length:=Nat.mul_le_mul_right _ hd
 rw[Nat.add_mul] at hm
 omega
theorem take_eq {l r:List Nat} (hn:l.length=r.length) (i:Nat) (h:∀j,j<i→l.getD j 0=r.getD j 0):l.take i=r.take i:=by
 apply List.ext_getElem?
 intro j
 rw[List.getElem?_take,List.getElem?_take]
 by_cases hj:j<i
 ·rw[if_pos hj,if_pos hj]
  have:=h j hj
  by_cases hl:j<l.length
  ·rw[List.getD_eq_getElem?_getD,List.getElem?_eq_getElem hl,List.getD_eq_getElem?_getD,List.getElem?_eq_getElem (by omega),Option.getD_some,Option.getD_some] at this
   rw[List.getElem?_eq_getElem hl,List.getElem?_eq_getElem (by omega),this]
  ·rw[List.getElem?_eq_none (by omega),List.getElem?_eq_none (by omega)]
 ·rw[if_neg hj,if_neg hj]
theorem getD_pad (l:List Nat) (n j:Nat):(l++List.replicate n 0).getD j 0=l.getD j 0:=by
 simp only[List.getD_eq_getElem?_getD]
 by_cases h:j<l.length
 ·rw[List.getElem?_append_left h]
 ·rw[List.getElem?_append_right (by omega),List.getElem?_eq_none (l:=l) (by omega)]
  by_cases h2:j-l.length<n
  ·rw[List.getElem?_replicate_of_lt h2];rfl
  ·rw[List.getElem?_eq_none (by simp;omega)]
structure Nd (l:List Nat):Prop where
 ad:AD l
 hd:l≠[]→l.getD 0 0≠0
 lt:l≠[]→l.getD (l.length-1) 0≠0
theorem Nd.nil:Nd []:=⟨AD.nil,fun h=>(h rfl).elim,fun h=>(h rfl).elim⟩
theorem Nd.pos {l:List Nat} (h:Nd l) (h0:l≠[]):10^(l.length-1)≤dv l:=by
 cases l with
 |nil=>exact(h0 rfl).elim
 |cons d r=>
  have:=h.hd h0
  simpa using dv_ge (l:=r) (by simpa using this)
theorem Nd.ne {l:List Nat} (h:Nd l) (h0:l≠[]):dv l≠0:=by
 have:=h.pos h0
 have:=Nat.pow_pos (n:=l.length-1) (show 0<10 by decide)
 omega
theorem Nd.mod {l:List Nat} (h:Nd l) (h0:l≠[]):dv l%10≠0:=by
 have e:=List.dropLast_concat_getLast h0
 have hl:=h.lt h0
 have k:l.getD (l.length-1) 0=l.getLast h0:=by
  rw[List.getD_eq_getElem?_getD,List.getLast_eq_getElem,List.getElem?_eq_getElem,Option.getD_some]
 rw[k] at hl
 have hle:=h.ad _ (List.getLast_mem h0)
 rw[←e,dv_snoc]
 omega
theorem larger_len {l r:List Nat} {E F:Nat} (hl:Nd l) (hr:Nd r) (_h0:l≠[]) (h1:r≠[]) (h:l.length+E<r.length+F):dv l*10^E<dv r*10^F:=by
 have a:=dv_lt hl.ad
 have b:=hr.pos h1
 have hp:0<10^E:=Nat.pow_pos (by decide)
 have c:dv l*10^E<10^(l.length+E):=by rw[Nat.pow_add];exact Nat.mul_lt_mul_of_pos_right a hp
 have d:10^(r.length-1+F)≤dv r*10^F:=by rw[Nat.pow_add];exact Nat.mul_le_mul_right _ b
 have hr1:0<r.length:=List.length_pos_iff.2 h1
 have e:10^(l.length+E)≤10^(r.length-1+F):=Nat.pow_le_pow_right (by decide) (by omega)
 omega
theorem larger_part {l r:List Nat} {E F i:Nat} (hl:AD l) (hr:AD r) (h:l.length+E=r.length+F) (hj:∀j,j<i→l.getD j 0=r.getD j 0) (hd:l.getD i 0<r.getD i 0):dv l*10^E<dv r*10^F:=by
 rw[←dv_pad,←dv_pad]
 have hn:(l++List.replicate E 0).length=(r++List.replicate F 0).length:=by simp;omega
 have hi:i<r.length:=by
  rcases Nat.lt_or_ge i r.length with h|h
  ·exact h
  ·rw[List.getD_eq_getElem?_getD (l:=r),List.getElem?_eq_none h] at hd;simp at hd
 exact dv_part (hl.append (AD.zeros _)) (hr.append (AD.zeros _)) hn i (by simp;omega) (take_eq hn i fun j hj'=>by rw[getD_pad,getD_pad];exact hj j hj') (by rw[getD_pad,getD_pad];exact hd)
theorem larger_same {l r:List Nat} {E F:Nat} (h:l.length+E=r.length+F) (hj:∀j,j<l.length∨j<r.length→l.getD j 0=r.getD j 0):dv l*10^E=dv r*10^F:=by
 rw[←dv_pad,←dv_pad]
 congr 1
 have hn:(l++List.replicate E 0).length=(r++List.replicate F 0).length:=by simp;omega
 have:=take_eq hn (l++List.replicate E 0).length (fun j _=>by
  rw[getD_pad,getD_pad]
  by_cases k:j<l.length∨j<r.length
  ·exact hj j k
  ·rw[List.getD_eq_getElem?_getD,List.getD_eq_getElem?_getD,List.getElem?_eq_none (by omega),List.getElem?_eq_none (by omega)])
 rwa [List.take_length,hn,List.take_length] at this
end Dg
namespace Dg
theorem dv_take_succ {l:List Nat} {i:Nat} (h:i<l.length):dv (l.take (i+1))=10*dv (l.take i)+l[i]:=by
 rw[List.take_succ_eq_append_getElem h,dv_snoc]
theorem take_place {l:List Nat} {k:Nat} (h:k<l.length):dv (l.take (k+1))*10^(l.length-(k+1))=dv (l.take k)*10^(l.length-k)+l[k]*10^(l.length-(k+1)):=by
 rw[dv_take_succ h]
 have e:l.length-k=l.length-(k+1)+1:=by omega
 rw[e,Nat.pow_succ,Nat.add_mul,Nat.mul_comm 10,Nat.mul_assoc,Nat.mul_comm 10]
theorem times_place {a b l:List Nat} {i k:Nat} (hi:i<a.length) (hk:k<b.length) (hl:l.length=a.length+b.length+1)
 (h:dv l=dv (a.take i)*10^(a.length-i)*dv b+a[i]*10^(a.length-(i+1))*(dv (b.take k)*10^(b.length-k))) (hp:i+k+2<l.length):
 dv (l.set (i+k+2) (l[i+k+2]+a[i]*b[k]))=dv (a.take i)*10^(a.length-i)*dv b+a[i]*10^(a.length-(i+1))*(dv (b.take (k+1))*10^(b.length-(k+1))):=by
 rw[dv_set hp,h,take_place hk,Nat.mul_add]
 have e:l.length-1-(i+k+2)=(a.length-(i+1))+(b.length-(k+1)):=by omega
 rw[e,Nat.pow_add]
 have:a[i]*b[k]*(10^(a.length-(i+1))*10^(b.length-(k+1)))=a[i]*10^(a.length-(i+1))*(b[k]*10^(b.length-(k+1))):=by
  generalize 10^(a.length-(i+1))=p
  generalize 10^(b.length-(k+1))=q
  rw[Nat.mul_mul_mul_comm]
 rw[this];omega
theorem times_row {a b:List Nat} {i:Nat} (hi:i<a.length):dv (a.take i)*10^(a.length-i)*dv b+a[i]*10^(a.length-(i+1))*(dv (b.take b.length)*10^(b.length-b.length))=dv (a.take (i+1))*10^(a.length-(i+1))*dv b:=by
 rw[take_place hi,List.take_length,Nat.sub_self,Nat.pow_zero,Nat.mul_one,Nat.add_mul]
theorem dv_carry {l:List Nat} {i:Nat} (h0:0<i) (h:i<l.length):
 dv ((l.set (i-1) (l[i-1]'(by omega)+l[i] /10)).set i (l[i] %10))=dv l:=by
 have hp:i-1<l.length:=by omega
 have e1:=dv_set (l:=l) (i:=i-1) (x:=l[i] /10) hp
 have hq:i<(l.set (i-1) (l[i-1]+l[i] /10)).length:=by simpa using h
 have g:(l.set (i-1) (l[i-1]+l[i] /10))[i]=l[i]:=by rw[List.getElem_set_ne (by omega)]
 have hq':i<((l.set (i-1) (l[i-1]+l[i] /10)).set i (l[i] %10)).length:=by simpa using h
 have e2:=dv_set (l:=(l.set (i-1) (l[i-1]+l[i] /10)).set i (l[i] %10)) (i:=i) (x:=10*(l[i] /10)) hq'
 rw[List.getElem_set_self,List.set_set] at e2
 have e3:l[i] %10+10*(l[i] /10)=l[i]:=by omega
 have e4:(l.set (i-1) (l[i-1]+l[i] /10)).set i l[i]=l.set (i-1) (l[i-1]+l[i] /10):=by
  have:=List.set_getElem_self («as»:=l.set (i-1) (l[i-1]+l[i] /10)) hq
  rw[g] at this;exact this
 rw[e3,e4,e1] at e2
 simp only[List.length_set] at e2
 have e5:l.length-1-(i-1)=l.length-1-i+1:=by omega
 rw[e5,Nat.pow_succ] at e2
 have:l[i] /10*(10^(l.length-1-i)*10)=10*(l[i] /10)*10^(l.length-1-i):=by
  rw[Nat.mul_comm (10^_) 10,←Nat.mul_assoc,Nat.mul_comm (l[i] /10) 10]
 omega
theorem up_keep {l:List Nat} {E F keep:Nat} (hl:Nd l) (h0:l≠[]) (hEF:E<F) (hk:keep=l.length+E-F):
 dv l*10^E≤(dv (l.take keep)+1)*10^F∧dv (l.take keep)*10^F<dv l*10^E:=by
 have hp:0<10^E:=Nat.pow_pos (by decide)
 have hF:10^F=10^(F-E)*10^E:=by rw[←Nat.pow_add];congr 1;omega
 rw[hF,←Nat.mul_assoc,←Nat.mul_assoc]
 rcases Nat.lt_or_ge (l.length+E) F with h|h
 ·have:keep=0:=by omega
  subst this
  rw[List.take_zero,dv_nil,Nat.zero_mul,Nat.zero_mul,Nat.zero_add,Nat.one_mul]
  have h1:=dv_lt hl.ad
  have h2:10^l.length≤10^(F-E):=Nat.pow_le_pow_right (by decide) (by omega)
  exact⟨Nat.mul_le_mul_right _ (by omega),Nat.mul_pos (Nat.pos_of_ne_zero (hl.ne h0)) hp⟩
 ·have e:l=l.take keep++l.drop keep:=(List.take_append_drop ..).symm
  have hd:(l.drop keep).length=F-E:=by simp;omega
  have hv:dv l=dv (l.take keep)*10^(F-E)+dv (l.drop keep):=by conv=>lhs;rw[e,dv_append,hd]
  have h1:=dv_lt (hl.ad.drop keep)
  rw[hd] at h1
  have hne:l.drop keep≠[]:=by intro h;rw[h] at hd;simp at hd;omega
  have h2:0<dv (l.drop keep):=by
   have el:=List.dropLast_concat_getLast hne
   rw[←el,dv_snoc]
   have hlast:(l.drop keep).getLast hne=l.getLast h0:=List.getLast_drop hne
   have k:l.getD (l.length-1) 0=l.getLast h0:=by
    rw[List.getD_eq_getElem?_getD,List.getLast_eq_getElem,List.getElem?_eq_getElem,Option.getD_some]
   have:=hl.lt h0
   rw[k] at this
   omega
  rw[hv]
  exact⟨Nat.mul_le_mul_right _ (by rw[Nat.add_mul];omega),(Nat.mul_lt_mul_right hp).2 (by omega)⟩
end Dg
namespace Dg
open Go.Lib
def dch (l:List Nat):List UInt8:=l.map fun d=>UInt8.ofNat (48+d)
theorem decDigits_dg (n:Nat):decDigits n=dch (dg n):=by
 induction n using Nat.strongRecOn with
 |_ n ih=>
  rcases Nat.lt_or_ge n 10 with h|h
  ·rw[decDigits,dif_pos h,dg_small h];rfl
  ·rw[decDigits,dif_neg (by omega),dg_big h,ih (n/10) (by omega)];simp[dch]
theorem itoa_dg (n:Int):itoa n=(if n<0 then [45] else [])++dch (dg n.natAbs):=by
 unfold itoa
 split
 ·rw[decDigits_dg];rfl
 ·rename_i h
  rw[decDigits_dg,show n.toNat=n.natAbs by omega];rfl
def bv (l:List UInt8):Nat:=dv (l.map fun c=>c.toNat-48)
def BD (l:List UInt8):Prop:=∀c,c∈l→48≤c.toNat∧c.toNat≤57
theorem BD.ad {l:List UInt8} (h:BD l):AD (l.map fun c=>c.toNat-48):=by
 intro d hd
 obtain⟨c,hc,rfl⟩:=List.mem_map.1 hd
 have:=h c hc;omega
theorem bv_lt {l:List UInt8} (h:BD l):bv l<10^l.length:=by
 have:=dv_lt h.ad
 simpa [bv] using this
theorem bv_append (l r:List UInt8):bv (l++r)=bv l*10^r.length+bv r:=by
 simp[bv,dv_append]
theorem bv_snoc (l:List UInt8) (c:UInt8):bv (l++[c])=10*bv l+(c.toNat-48):=by
 simp[bv,dv_snoc]
theorem parse_go (M:Nat) (hM:M<2^64) (l:List UInt8) (acc:Nat) (h:BD l) (hb:acc*10^l.length+bv l≤M):parseUintM M acc l=.ok (acc*10^l.length+bv l):=by
 induction l generalizing acc with
 |nil=>simp[parseUintM,bv,dv]
 |cons c r ih=>
  have hc:=h c (List.mem_cons_self ..)
  have e:bv (c::r)=(c.toNat-48)*10^r.length+bv r:=by simp[bv,dv_cons]
  have k:acc*10^(c::r).length+bv (c::r)=(acc*10+(c.toNat-48))*10^r.length+bv r:=by
   rw[e,List.length_cons,Nat.pow_succ,Nat.add_mul,Nat.mul_comm (10^_) 10,←Nat.mul_assoc,Nat.add_assoc]
  rw[k] at hb ⊢
  have hp:0<10^r.length:=Nat.pow_pos (by decide)
  have h1:(acc*10+(c.toNat-48))*1≤(acc*10+(c.toNat-48))*10^r.length:=Nat.mul_le_mul_left _ hp
  have e64:(2:Nat)^64=18446744073709551616:=by decide
  rw[parseUintM,if_pos hc,if_neg (by omega),if_neg (by omega)]
  exact ih _ (fun x hx=>h x (List.mem_cons_of_mem _ hx)) hb
theorem parse_digits {l:List UInt8} (h:BD l) (h0:l≠[]) (hb:bv l<2^63):parseIntB 64 l=.ok (bv l:Int):=by
 cases l with
 |nil=>exact(h0 rfl).elim
 |cons c r=>
  have hc:=h c (List.mem_cons_self ..)
  have e63:(2:Nat)^63=9223372036854775808:=by decide
  have h1:parseUintB 64 (c::r)=.ok (bv (c::r)):=by
   rw[parseUintB,if_neg (by simp)]
   have:=parse_go (2^64-1) (by decide) (c::r) 0 h (by omega)
   simpa using this
  have n1:¬(c.toNat=43∨c.toNat=45):=by omega
  have n2:¬c.toNat=45:=by omega
  simp only[parseIntB,if_neg n1,h1]
  rw[if_neg (fun h=>by have:=h.2;rw[show 64-1=63 from rfl] at this;omega),if_neg (fun h=>n2 h.1),if_neg n2]
def sc (e:Int):Nat:=10^(e+400).toNat
theorem sc_pos (e:Int):0<sc e:=Nat.pow_pos (by decide)
theorem sc_add {e:Int} {k:Nat} (h:-400≤e):sc (e+k)=sc e*10^k:=by
 unfold sc
 rw[←Nat.pow_add];congr 1;omega
structure Cn (V M e:Int):Prop where
 v:V=M*sc e
 three:e%3=0
 m:M%1000≠0
 lo:-400≤e
theorem Cn.unique {V M e M' e':Int} (h:Cn V M e) (k:Cn V M' e'):M=M'∧e=e':=by
 have key:∀{M e M' e':Int},Cn V M e→Cn V M' e'→e≤e':=by
  intro M e M' e' h k
  rcases Int.lt_or_le e' e with hl|hl
  ·exfalso
   obtain⟨n,hn⟩:=Int.eq_ofNat_of_zero_le (show 0≤e-e' by omega)
   have e1:e=e'+n:=by omega
   have h3:=h.three
   have k3:=k.three
   obtain⟨j,hj⟩:∃j:Nat,n=j+3:=⟨n-3,by omega⟩
   have hv:=h.v.symm.trans k.v
   rw[e1,sc_add k.lo,hj,Nat.pow_add] at hv
   have hp:(sc e':Int)≠0:=by have:=sc_pos e';omega
   have:(M*(10^j:Nat)*1000)*(sc e':Int)=M'*sc e':=by
    rw[←hv,Int.natCast_mul,Int.natCast_mul,show ((10^3:Nat):Int)=1000 by decide,Int.mul_comm (sc e':Int),←Int.mul_assoc,←Int.mul_assoc]
   have:=Int.eq_of_mul_eq_mul_right hp this
   have:=k.m
   omega
  ·exact hl
 obtain rfl:e=e':=Int.le_antisymm (key h k) (key k h)
 have hp:(sc e:Int)≠0:=by have:=sc_pos e;omega
 exact⟨Int.eq_of_mul_eq_mul_right hp (h.v.symm.trans k.v),rfl⟩
structure Bn (n m:Int) (k:Nat):Prop where
 v:n=m*1024^k
 m:m%1024≠0
theorem Bn.unique {n m m':Int} {k k':Nat} (h:Bn n m k) (j:Bn n m' k'):m=m'∧k=k':=by
 have key:∀{m m':Int} {k k':Nat},Bn n m k→Bn n m' k'→k≤k':=by
  intro m m' k k' h j
  rcases Nat.lt_or_ge k' k with hl|hl
  ·exfalso
   obtain⟨i,rfl⟩:∃i,k=i+1+k':=⟨k-1-k',by omega⟩
   have hv:=h.v.symm.trans j.v
   rw[Int.pow_add,Int.pow_succ,←Int.mul_assoc] at hv
   have hp:((1024:Int)^k')≠0:=Int.pow_ne_zero (by decide)
   have:=Int.eq_of_mul_eq_mul_right hp hv
   have:=j.m
   rw[←Int.mul_assoc] at*
   omega
  ·exact hl
 obtain rfl:k=k':=Nat.le_antisymm (key h j) (key j h)
 exact⟨Int.eq_of_mul_eq_mul_right (Int.pow_ne_zero (by decide)) (h.v.symm.trans j.v),rfl⟩
end Dg
namespace Dg
theorem sum_step {X Y D c s c' a b p σ:Int} (h:D+c*p=X+σ*Y) (hs:s+10*c'=a+c+σ*b):(s*p+D)+c'*(p*10)=X+a*p+σ*(Y+b*p):=by grind
theorem sum_place {x y out:List Nat} {i s:Nat} {c c' σ:Int} (ho:out.length=i) (h:(dv out:Int)+c*(10^i:Nat)=low x i+σ*low y i) (hs:(s:Int)+10*c'=rat x i+c+σ*rat y i):
 (dv (s::out):Int)+c'*(10^(i+1):Nat)=low x (i+1)+σ*low y (i+1):=by
 rw[dv_cons,ho,low_succ,low_succ,Nat.pow_succ]
 simp only[Int.natCast_add,Int.natCast_mul]
 exact sum_step h hs
theorem sum_end {x y out:List Nat} {i:Nat} {c σ:Int} (h:(dv out:Int)+c*(10^i:Nat)=low x i+σ*low y i) (hx:x.length≤i) (hy:y.length≤i):(dv out:Int)+c*(10^i:Nat)=dv x+σ*dv y:=by
 rwa [low_all hx,low_all hy] at h
theorem sum_less {D p X Y:Nat} {c:Int} (h:(D:Int)+c*(p:Nat)=X+-1*Y) (hD:D<p) (hle:Y≤X) (hc:c=0∨c=-1):c=0:=by
 rcases hc with hc|hc
 ·exact hc
 ·subst hc;omega
theorem up_stay {l:List Nat} {i T:Nat} (hi:i<l.length) (h:dv l+10^(l.length-1-i)=T):dv (l.set i (l[i]+1))=T:=by
 rw[dv_set hi,Nat.one_mul,h]
theorem up_over {l:List Nat} {i T:Nat} (hi:i<l.length) (h0:0<i) (h9:l[i]=9) (h:dv l+10^(l.length-1-i)=T):dv (l.set i 0)+10^(l.length-1-(i-1))=T:=by
 have hi':i<(l.set i 0).length:=by simpa using hi
 have e:=dv_set (l:=l.set i 0) (x:=9) hi'
 rw[List.getElem_set_self,List.set_set,List.length_set] at e
 have e2:l.set i (0+9)=l:=by rw[Nat.zero_add,←h9,List.set_getElem_self]
 rw[e2] at e
 have e3:l.length-1-(i-1)=l.length-1-i+1:=by omega
 rw[e3,Nat.pow_succ];omega
theorem AD.set {l:List Nat} (h:AD l) {i x:Nat} (hx:x≤9):AD (l.set i x):=by
 intro d hd
 rcases List.mem_or_eq_of_mem_set hd with h'|h'
 ·exact h d h'
 ·omega
theorem strip_ends {l m:List Nat} {j k:Nat} (h:l=List.replicate j 0++(m++List.replicate k 0)):dv l=dv m*10^k:=by
 rw[h,dv_strip,dv_pad]
theorem whole_text {l:List Nat} {n:Nat} (h:Nd l) (h0:l≠[]):l++List.replicate n 0=dg (dv l*10^n):=by
 rw[←dv_pad]
 cases l with
 |nil=>exact(h0 rfl).elim
 |cons d r=>exact dg_unique (by simpa using h.hd h0) (h.ad.append (AD.zeros n))
end Dg
namespace Dg
def upA (n p:Nat):Nat:=(n+p-1)/p
theorem upA_eq {n p k:Nat} (_hp:0<p) (h1:k*p<n) (h2:n≤(k+1)*p):upA n p=k+1:=by
 unfold upA
 rw[Nat.add_mul,Nat.one_mul] at h2
 have e1:(k+1)*p≤n+p-1:=by rw[Nat.add_mul,Nat.one_mul];omega
 have e2:n+p-1<(k+1+1)*p:=by rw[Nat.add_mul,Nat.add_mul,Nat.one_mul];omega
 exact Nat.le_antisymm (Nat.lt_succ_iff.1 ((Nat.div_lt_iff_lt_mul (by omega)).2 e2)) ((Nat.le_div_iff_mul_le (by omega)).2 e1)
theorem upA_exact {n p:Nat} (hp:0<p) (h:n%p=0):upA n p=n/p:=by
 rcases Nat.eq_zero_or_pos n with rfl|h0
 ·simp[upA];omega
 ·obtain⟨k,rfl⟩:=Nat.dvd_of_mod_eq_zero h
  rw[Nat.mul_div_cancel_left _ hp]
  have hk:0<k:=Nat.pos_of_mul_pos_left h0
  have:upA (p*k) p=k-1+1:=upA_eq hp (by rw[Nat.mul_comm p k];exact(Nat.mul_lt_mul_right hp).2 (by omega)) (by rw[Nat.mul_comm p k];exact Nat.mul_le_mul_right _ (by omega))
  omega
theorem upA_over {n p:Nat} (hp:0<p) (h:n%p≠0):upA n p=n/p+1:=by
 have e:=Nat.div_add_mod n p
 have hl:=Nat.mod_lt n hp
 refine upA_eq hp ?_ ?_
 ·rw[Nat.mul_comm];omega
 ·rw[Nat.add_mul,Nat.mul_comm (n/p)];omega
def up (V:Int) (p:Nat):Int:=if V<0 then -(upA V.natAbs p:Int) else upA V.natAbs p
theorem up_exact {M:Int} {p:Nat} (hp:0<p):up (M*p) p=M:=by
 unfold up
 have h:(M*p).natAbs%p=0:=by rw[Int.natAbs_mul,Int.natAbs_natCast];exact Nat.mul_mod_left _ _
 rw[upA_exact hp h,Int.natAbs_mul,Int.natAbs_natCast,Nat.mul_div_cancel _ hp]
 have:(M*p<0)↔M<0:=by
  constructor
  ·intro h;rcases Int.lt_or_le M 0 with k|k
   ·exact k
   ·have:=Int.mul_nonneg k (show (0:Int)≤p by omega);omega
  ·intro h;have:=Int.mul_neg_of_neg_of_pos h (show (0:Int)<p by omega);exact this
 split<;>rename_i hh
 ·have:=this.1 hh;omega
 ·have:¬M<0:=fun h=>hh (this.2 h);omega
theorem mul_back {a b c:Int} (hb:b≠0) (hb1:-9223372036854775807≤b) (hb2:b≤9223372036854775807)
 (hm:∃k:Int,c=a*b+k*18446744073709551616) (h:c.tdiv b=a):c=a*b:=by
 obtain⟨k,hk⟩:=hm
 have e:=Int.mul_tdiv_add_tmod c b
 rw[h,Int.mul_comm b a] at e
 have h1:(c.tmod b).natAbs<b.natAbs:=by rw[Int.natAbs_tmod];exact Nat.mod_lt _ (by omega)
 omega
theorem tdiv_cast (m p:Nat):((m:Int)).tdiv (p:Int)=((m/p:Nat):Int):=by
 rw[Int.tdiv_eq_ediv_of_nonneg (by omega)];rfl
end Dg
namespace Dg
open Go.Lib
theorem cn_of {V a e:Int} {j:Nat} (hv:V=a*sc e) (ha:a%10≠0) (hj:j≤2) (h3:(e-j)%3=0) (lo:-400≤e-j):Cn V (a*10^j) (e-j):=by
 refine⟨?_,h3,?_,lo⟩
 ·have:=sc_add (e:=e-j) (k:=j) lo
  rw[show e-j+(j:Int)=e by omega] at this
  rw[hv,this,Int.natCast_mul,Int.mul_assoc,Int.mul_comm (sc (e-j):Int)]
  rfl
 ·have:j=0∨j=1∨j=2:=by omega
  rcases this with rfl|rfl|rfl
  ·simp;omega
  ·rw[show (10:Int)^1=10 by decide];omega
  ·rw[show (10:Int)^2=100 by decide];omega
def sfxD (e:Int):List UInt8:=
 if e=-9 then [110] else if e=-6 then [117] else if e=-3 then [109] else if e=3 then [107] else if e=6 then [77] else if e=9 then [71] else if e=12 then [84] else if e=15 then [80] else if e=18 then [69] else []
def sfxE (e:Int):List UInt8:=if e=0 then [] else 101::itoa e
def sfxB (k:Nat):List UInt8:=
 if k=1 then [75,105] else if k=2 then [77,105] else if k=3 then [71,105] else if k=4 then [84,105] else if k=5 then [80,105] else if k=6 then [69,105] else []
def CanTxt (f:Nat) (V:Int) (t:List UInt8):Prop:=
 (V=0∧t=[48])∨
 (V≠0∧(f≠1∨V.natAbs<1024*sc 0)∧∃M e,Cn V M e∧t=itoa M++if f=0 then sfxE e else sfxD e)∨
 (f=1∧1024*sc 0≤V.natAbs∧∃n m k,V=n*sc 0∧Bn n m k∧t=itoa m++sfxB k)
theorem CanTxt.unique {f:Nat} {V:Int} {t t':List UInt8} (h:CanTxt f V t) (k:CanTxt f V t'):t=t':=by
 have hp:=sc_pos 0
 rcases h with ⟨h1,h2⟩|⟨h1,h2,M,e,h3,h4⟩|⟨h1,h2,n,m,j,h3,h4,h5⟩
 ·rcases k with ⟨k1,k2⟩|⟨k1,k2,M',e',k3,k4⟩|⟨k1,k2,n',m',j',k3,k4,k5⟩
  ·rw[h2,k2]
  ·exact(k1 h1).elim
  ·rw[h1] at k2;simp at k2;omega
 ·rcases k with ⟨k1,k2⟩|⟨k1,k2,M',e',k3,k4⟩|⟨k1,k2,n',m',j',k3,k4,k5⟩
  ·exact(h1 k1).elim
  ·obtain⟨rfl,rfl⟩:=h3.unique k3
   rw[h4,k4]
  ·rcases h2 with h2|h2
   ·exact(h2 k1).elim
   ·omega
 ·rcases k with ⟨k1,k2⟩|⟨k1,k2,M',e',k3,k4⟩|⟨k1,k2,n',m',j',k3,k4,k5⟩
  ·rw[k1] at h2;simp at h2;omega
  ·rcases k2 with k2|k2
   ·exact(k2 h1).elim
   ·omega
  ·have hp':(sc 0:Int)≠0:=by omega
   obtain rfl:n=n':=Int.eq_of_mul_eq_mul_right hp' (h3.symm.trans k3)
   obtain⟨rfl,rfl⟩:=h4.unique k4
   rw[h5,k5]
end Dg
namespace Dg
def nsV (a:Int) (k:Nat):Int:=if a<0 then -((a.natAbs/10^k:Nat):Int) else ((a.natAbs/10^k:Nat):Int)
def nsF (a:Int) (k:Nat):Bool:=decide (a.natAbs%10^k≠0)
theorem nsV_abs (a:Int) (k:Nat):(nsV a k).natAbs=a.natAbs/10^k:=by
 unfold nsV
 generalize a.natAbs/10^k=q
 split<;>omega
theorem nsV_sgn (a:Int) (k:Nat):(a<0→nsV a k≤0)∧(0≤a→0≤nsV a k):=by
 unfold nsV
 generalize a.natAbs/10^k=q
 split<;>omega
theorem nsV_le (a:Int) (k:Nat):(nsV a k).natAbs≤a.natAbs:=by rw[nsV_abs];exact Nat.div_le_self _ _
theorem nsV_zero (a:Int):nsV a 0=a:=by
 have h1:=nsV_abs a 0
 have h2:=nsV_sgn a 0
 rw[Nat.pow_zero,Nat.div_one] at h1
 omega
theorem nsF_zero (a:Int):nsF a 0=false:=by simp[nsF,Nat.mod_one]
theorem nsV_succ (a:Int) (k:Nat):(nsV a k).tdiv 10=nsV a (k+1):=by
 have e:a.natAbs/10^(k+1)=a.natAbs/10^k/10:=by rw[Nat.pow_succ,Nat.div_div_eq_div_mul]
 have h10:(10:Int)=((10:Nat):Int):=rfl
 unfold nsV
 rw[e]
 generalize a.natAbs/10^k=q
 split
 ·rw[Int.neg_tdiv,h10,tdiv_cast]
 ·rw[h10,tdiv_cast]
theorem nsV_mod (a:Int) (k:Nat):((nsV a k).tmod 10 !=0)=decide (a.natAbs/10^k%10≠0):=by
 have h1:((nsV a k).tmod 10).natAbs=a.natAbs/10^k%10:=by
  rw[Int.natAbs_tmod,nsV_abs];rfl
 generalize a.natAbs/10^k%10=q at*
 rw[Bool.eq_iff_iff]
 simp only[bne_iff_ne,decide_eq_true_eq]
 omega
theorem nsF_succ (a:Int) (k:Nat):nsF a (k+1)=(nsF a k ||decide (a.natAbs/10^k%10≠0)):=by
 unfold nsF
 rw[Nat.pow_succ,Nat.mod_mul]
 have hp:0<10^k:=Nat.pow_pos (by decide)
 generalize a.natAbs/10^k%10=q at*
 generalize a.natAbs%10^k=r at*
 rw[Bool.eq_iff_iff]
 simp only[Bool.or_eq_true,decide_eq_true_eq]
 have:10^k*q=0↔q=0:=by
  constructor
  ·intro h;rcases Nat.mul_eq_zero.1 h with h|h
   ·omega
   ·exact h
  ·rintro rfl;rfl
 omega
theorem ns_end (a:Int) (n:Nat):up a (10^n)=if nsF a n then (if 0<a then nsV a n+1 else nsV a n-1) else nsV a n:=by
 have hp:0<10^n:=Nat.pow_pos (by decide)
 unfold up nsF nsV
 by_cases h:a.natAbs%10^n=0
 ·rw[upA_exact hp h,if_neg (c:=decide (a.natAbs%10^n≠0)=true) (by simp[h])]
 ·rw[upA_over hp h,if_pos (c:=decide (a.natAbs%10^n≠0)=true) (by simp[h])]
  have:a≠0:=by rintro rfl;exact h (Nat.zero_mod _)
  generalize a.natAbs/10^n=q
  split<;>split<;>omega
theorem ns_gone {a:Int} {k n:Nat} (hk:k≤n) (h:nsV a k=0):nsV a n=0∧nsF a n=decide (a≠0)∧nsF a k=decide (a≠0):=by
 have hz:a.natAbs/10^k=0:=by rw[←nsV_abs,h];rfl
 have hp:0<10^k:=Nat.pow_pos (by decide)
 have hlt:a.natAbs<10^k:=by
  rcases Nat.lt_or_ge a.natAbs (10^k) with h1|h1
  ·exact h1
  ·have:=Nat.div_pos h1 hp;omega
 have hle:10^k≤10^n:=Nat.pow_le_pow_right (by decide) hk
 have hz2:a.natAbs/10^n=0:=Nat.div_eq_of_lt (by omega)
 refine⟨by have:=nsV_abs a n;omega,?_,?_⟩
 ·unfold nsF;rw[Nat.mod_eq_of_lt (by omega)];simp
 ·unfold nsF;rw[Nat.mod_eq_of_lt hlt];simp
theorem ns_done {a:Int} {k n:Nat} (hk:k≤n) (h:nsV a k=0):up a (10^n)=(if a=0 then 0 else if 0<a then 1 else -1)∧nsF a n=nsF a k∧(nsF a k=true↔a≠0):=by
 obtain⟨h1,h2,h3⟩:=ns_gone hk h
 have:=ns_end a n
 rw[h1,h2] at this
 refine⟨?_,h2.trans h3.symm,by rw[h3];simp⟩
 by_cases h0:a=0
 ·subst h0;simpa using this
 ·rw[this];simp[h0]
theorem nsF_room {a:Int} {n:Nat} (h:nsF a n=true):(nsV a n).natAbs<a.natAbs:=by
 rw[nsV_abs]
 unfold nsF at h
 have h':a.natAbs%10^n≠0:=by simpa using h
 have hp:0<10^n:=Nat.pow_pos (by decide)
 have e:=Nat.div_add_mod a.natAbs (10^n)
 have:a.natAbs/10^n*1≤a.natAbs/10^n*10^n:=Nat.mul_le_mul_left _ hp
 rw[Nat.mul_comm (10^n)] at e
 omega
end Dg
namespace Go.Proofs.YtcpjclakdpjjfaaGreatDoor
open Go.RowKit Dg
def i64 (a:Int):Prop:=-9223372036854775808≤a∧a≤9223372036854775807
def OkRet (w:World) (x:Int) (e:Ending) (w':World):Prop:=∃c ok,e=.returned (.tuple #[.int .i64 c,.bool ok])∧(∃m,w'=w.drewN m)∧(ok=true→c=x)∧i64 c
theorem wrap64_i64 (x:Int):i64 (wrap64 x):=by unfold i64 wrap64;omega
theorem wrap64_ex (x:Int):∃k:Int,wrap64 x=x+k*18446744073709551616:=by
 refine⟨-((x+9223372036854775808)/18446744073709551616),?_⟩
 unfold wrap64;omega
theorem mul_ok {a b:Int} (hb:b≠0) (hb1:-9223372036854775807≤b) (hb2:b≤9223372036854775807) (ha:-9223372036854775807≤a) (h:wrap64 ((wrap64 (a*b)).tdiv b)=a):wrap64 (a*b)=a*b:=by
 obtain⟨k,hk⟩:=wrap64_ex (a*b)
 have hr:=wrap64_i64 (a*b)
 unfold i64 at hr
 generalize wrap64 (a*b)=c at*
 have e:c.tdiv b=a:=by
  have h1:(c.tdiv b).natAbs≤c.natAbs:=by rw[Int.natAbs_tdiv];exact Nat.div_le_self _ _
  unfold wrap64 at h;omega
 exact mul_back hb hb1 hb2 ⟨k,hk⟩ e
theorem OkRet.mk {w:World} {x c:Int} {ok:Bool} (m:Nat) (h:ok=true→c=x) (hc:i64 c):OkRet w x (.returned (.tuple #[.int .i64 c,.bool ok])) (w.drewN m):=⟨c,ok,rfl,⟨m,rfl⟩,h,hc⟩
theorem mul_ok' {a b:Int} (hb:b≠0) (hb1:-9223372036854775807≤b) (hb2:b≤9223372036854775807) (ha:-9223372036854775807≤a):(wrap64 ((wrap64 (a*b)).tdiv b)==a)=true→wrap64 (a*b)=a*b:=
 fun h=>mul_ok hb hb1 hb2 ha (by simpa using h)
theorem OkRet.same {w:World} {x c:Int} {ok:Bool} (h:ok=true→c=x) (hc:i64 c):OkRet w x (.returned (.tuple #[.int .i64 c,.bool ok])) w:=⟨c,ok,rfl,⟨0,rfl⟩,h,hc⟩
theorem OkRet.no {w:World} {x:Int}:OkRet w x (.returned (.tuple #[.int .i64 0,.bool false])) w:=.same (fun h=>by cases h) (by unfold i64;omega)
theorem int64Multiply_calls (a b:Int) (w:World) (ha:i64 a) (hb:i64 b):
 Calls Tryz.prog 62 #[.int .i64 a,.int .i64 b] w (OkRet w (a*b)):=by
 unfold i64 at ha hb
 by_cases h0:a=0∨b=0∨a=1∨b=1
 ·rcases h0 with rfl|rfl|rfl|rfl
  all_goals
   go_enter Tryz.func62,Tryz.ntmps62
   go_wp2_with fail
   all_goals (go_ret2;exact OkRet.same (fun _=>by first|omega|simp_all) (by unfold i64;omega))
 ·have t1:(a==0)=false:=by simp;omega
  have t2:(b==0)=false:=by simp;omega
  have t3:(a==1)=false:=by simp;omega
  have t4:(b==1)=false:=by simp;omega
  by_cases h1:a=-9223372036854775808∨b=-9223372036854775808
  ·rcases h1 with rfl|rfl
   all_goals
    clear h0
    go_enter Tryz.func62,Tryz.ntmps62
    go_wp2_with fail
    all_goals (go_ret2;exact OkRet.no)
  ·have t5:(a==-9223372036854775808)=false:=by simp;omega
   have t6:(b==-9223372036854775808)=false:=by simp;omega
   have t7:¬b=0:=by omega
   have fin:=fun m=>OkRet.mk (w:=w) m (mul_ok' (a:=a) (b:=b) (by omega) (by omega) (by omega) (by omega)) (wrap64_i64 _)
   have FIN:=Lh fin
   clear h1 h0 fin
   go_enter Tryz.func62,Tryz.ntmps62
   go_wp2_with fail
   go_quiet (fail)
   go_wp2_with fail
   go_ret2
   exact FIN.out _
theorem int64Add_calls (a b:Int) (w:World) (ha:i64 a) (hb:i64 b):
 Calls Tryz.prog 136 #[.int .i64 a,.int .i64 b] w (OkRet w (a+b)):=by
 unfold i64 at ha hb
 go_enter Tryz.func136,Tryz.ntmps136
 go_wp2_with fail
 all_goals (go_ret2;first|exact OkRet.no|exact OkRet.same (fun _=>by unfold wrap64 at*;simp at*;omega) (wrap64_i64 _))
theorem int64MultiplyScale_calls (a b:Int) (w:World) (ha:i64 a) (hb0:1<b) (hb:b≤1000000000):
 Calls Tryz.prog 166 #[.int .i64 a,.int .i64 b] w (OkRet w (a*b)):=by
 unfold i64 at ha
 by_cases h0:a=0∨a=1
 ·rcases h0 with rfl|rfl
  all_goals
   go_enter Tryz.func166,Tryz.ntmps166
   go_wp2_with fail
   all_goals (go_ret2;exact OkRet.same (fun _=>by first|omega|simp_all) (by unfold i64;omega))
 ·have t1:(a==0)=false:=by simp;omega
  have t3:(a==1)=false:=by simp;omega
  have t9:(b !=1)=true:=by simp;omega
  by_cases h1:a=-9223372036854775808
  ·subst h1
   clear h0
   go_enter Tryz.func166,Tryz.ntmps166
   go_wp2_with fail
   all_goals (go_ret2;exact OkRet.no)
  ·have t5:(a==-9223372036854775808)=false:=by simp;omega
   have t7:¬b=0:=by omega
   have fin:=fun m=>OkRet.mk (w:=w) m (mul_ok' (a:=a) (b:=b) (by omega) (by omega) (by omega) (by omega)) (wrap64_i64 _)
   have FIN:=Lh fin
   clear h1 h0 fin
   go_enter Tryz.func166,Tryz.ntmps166
   go_wp2_with fail
   go_quiet (fail)
   go_wp2_with fail
   go_ret2
   exact FIN.out _
theorem int64MultiplyScale10_calls (a:Int) (w:World) (ha:i64 a):
 Calls Tryz.prog 128 #[.int .i64 a] w (OkRet w (a*10)):=by
 unfold i64 at ha
 by_cases h0:a=0∨a=1
 ·rcases h0 with rfl|rfl
  all_goals
   go_enter Tryz.func128,Tryz.ntmps128
   go_wp2_with fail
   all_goals (go_ret2;exact OkRet.same (fun _=>by first|omega|simp_all) (by unfold i64;omega))
 ·have t1:(a==0)=false:=by simp;omega
  have t3:(a==1)=false:=by simp;omega
  by_cases h1:a=-9223372036854775808
  ·subst h1
   clear h0
   go_enter Tryz.func128,Tryz.ntmps128
   go_wp2_with fail
   all_goals (go_ret2;exact OkRet.no)
  ·have t5:(a==-9223372036854775808)=false:=by simp;omega
   have fin:=fun m=>OkRet.mk (w:=w) m (mul_ok' (a:=a) (b:=10) (by omega) (by omega) (by omega) (by omega)) (wrap64_i64 _)
   have FIN:=Lh fin
   clear h1 h0 fin
   go_enter Tryz.func128,Tryz.ntmps128
   go_wp2_with fail
   go_ret2
   exact FIN.out 0
theorem int64MultiplyScale100_calls (a:Int) (w:World) (ha:i64 a):
 Calls Tryz.prog 130 #[.int .i64 a] w (OkRet w (a*100)):=by
 unfold i64 at ha
 by_cases h0:a=0∨a=1
 ·rcases h0 with rfl|rfl
  all_goals
   go_enter Tryz.func130,Tryz.ntmps130
   go_wp2_with fail
   all_goals (go_ret2;exact OkRet.same (fun _=>by first|omega|simp_all) (by unfold i64;omega))
 ·have t1:(a==0)=false:=by simp;omega
  have t3:(a==1)=false:=by simp;omega
  by_cases h1:a=-9223372036854775808
  ·subst h1
   clear h0
   go_enter Tryz.func130,Tryz.ntmps130
   go_wp2_with fail
   all_goals (go_ret2;exact OkRet.no)
  ·have t5:(a==-9223372036854775808)=false:=by simp;omega
   have fin:=fun m=>OkRet.mk (w:=w) m (mul_ok' (a:=a) (b:=100) (by omega) (by omega) (by omega) (by omega)) (wrap64_i64 _)
   have FIN:=Lh fin
   clear h1 h0 fin
   go_enter Tryz.func130,Tryz.ntmps130
   go_wp2_with fail
   go_ret2
   exact FIN.out 0
theorem int64MultiplyScale1000_calls (a:Int) (w:World) (ha:i64 a):
 Calls Tryz.prog 165 #[.int .i64 a] w (OkRet w (a*1000)):=by
 unfold i64 at ha
 by_cases h0:a=0∨a=1
 ·rcases h0 with rfl|rfl
  all_goals
   go_enter Tryz.func165,Tryz.ntmps165
   go_wp2_with fail
   all_goals (go_ret2;exact OkRet.same (fun _=>by first|omega|simp_all) (by unfold i64;omega))
 ·have t1:(a==0)=false:=by simp;omega
  have t3:(a==1)=false:=by simp;omega
  by_cases h1:a=-9223372036854775808
  ·subst h1
   clear h0
   go_enter Tryz.func165,Tryz.ntmps165
   go_wp2_with fail
   all_goals (go_ret2;exact OkRet.no)
  ·have t5:(a==-9223372036854775808)=false:=by simp;omega
   have fin:=fun m=>OkRet.mk (w:=w) m (mul_ok' (a:=a) (b:=1000) (by omega) (by omega) (by omega) (by omega)) (wrap64_i64 _)
   have FIN:=Lh fin
   clear h1 h0 fin
   go_enter Tryz.func165,Tryz.ntmps165
   go_wp2_with fail
   go_ret2
   exact FIN.out 0
theorem pow10_calls (n:Nat) (w:World) (hn:n≤18):
 Calls Tryz.prog 164 #[.int .i64 n] w fun e w'=>e=.returned (.int .i64 ((10^n:Nat):Int))∧w=w':=by
 have h:n=0∨n=1∨n=2∨n=3∨n=4∨n=5∨n=6∨n=7∨n=8∨n=9∨n=10∨n=11∨n=12∨n=13∨n=14∨n=15∨n=16∨n=17∨n=18:=by omega
 clear hn
 rcases h with rfl|rfl|rfl|rfl|rfl|rfl|rfl|rfl|rfl|rfl|rfl|rfl|rfl|rfl|rfl|rfl|rfl|rfl|rfl
 all_goals
  go_enter Tryz.func164,Tryz.ntmps164
  go_wp2_with fail
  go_ret
  exact⟨rfl,rfl⟩
theorem OkRet.conv {w w':World} {x:Int} {e:Ending} (h:OkRet w x e w') (m:Nat):OkRet w x e (w'.drewN m):=by
 obtain⟨c,ok,h1,⟨k,rfl⟩,h3,h4⟩:=h
 exact⟨c,ok,h1,⟨k+m,by rw[World.drewN_drewN]⟩,h3,h4⟩
theorem positiveScale_calls (a:Int) (n:Nat) (w:World) (ha:i64 a) (hn:n≤100000):
 Calls Tryz.prog 134 #[.int .i64 a,.int .i32 n] w (OkRet w (a*(10^n:Nat))):=by
 by_cases h:n=0∨n=1∨n=2∨n=3∨n=6∨n=9
 ·rcases h with rfl|rfl|rfl|rfl|rfl|rfl
  ·go_enter Tryz.func134,Tryz.ntmps134
   go_wp2_with fail
   go_ret2
   exact OkRet.same (fun _=>by simp) ha
  all_goals
   go_enter Tryz.func134,Tryz.ntmps134
   go_wp2_with fail
   first
    |refine(int64MultiplyScale10_calls a w ha).mono ?_
    |refine(int64MultiplyScale100_calls a w ha).mono ?_
    |refine(int64MultiplyScale1000_calls a w ha).mono ?_
    |refine(int64MultiplyScale_calls a _ w ha (by omega) (by omega)).mono ?_
   rintro e w' ⟨c,ok,rfl,⟨m,rfl⟩,h1,h2⟩
   have H:=Lh h1
   clear h1
   go_wp2_with fail
   go_ret2
   exact⟨c,ok,rfl,⟨m,rfl⟩,fun h=>by have:=H.out h;simpa using this,h2⟩
 ·have t0:((n:Int)==0)=false:=by simp;omega
  have t1:((n:Int)==1)=false:=by simp;omega
  have t2:((n:Int)==2)=false:=by simp;omega
  have t3:((n:Int)==3)=false:=by simp;omega
  have t6:((n:Int)==6)=false:=by simp;omega
  have t9:((n:Int)==9)=false:=by simp;omega
  clear h
  go_enter Tryz.func134,Tryz.ntmps134
  go_wp2_with fail
  go_loopw [6,7,8] (fun v _ i wr=>∃(k:Nat) (c:Int),k≤n∧i=.int .i32 k∧v=.int .i64 c∧c=a*(10^k:Nat)∧i64 c∧∃m,wr=w.drewN m) (fun _ _ i _=>n-(intOf i).toNat)
  case atStart=>exact⟨0,a,Nat.zero_le _,rfl,rfl,by simp,ha,0,rfl⟩
  case round=>
   obtain⟨k,c,hk,rfl,rfl,hc,hc2,m,rfl⟩:=hrel
   have HC:=Lh hc
   clear hc
   by_cases hlt:k<n
   ·go_wp2_with fail
    refine(int64MultiplyScale_calls c 10 _ hc2 (by omega) (by omega)).mono ?_
    rintro e w' ⟨c',ok,rfl,⟨m',rfl⟩,h1,h2⟩
    cases ok
    ·clear h1
     go_wp2_with fail
     go_ret2
     exact⟨_,_,rfl,⟨m+m',by first|rfl|rw[World.drewN_drewN]⟩,(fun h=>by cases h),by unfold i64;omega⟩
    ·have H:=Lh (h1 rfl)
     clear h1
     go_wp2_with fail
     go_roundw
     case rel=>exact⟨k+1,c',by omega,by go_num,rfl,by rw[H.out,HC.out,Nat.pow_succ,Int.natCast_mul,Int.mul_assoc];rfl,h2,m+m',by first|rfl|rw[World.drewN_drewN]⟩
     case measure=>simp[intOf];omega
   ·have e:k=n:=by omega
    go_wp2_with fail
    go_ret2
    exact⟨c,_,rfl,⟨m,rfl⟩,fun _=>by rw[HC.out,e],hc2⟩
def NsRet (a:Int) (n:Nat) (w:World) (e:Ending) (w':World):Prop:=e=.returned (.tuple #[.int .i64 (up a (10^n)),.bool (!nsF a n)])∧w=w'
theorem negativeScale_calls (a:Int) (n:Nat) (w:World) (ha:i64 a) (hn:n≤100000):
 Calls Tryz.prog 132 #[.int .i64 a,.int .i32 n] w (NsRet a n w):=by
 by_cases h0:n=0
 ·subst h0
  go_enter Tryz.func132,Tryz.ntmps132
  go_wp2_with fail
  go_ret2
  refine⟨?_,rfl⟩
  have e:up a (10^0)=a:=by
   have:=up_exact (M:=a) (p:=1) (by decide)
   simpa using this
  have e2:nsF a 0=false:=by simp[nsF,Nat.mod_one]
  rw[e,e2];rfl
 ·have t0:((n:Int)==0)=false:=by simp;omega
  have s0:=nsV_zero a
  have s1:=nsF_zero a
  go_enter Tryz.func132,Tryz.ntmps132
  go_wp2_with fail
  go_loop [6,7,8] (fun v f i=>∃k:Nat,k≤n∧i=.int .i32 k∧v=.int .i64 (nsV a k)∧f=.bool (nsF a k)) (fun _ _ i=>n-(intOf i).toNat)
  case atStart=>exact⟨0,Nat.zero_le _,rfl,by rw[s0],by rw[s1]⟩
  case round=>
   obtain⟨k,hk,rfl,rfl,rfl⟩:=hrel
   clear s0 s1
   by_cases hlt:k<n
   ·have g1:wrap64 ((nsV a k).tdiv 10)=nsV a (k+1):=by
     rw[nsV_succ]
     have:=nsV_le a (k+1)
     have:=nsV_sgn a (k+1)
     unfold wrap64 i64 at*;omega
    have g2:=nsV_mod a k
    have g3:=nsF_succ a k
    have hz:=fun h=>ns_done (a:=a) (k:=k+1) (n:=n) (by omega) h
    generalize hd:decide (a.natAbs/10^k%10≠0)=d at*
    generalize hc:nsV a k=c at*
    generalize hc1:nsV a (k+1)=c1 at*
    generalize hf:nsF a k=f at*
    generalize hf1:nsF a (k+1)=f1 at*
    have HH:=Lh (Aj hz (Aj hf1 (Aj hc1 g3)))
    clear hz hc hf hf1 hc1 hd g3
    by_cases hz1:c1=0
    ·subst hz1
     obtain⟨e1,e2,e3⟩:=HH.out.1 rfl
     have fin:NsRet a n w (.returned (.tuple #[.int .i64 (if a=0 then 0 else if 0<a then 1 else -1),.bool (!f1)])) w:=⟨by rw[e1,e2],rfl⟩
     have hg3:=HH.out.2.2.2
     have FIN:=Lh (Aj fin (Aj e3 hg3))
     clear fin e1 e2 e3 hg3
     by_cases ha0:a=0
     ·subst ha0
      have hf0:f1=false:=by have:=FIN.out.2.1;cases f1<;>simp at this ⊢
      subst hf0
      have hg3:=FIN.out.2.2
      cases f<;>cases d<;>(try cases hg3)
      all_goals
       try clear hg3
       go_wp2_with fail
       go_ret2
       exact FIN.out.1
     ·have hf0:f1=true:=FIN.out.2.1.2 ha0
      subst hf0
      have hg3:=FIN.out.2.2
      by_cases hp:0<a
      all_goals
       have hr:=FIN.out.1
       first|rw[if_neg ha0,if_pos hp] at hr|rw[if_neg ha0,if_neg hp] at hr
       have HR:=Lh hr
       cases f<;>cases d<;>(try cases hg3)
       all_goals
        try clear hg3
        clear hr
        go_wp2_with fail
        go_ret2
        exact HR.out
    ·have tz:(c1==0)=false:=by simpa using hz1
     cases f<;>cases d
     all_goals
      go_wp2_with fail
      go_round
      case rel=>exact⟨k+1,by omega,by go_num,by rw[g1,HH.out.2.2.1],by rw[HH.out.2.1,HH.out.2.2.2];rfl⟩
      case measure=>simp[intOf];omega
   ·obtain rfl:k=n:=by omega
    have hend:=ns_end a k
    have hF:nsF a k=true→-9223372036854775808<nsV a k∧nsV a k<9223372036854775807:=fun h=>by
     have:=nsF_room h
     have:=nsV_sgn a k
     unfold i64 at ha;omega
    generalize hc:nsV a k=c at*
    generalize hf:nsF a k=f at*
    have HH:=Lh (Aj hend (Aj hc hf))
    clear hend hc hf
    cases f
    ·clear hF
     go_wp2_with fail
     go_ret2
     exact⟨by rw[HH.out.1,HH.out.2.2];rfl,rfl⟩
    ·obtain⟨r1,r2⟩:=hF rfl
     clear hF
     have he:=HH.out.1
     rw[if_pos rfl] at he
     by_cases hp:0<a
     all_goals
      first|rw[if_pos hp] at he|rw[if_neg hp] at he
      have HE:=Lh he
      clear he
      go_wp2_with fail
      go_ret2
      exact⟨by rw[HE.out,HH.out.2.2];rfl,rfl⟩
end Go.Proofs.YtcpjclakdpjjfaaGreatDoor
namespace Go.Proofs.YtcpjclakdpjjfaaGreatDoor
open Go.RowKit Wd Dg
def DvRet (a:Int) (n:Nat) (w:World) (e:Ending) (w':World):Prop:=
 (∃m,w'=w.drewN m)∧((n<18∧e=.returned (.tuple #[.int .i64 (a.tdiv (10^n:Nat)),.int .i64 (a.tmod (10^n:Nat)),.bool true]))∨(18≤n∧e=.returned (.tuple #[.int .i64 0,.int .i64 a,.bool false])))
theorem divByScale_calls (a:Int) (n:Nat) (w:World) (ha:i64 a) (hn:n≤100000):Calls Tryz.prog 133 #[.int .i64 a,.int .i32 n] w (DvRet a n w):=by
 rcases Nat.eq_zero_or_pos n with rfl|h0
 ·go_enter Tryz.func133,Tryz.ntmps133
  go_wp2_with fail
  go_ret3
  exact⟨⟨0,rfl⟩,.inl ⟨by decide,by simp[Int.tmod_one]⟩⟩
 ·have t0:((n:Int)==0)=false:=by simp;omega
  rcases Nat.lt_or_ge n 18 with h18|h18
  ·have t1:decide ((18:Int)≤(n:Int))=false:=by simp;omega
   obtain⟨T,hT⟩:∃T,T=10^n:=⟨_,rfl⟩
   have hTp:0<T:=by rw[hT];exact Nat.pow_pos (by decide)
   have PW:=pow10_calls n w (by omega)
   have hq:wrap64 (a.tdiv (T:Int))=a.tdiv (T:Int):=by
    unfold i64 at ha
    rcases Int.lt_or_le a 0 with h|h
    ·obtain⟨m,rfl⟩:∃m:Nat,a=-(m:Int):=⟨a.natAbs,by omega⟩
     rw[Int.neg_tdiv,tdiv_cast]
     have:=Nat.div_le_self m T
     generalize m/T=q at*
     unfold wrap64;omega
    ·obtain⟨m,rfl⟩:∃m:Nat,a=(m:Int):=⟨a.natAbs,by omega⟩
     rw[tdiv_cast]
     have:=Nat.div_le_self m T
     generalize m/T=q at*
     unfold wrap64;omega
   rw[←hT] at PW
   have t2:((T:Int)==0)=false:=by simp;omega
   generalize hQ:a.tdiv (T:Int)=Q at*
   generalize hR:a.tmod (T:Int)=R at*
   have HP:=Lh PW
   have HF:DvRet a n w (.returned (.tuple #[.int .i64 Q,.int .i64 R,.bool true])) w:=⟨⟨0,rfl⟩,.inl ⟨h18,by rw[←hT,hQ,hR]⟩⟩
   have HF2:=Lh (fun m=>(show DvRet a n w (.returned (.tuple #[.int .i64 Q,.int .i64 R,.bool true])) (w.drewN m) from ⟨⟨m,rfl⟩,HF.2⟩))
   clear PW hT HF h18
   go_enter Tryz.func133,Tryz.ntmps133
   go_wp2_with fail
   refine HP.out.mono ?_
   rintro e w' ⟨rfl,rfl⟩
   go_wp2_with fail
   go_quiet (fail)
   go_wp2_with fail
   try simp only[hq]
   go_ret3
   exact HF2.out _
  ·have t1:decide ((18:Int)≤(n:Int))=true:=by simp;omega
   go_enter Tryz.func133,Tryz.ntmps133
   go_wp2_with fail
   go_ret3
   exact⟨⟨0,rfl⟩,.inr ⟨h18,rfl⟩⟩
def RfRet (a:Int) (bs:Nat) (w:World) (e:Ending) (w':World):Prop:=
 ∃(r:Int) (t:Nat),e=.returned (.tuple #[.int .i64 r,.int .i32 t])∧w=w'∧a=r*(bs^t:Nat)∧(a≠0→r%(bs:Int)≠0)∧t≤64∧i64 r
theorem rf_bound {k r bs t:Nat} (hb:2≤bs) (h:k=r*bs^t) (hr:0<r) (hk:k≤9223372036854775808):t≤63:=by
 rcases Nat.lt_or_ge 63 t with h1|h1
 ·exfalso
  have h2:2^64≤bs^t:=Nat.le_trans (Nat.pow_le_pow_left hb 64) (Nat.pow_le_pow_right (by omega) h1)
  have h3:bs^t≤r*bs^t:=Nat.le_mul_of_pos_left _ hr
  have h4:(2:Nat)^64=18446744073709551616:=by decide
  omega
 ·exact h1
structure RfSt (k bs r t:Nat):Prop where
 e:k=r*bs^t
 le:t≤63
theorem RfSt.start (k bs:Nat):RfSt k bs k 0:=⟨by simp,by omega⟩
theorem RfSt.rk {k bs r t:Nat} (h:RfSt k bs r t) (hb:2≤bs):r≤k:=by rw[h.e];exact Nat.le_mul_of_pos_right _ (Nat.pow_pos (by omega))
theorem wrap64_neg {r:Nat} (h:r≤9223372036854775807):wrap64 (-(r:Int))=-(r:Int):=by unfold wrap64;omega
theorem wrap64_of {x y:Int} (h:x=y) (h1:0≤y) (h2:y≤9223372036854775807):wrap64 x=y:=by unfold wrap64;omega
theorem rf_fin {a:Int} {bs k:Nat} (hk:k=a.natAbs) (ha:i64 a) (hmin:a≠-9223372036854775808) (w:World) (r t:Nat) (r':Int) (hbs:2≤bs) (hst:RfSt k bs r t) (h2:r'=(if a<0 then -(r:Int) else r)) (h3:k≠0→r%bs≠0):
 RfRet a bs w (.returned (.tuple #[.int .i64 r',.int .i32 t])) w:=by
 obtain⟨h1,ht⟩:=hst
 have hk63:k≤9223372036854775807:=by unfold i64 at ha;omega
 have hr:r≤k:=by rw[h1];exact Nat.le_mul_of_pos_right _ (Nat.pow_pos (by omega))
 refine⟨r',t,rfl,rfl,?_,?_,by omega,?_⟩
 ·have:(k:Int)=(r:Int)*(bs^t:Nat):=by rw[h1,Int.natCast_mul]
  rw[h2]
  split
  ·rw[Int.neg_mul,←this];omega
  ·rw[←this];omega
 ·intro h
  have h4:=h3 (by omega)
  rw[h2]
  split
  ·intro h5
   have h6:=Int.emod_emod_of_dvd (r:Int) (Int.dvd_refl (bs:Int))
   have h7:(bs:Int)∣-(r:Int):=Int.dvd_of_emod_eq_zero h5
   have h8:(bs:Int)∣(r:Int):=(Int.dvd_neg).1 h7
   exact h4 (Nat.mod_eq_zero_of_dvd (Int.natCast_dvd_natCast.1 h8))
  ·intro h5
   exact h4 (by exact_mod_cast h5)
 ·unfold i64;rw[h2];split<;>omega
theorem rf_step {k r bs t:Nat} (hbs:2≤bs) (hk:k≤9223372036854775807) (hst:RfSt k bs r t) (hr:bs≤r) (h0:r%bs=0):
 RfSt k bs (r/bs) (t+1)∧t+1≤63∧wrap64 ((r:Int)/bs)=((r/bs:Nat):Int)∧r/bs<r:=by
 obtain⟨h1,ht⟩:=hst
 have hd:r/bs*bs=r:=Nat.div_mul_cancel (Nat.dvd_of_mod_eq_zero h0)
 have e:k=r/bs*bs^(t+1):=by rw[Nat.pow_succ,Nat.mul_comm (bs^t),←Nat.mul_assoc,hd];exact h1
 have hp:0<r/bs:=Nat.div_pos hr (by omega)
 have hl:r/bs<r:=Nat.div_lt_self (by omega) hbs
 have hrk:r≤k:=by rw[h1];exact Nat.le_mul_of_pos_right _ (Nat.pow_pos (by omega))
 refine⟨⟨e,rf_bound hbs e hp (by omega)⟩,rf_bound hbs e hp (by omega),?_,hl⟩
 rw[←Int.natCast_ediv]
 unfold wrap64;omega
theorem rm10_calls (a:Int) (w:World) (ha:i64 a) (hmin:a≠-9223372036854775808):Calls Tryz.prog 127 #[.int .i64 a,.int .i64 10] w (RfRet a 10 w):=by
 obtain⟨k,hk⟩:∃k:Nat,k=a.natAbs:=⟨_,rfl⟩
 have hk63:k≤9223372036854775807:=by unfold i64 at ha;omega
 by_cases hneg:a<0
 ·have t0:decide (a<0)=true:=by simpa using hneg
  have tn:wrap64 (-a)=(k:Int):=wrap64_of (by omega) (by omega) (by omega)
  have HF:=Lh (fun(r t:Nat) (r':Int)=>rf_fin (bs:=10) hk ha hmin w r t r')
  have HK:=Lh (Aj hk (Aj ha (Aj hmin hk63)))
  clear hk ha hmin hk63
  go_enter Tryz.func127,Tryz.ntmps127
  go_wp2_with fail
  go_loop [4,5] (fun x y=>∃r t:Nat,x=.int .i64 r∧y=.int .i32 t∧RfSt k 10 r t) (fun x _=>(intOf x).toNat)
  case atStart=>exact⟨k,0,by first|rfl|rw[tn],rfl,.start _ _⟩
  case round=>
   obtain⟨r,t,rfl,rfl,hkr⟩:=hrel
   have hrk:r≤k:=hkr.rk (by decide)
   have hk63:=HK.out.2.2.2
   by_cases h1:10≤r
   ·have u1:decide ((10:Int)≤(r:Int))=true:=by simp;omega
    by_cases h2:r%10=0
    ·have u2:((r:Int)%10==0)=true:=by simp;omega
     obtain⟨k1,k2,k3,k4⟩:=rf_step (by decide) hk63 hkr h1 h2
     have HS:=Lh (Aj k1 (Aj k2 k4))
     have k3:wrap64 ((r:Int)/10)=((r/10:Nat):Int):=k3
     generalize r/10=r2 at*
     clear k1 k4 hkr h1 h2 hrk hk63
     go_wp2_with fail
     go_round
     case rel=>exact⟨r2,t+1,by first|rfl|rw[k3],by go_num,HS.out.1⟩
     case measure=>rw[k3];simpa [intOf] using HS.out.2.2
    ·have u2:((r:Int)%10==0)=false:=by simp;omega
     have u3:wrap64 (-(r:Int))=-(r:Int):=wrap64_neg (by omega)
     have HX:=Lh (Aj hkr h2)
     clear hkr hrk hk63 h2
     go_wp2_with fail
     go_ret2
     exact HF.out r t _ (by decide) HX.out.1 (by first|rw[if_pos hneg]|(rw[if_pos hneg];exact u3)) (fun _=>HX.out.2)
   ·have u1:decide ((10:Int)≤(r:Int))=false:=by simp;omega
    have u3:wrap64 (-(r:Int))=-(r:Int):=wrap64_neg (by omega)
    have h2:k≠0→r%10≠0:=fun h=>by
     rcases Nat.eq_zero_or_pos r with rfl|h3
     ·have h5:=hkr.e;rw[Nat.zero_mul] at h5;exact absurd h5 h
     ·rw[Nat.mod_eq_of_lt (by omega)];omega
    have HX:=Lh (Aj hkr h2)
    clear hkr hrk hk63 h2
    go_wp2_with fail
    go_ret2
    exact HF.out r t _ (by decide) HX.out.1 (by first|rw[if_pos hneg]|(rw[if_pos hneg];exact u3)) HX.out.2
 ·obtain rfl:a=(k:Int):=by omega
  have t0:decide ((k:Int)<0)=false:=by simp
  have HF:=Lh (fun(r t:Nat) (r':Int)=>rf_fin (bs:=10) hk ha hmin w r t r')
  have HK:=Lh (Aj hk (Aj ha (Aj hmin hk63)))
  clear hk ha hmin hk63
  go_enter Tryz.func127,Tryz.ntmps127
  go_wp2_with fail
  go_loop [4,5] (fun x y=>∃r t:Nat,x=.int .i64 r∧y=.int .i32 t∧RfSt k 10 r t) (fun x _=>(intOf x).toNat)
  case atStart=>exact⟨k,0,by first|rfl|rw[tn],rfl,.start _ _⟩
  case round=>
   obtain⟨r,t,rfl,rfl,hkr⟩:=hrel
   have hrk:r≤k:=hkr.rk (by decide)
   have hk63:=HK.out.2.2.2
   by_cases h1:10≤r
   ·have u1:decide ((10:Int)≤(r:Int))=true:=by simp;omega
    by_cases h2:r%10=0
    ·have u2:((r:Int)%10==0)=true:=by simp;omega
     obtain⟨k1,k2,k3,k4⟩:=rf_step (by decide) hk63 hkr h1 h2
     have HS:=Lh (Aj k1 (Aj k2 k4))
     have k3:wrap64 ((r:Int)/10)=((r/10:Nat):Int):=k3
     generalize r/10=r2 at*
     clear k1 k4 hkr h1 h2 hrk hk63
     go_wp2_with fail
     go_round
     case rel=>exact⟨r2,t+1,by first|rfl|rw[k3],by go_num,HS.out.1⟩
     case measure=>rw[k3];simpa [intOf] using HS.out.2.2
    ·have u2:((r:Int)%10==0)=false:=by simp;omega
     have u3:wrap64 (-(r:Int))=-(r:Int):=wrap64_neg (by omega)
     have HX:=Lh (Aj hkr h2)
     clear hkr hrk hk63 h2
     go_wp2_with fail
     go_ret2
     exact HF.out r t _ (by decide) HX.out.1 (by first|rw[if_neg (by omega)]|(rw[if_neg (by omega)];exact u3)) (fun _=>HX.out.2)
   ·have u1:decide ((10:Int)≤(r:Int))=false:=by simp;omega
    have u3:wrap64 (-(r:Int))=-(r:Int):=wrap64_neg (by omega)
    have h2:k≠0→r%10≠0:=fun h=>by
     rcases Nat.eq_zero_or_pos r with rfl|h3
     ·have h5:=hkr.e;rw[Nat.zero_mul] at h5;exact absurd h5 h
     ·rw[Nat.mod_eq_of_lt (by omega)];omega
    have HX:=Lh (Aj hkr h2)
    clear hkr hrk hk63 h2
    go_wp2_with fail
    go_ret2
    exact HF.out r t _ (by decide) HX.out.1 (by first|rw[if_neg (by omega)]|(rw[if_neg (by omega)];exact u3)) HX.out.2
theorem rm1024_calls (a:Int) (w:World) (ha:i64 a) (hmin:a≠-9223372036854775808):Calls Tryz.prog 127 #[.int .i64 a,.int .i64 1024] w (RfRet a 1024 w):=by
 obtain⟨k,hk⟩:∃k:Nat,k=a.natAbs:=⟨_,rfl⟩
 have hk63:k≤9223372036854775807:=by unfold i64 at ha;omega
 by_cases hneg:a<0
 ·have t0:decide (a<0)=true:=by simpa using hneg
  have tn:wrap64 (-a)=(k:Int):=wrap64_of (by omega) (by omega) (by omega)
  have HF:=Lh (fun(r t:Nat) (r':Int)=>rf_fin (bs:=1024) hk ha hmin w r t r')
  have HK:=Lh (Aj hk (Aj ha (Aj hmin hk63)))
  clear hk ha hmin hk63
  go_enter Tryz.func127,Tryz.ntmps127
  go_wp2_with fail
  go_loop [4,5] (fun x y=>∃r t:Nat,x=.int .i64 r∧y=.int .i32 t∧RfSt k 1024 r t) (fun x _=>(intOf x).toNat)
  case atStart=>exact⟨k,0,by first|rfl|rw[tn],rfl,.start _ _⟩
  case round=>
   obtain⟨r,t,rfl,rfl,hkr⟩:=hrel
   have hrk:r≤k:=hkr.rk (by decide)
   have hk63:=HK.out.2.2.2
   by_cases h1:1024≤r
   ·have u1:decide ((1024:Int)≤(r:Int))=true:=by simp;omega
    by_cases h2:r%1024=0
    ·have u2:((r:Int)%1024==0)=true:=by simp;omega
     obtain⟨k1,k2,k3,k4⟩:=rf_step (by decide) hk63 hkr h1 h2
     have HS:=Lh (Aj k1 (Aj k2 k4))
     have k3:wrap64 ((r:Int)/1024)=((r/1024:Nat):Int):=k3
     generalize r/1024=r2 at*
     clear k1 k4 hkr h1 h2 hrk hk63
     go_wp2_with fail
     go_round
     case rel=>exact⟨r2,t+1,by first|rfl|rw[k3],by go_num,HS.out.1⟩
     case measure=>rw[k3];simpa [intOf] using HS.out.2.2
    ·have u2:((r:Int)%1024==0)=false:=by simp;omega
     have u3:wrap64 (-(r:Int))=-(r:Int):=wrap64_neg (by omega)
     have HX:=Lh (Aj hkr h2)
     clear hkr hrk hk63 h2
     go_wp2_with fail
     go_ret2
     exact HF.out r t _ (by decide) HX.out.1 (by first|rw[if_pos hneg]|(rw[if_pos hneg];exact u3)) (fun _=>HX.out.2)
   ·have u1:decide ((1024:Int)≤(r:Int))=false:=by simp;omega
    have u3:wrap64 (-(r:Int))=-(r:Int):=wrap64_neg (by omega)
    have h2:k≠0→r%1024≠0:=fun h=>by
     rcases Nat.eq_zero_or_pos r with rfl|h3
     ·have h5:=hkr.e;rw[Nat.zero_mul] at h5;exact absurd h5 h
     ·rw[Nat.mod_eq_of_lt (by omega)];omega
    have HX:=Lh (Aj hkr h2)
    clear hkr hrk hk63 h2
    go_wp2_with fail
    go_ret2
    exact HF.out r t _ (by decide) HX.out.1 (by first|rw[if_pos hneg]|(rw[if_pos hneg];exact u3)) HX.out.2
 ·obtain rfl:a=(k:Int):=by omega
  have t0:decide ((k:Int)<0)=false:=by simp
  have HF:=Lh (fun(r t:Nat) (r':Int)=>rf_fin (bs:=1024) hk ha hmin w r t r')
  have HK:=Lh (Aj hk (Aj ha (Aj hmin hk63)))
  clear hk ha hmin hk63
  go_enter Tryz.func127,Tryz.ntmps127
  go_wp2_with fail
  go_loop [4,5] (fun x y=>∃r t:Nat,x=.int .i64 r∧y=.int .i32 t∧RfSt k 1024 r t) (fun x _=>(intOf x).toNat)
  case atStart=>exact⟨k,0,by first|rfl|rw[tn],rfl,.start _ _⟩
  case round=>
   obtain⟨r,t,rfl,rfl,hkr⟩:=hrel
   have hrk:r≤k:=hkr.rk (by decide)
   have hk63:=HK.out.2.2.2
   by_cases h1:1024≤r
   ·have u1:decide ((1024:Int)≤(r:Int))=true:=by simp;omega
    by_cases h2:r%1024=0
    ·have u2:((r:Int)%1024==0)=true:=by simp;omega
     obtain⟨k1,k2,k3,k4⟩:=rf_step (by decide) hk63 hkr h1 h2
     have HS:=Lh (Aj k1 (Aj k2 k4))
     have k3:wrap64 ((r:Int)/1024)=((r/1024:Nat):Int):=k3
     generalize r/1024=r2 at*
     clear k1 k4 hkr h1 h2 hrk hk63
     go_wp2_with fail
     go_round
     case rel=>exact⟨r2,t+1,by first|rfl|rw[k3],by go_num,HS.out.1⟩
     case measure=>rw[k3];simpa [intOf] using HS.out.2.2
    ·have u2:((r:Int)%1024==0)=false:=by simp;omega
     have u3:wrap64 (-(r:Int))=-(r:Int):=wrap64_neg (by omega)
     have HX:=Lh (Aj hkr h2)
     clear hkr hrk hk63 h2
     go_wp2_with fail
     go_ret2
     exact HF.out r t _ (by decide) HX.out.1 (by first|rw[if_neg (by omega)]|(rw[if_neg (by omega)];exact u3)) (fun _=>HX.out.2)
   ·have u1:decide ((1024:Int)≤(r:Int))=false:=by simp;omega
    have u3:wrap64 (-(r:Int))=-(r:Int):=wrap64_neg (by omega)
    have h2:k≠0→r%1024≠0:=fun h=>by
     rcases Nat.eq_zero_or_pos r with rfl|h3
     ·have h5:=hkr.e;rw[Nat.zero_mul] at h5;exact absurd h5 h
     ·rw[Nat.mod_eq_of_lt (by omega)];omega
    have HX:=Lh (Aj hkr h2)
    clear hkr hrk hk63 h2
    go_wp2_with fail
    go_ret2
    exact HF.out r t _ (by decide) HX.out.1 (by first|rw[if_neg (by omega)]|(rw[if_neg (by omega)];exact u3)) HX.out.2
theorem rmMin_calls (w:World):Calls Tryz.prog 127 #[.int .i64 (-9223372036854775808),.int .i64 10] w (RfRet (-9223372036854775808) 10 w):=by
 have t1:wrap64 9223372036854775808=-9223372036854775808:=by unfold wrap64;omega
 go_enter Tryz.func127,Tryz.ntmps127
 go_wp2_with fail
 go_loop [4,5] (fun x t=>∃m:Int,x=.int .i64 m∧m=-9223372036854775808∧t=.int .i32 0) (fun _ _=>0)
 case atStart=>exact⟨_,rfl,by first|rfl|exact t1,rfl⟩
 case round=>
  obtain⟨m,rfl,rfl,rfl⟩:=hrel
  go_wp2_with fail
  go_ret2
  exact⟨_,0,rfl,rfl,by first|decide|(rw[t1];decide),by first|decide|(rw[t1];decide),by decide,by first|(unfold i64;omega)|(rw[t1];unfold i64;omega)⟩
theorem rmI_calls (a:Int) (w:World) (ha:i64 a):Calls Tryz.prog 127 #[.int .i64 a,.int .i64 10] w (RfRet a 10 w):=by
 by_cases h:a=-9223372036854775808
 ·subst h;exact rmMin_calls w
 ·exact rm10_calls a w ha h
end Go.Proofs.YtcpjclakdpjjfaaGreatDoor
