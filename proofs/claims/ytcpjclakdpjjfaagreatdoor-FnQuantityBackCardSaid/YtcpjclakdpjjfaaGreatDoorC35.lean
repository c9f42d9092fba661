/- A word as the parser sees it: places and bytes; plain. -/
import Derived.Test.YtcpjclakdpjjfaaGreatDoorC10
import Derived.Test.YtcpjclakdpjjfaaGreatDoorC01
import Derived.Test.YtcpjclakdpjjfaaGreatDoorC34
import Derived.Test.YtcpjclakdpjjfaaGreatDoorC33
import Derived.Deep.RegionHeld3
import Derived.Deep.RegionLaw
import Derived.Deep.CutRange
import Derived.Handy
import Derived.Laws.RangeString
import Derived.Lib.OthersKept
import Derived.Deep.LoopGhost
import Derived.LoopTactic
set_option maxHeartbeats 6400000
set_option maxRecDepth 20000
namespace Go.Proofs.YtcpjclakdpjjfaaGreatDoor
open Go.RowKit Wd Dg
def letters:List UInt8:=[101,69,105,110,117,109,107,75,77,71,84,80]
def Dgt (c:UInt8):Prop:=48≤c.toNat∧c.toNat≤57
theorem mid {s:ByteArray} {X Y Z:List UInt8} (h:s.data.toList=X++(Y++Z)) {i:Nat} (hi:i<s.size) (h1:X.length≤i) (h2:i<X.length+Y.length):(s[i]'hi)∈Y:=by
 have hl:i<s.data.toList.length:=hi
 have e:s[i]'hi=s.data.toList[i]'hl:=rfl
 rw[e,List.getElem_of_eq h,List.getElem_append_right h1,List.getElem_append_left (by omega)]
 exact List.getElem_mem _
theorem ext_mid {s:ByteArray} {X Y Z:List UInt8} (h:s.data.toList=X++(Y++Z)) {a b:Nat} (ha:a=X.length) (hb:b=X.length+Y.length):(s.extract a b).data.toList=Y:=by
 rw[ByteArray.data_extract,Array.toList_extract,h,List.extract_eq_take_drop,ha,hb,List.drop_left,show X.length+Y.length-X.length=Y.length by omega,List.take_left]
structure Pos (s:ByteArray) (p0 p1 p2 p3 p4 p5:Nat) (neg dot:Bool):Prop where
 o0:p0≤1
 o1:p0≤p1
 o2:p1≤p2
 o3:p2≤p3
 o4:p3≤p4
 o5:p4≤p5
 o6:p5≤s.size
 one:0<s.size
 big:s.size≤1000
 s0:p0=0→neg=false∧∀h:0<s.size,s[0]'h≠43∧s[0]'h≠45
 s1:p0=1→∀h:0<s.size,(s[0]'h=45∧neg=true)∨(s[0]'h=43∧neg=false)
 zero:∀i,∀h:i<s.size,p0≤i→i<p1→s[i]'h=48
 nzero:∀h:p1<s.size,s[p1]'h≠48
 num:∀i,∀h:i<s.size,p1≤i→i<p2→Dgt (s[i]'h)
 nnum:∀h:p2<s.size,¬Dgt (s[p2]'h)∧(dot=false→s[p2]'h≠46)
 point:dot=true→p2+1≤p3∧∀h:p2<s.size,s[p2]'h=46
 none:dot=false→p3=p2
 den:∀i,∀h:i<s.size,p2+1≤i→i<p3→Dgt (s[i]'h)
 nden:∀h:p3<s.size,¬Dgt (s[p3]'h)
 letter:∀i,∀h:i<s.size,p3≤i→i<p4→(s[i]'h)∈letters
 nletter:∀h:p4<s.size,(s[p4]'h)∉letters∧(s[p4]'h).toNat<128
 sign:∀h:p4<s.size,(p5=p4+1∧((s[p4]'h)=43∨(s[p4]'h)=45))∨(p5=p4∧(s[p4]'h)≠43∧(s[p4]'h)≠45)
 pow:∀i,∀h:i<s.size,p5≤i→Dgt (s[i]'h)
theorem Dgt.not_letter {c:UInt8} (h:Dgt c):c∉letters:=by
 intro hm
 unfold Dgt at h
 simp only[letters,List.mem_cons,List.not_mem_nil,or_false] at hm
 rcases hm with rfl|rfl|rfl|rfl|rfl|rfl|rfl|rfl|rfl|rfl|rfl|rfl<;>revert h<;>decide
theorem Dgt.ne {c d:UInt8} (h:Dgt c) (hd:d.toNat<48∨57<d.toNat):c≠d:=by
 rintro rfl
 unfold Dgt at h
 omega
structure Wrd (s:ByteArray) (g A D L G P:List UInt8) (dot:Bool):Prop where
 tx:s.data.toList=g++(A++((if dot then 46::D else [])++(L++(G++P))))
 g:g=[]∨g=[43]∨g=[45]
 a:BD A
 d:BD D
 nd:dot=false→D=[]
 ne:A++D≠[]
 l:∀c,c∈L→c∈letters
 gg:G=[]∨G=[43]∨G=[45]
 p:BD P
 el:L=[]→G=[]∧P=[]
 big:s.size≤1000
theorem mem_letters {c:UInt8} (h:c∈letters):¬Dgt c∧c≠46∧c≠43∧c≠45∧c.toNat<128:=by
 simp only[letters,List.mem_cons,List.not_mem_nil,or_false] at h
 unfold Dgt
 rcases h with rfl|rfl|rfl|rfl|rfl|rfl|rfl|rfl|rfl|rfl|rfl|rfl<;>decide
theorem Wrd.pos {s:ByteArray} {g A D L G P:List UInt8} {dot:Bool} (h:Wrd s g A D L G P dot) {z:Nat} {A':List UInt8} (hA:A=List.replicate z 48++A') (hz:A'≠[]→A'.getD 0 0≠48) {p0 p1 p2 p3 p4 p5:Nat} (e0:p0=g.length) (e1:p1=g.length+z) (e2:p2=g.length+A.length)
 (e3:p3=p2+(if dot then 1+D.length else 0)) (e4:p4=p3+L.length) (e5:p5=p4+G.length):Pos s p0 p1 p2 p3 p4 p5 (decide (g=[45])) dot:=by
 have hlA:A.length=z+A'.length:=by rw[hA];simp
 have hdl:((if dot then 46::D else []):List UInt8).length=(if dot then 1+D.length else 0):=by cases dot<;>simp;omega
 have hsz:s.size=g.length+(A.length+((if dot then 1+D.length else 0)+(L.length+(G.length+P.length)))):=by
  have:s.size=s.data.toList.length:=rfl
  rw[this,h.tx]
  simp only[List.length_append,hdl]
 have hg1:g.length≤1:=by rcases h.g with e|e|e<;>simp[e]
 have hone:0<s.size:=by
  have h1:0<(A++D).length:=List.length_pos_iff.2 h.ne
  rw[List.length_append] at h1
  cases dot with
  |false=>rw[h.nd rfl] at h1;simp at h1;omega
  |true=>simp at hsz;omega
 have t0:s.data.toList=[]++(g++(A++((if dot then 46::D else [])++(L++(G++P))))):=h.tx
 have tz:s.data.toList=g++(List.replicate z 48++(A'++((if dot then 46::D else [])++(L++(G++P))))):=by rw[h.tx,hA];simp
 have ta:s.data.toList=(g++List.replicate z 48)++(A'++((if dot then 46::D else [])++(L++(G++P)))):=by rw[h.tx,hA];simp
 have td:s.data.toList=(g++A)++((if dot then 46::D else [])++(L++(G++P))):=by rw[h.tx];simp
 have tl:s.data.toList=(g++A++(if dot then 46::D else []))++(L++(G++P)):=by rw[h.tx];simp
 have tg:s.data.toList=(g++A++(if dot then 46::D else [])++L)++(G++P):=by rw[h.tx];simp
 have tp:s.data.toList=(g++A++(if dot then 46::D else [])++L++G)++(P++[]):=by rw[h.tx];simp
 have lp3:(g++A++(if dot then 46::D else [])).length=p3:=by simp only[List.length_append,hdl];omega
 have lp4:(g++A++(if dot then 46::D else [])++L).length=p4:=by simp only[List.length_append,hdl];omega
 have lp5:(g++A++(if dot then 46::D else [])++L++G).length=p5:=by simp only[List.length_append,hdl];omega
 have lp2:(g++A).length=p2:=by simp only[List.length_append];omega
 have lp1:(g++List.replicate z (48:UInt8)).length=p1:=by simp only[List.length_append,List.length_replicate];omega
 have at3:∀hh:p3<s.size,(s[p3]'hh)∈letters:=by
  intro hh
  cases hL:L with
  |nil=>obtain⟨q1,q2⟩:=h.el hL;rw[hL,q1,q2] at hsz;simp at hsz;omega
  |cons c r=>
   have hl:0<L.length:=by rw[hL];simp
   exact h.l _ (mid tl hh (by omega) (by omega))
 have at4:∀hh:p4<s.size,(p5=p4+1∧((s[p4]'hh)=43∨(s[p4]'hh)=45))∨(p5=p4∧Dgt (s[p4]'hh)):=by
  intro hh
  rcases h.gg with e|e|e
  ·rw[e] at tp lp5 e5
   have hP:=mid tp hh (by rw[lp5,e5];simp) (by rw[lp5,e5];rw[e] at hsz;simp only[List.length_nil] at hsz ⊢;omega)
   exact .inr ⟨by simpa using e5,h.p _ hP⟩
  ·have hP:=mid tg hh (by omega) (by rw[lp4,e];simp)
   rw[e] at e5 hP
   exact .inl ⟨by simpa using e5,.inl (by simpa using hP)⟩
  ·have hP:=mid tg hh (by omega) (by rw[lp4,e];simp)
   rw[e] at e5 hP
   exact .inl ⟨by simpa using e5,.inr (by simpa using hP)⟩
 refine⟨by omega,by omega,by omega,by omega,by omega,by omega,by omega,hone,h.big,?_,?_,?_,?_,?_,?_,?_,?_,?_,?_,?_,?_,?_,?_⟩
 ·intro hp
  have hg:g=[]:=List.eq_nil_of_length_eq_zero (by omega)
  refine⟨by rw[hg];rfl,fun hh=>?_⟩
  rw[hg] at ta lp1 tz td hsz e1 e2 e0 lp2
  by_cases hA0:A=[]
  ·have hD:dot=true:=by
    cases hd:dot with
    |true=>rfl
    |false=>exact(h.ne (by rw[hA0,h.nd hd];rfl)).elim
   rw[hA0,hD] at td
   have:=mid (X:=[]) (Y:=46::D) (Z:=L++(G++P)) (by simpa using td) (i:=0) hh (Nat.zero_le _) (by simp)
   rcases List.mem_cons.1 this with e|e
   ·rw[e];decide
   ·exact⟨Dgt.ne (h.d _ e) (by decide),Dgt.ne (h.d _ e) (by decide)⟩
  ·have:=mid (X:=[]) (Y:=A) (Z:=(if dot then 46::D else [])++(L++(G++P))) (by simpa using td) (i:=0) hh (Nat.zero_le _) (by simpa using List.length_pos_iff.2 hA0)
   exact⟨Dgt.ne (h.a _ this) (by decide),Dgt.ne (h.a _ this) (by decide)⟩
 ·intro hp hh
  rcases h.g with e|e|e
  ·rw[e] at e0;simp at e0;omega
  ·have:=mid t0 hh (by simp) (by rw[e];simp)
   rw[e] at this
   exact .inr ⟨by simpa using this,by rw[e];decide⟩
  ·have:=mid t0 hh (by simp) (by rw[e];simp)
   rw[e] at this
   exact .inl ⟨by simpa using this,by rw[e];decide⟩
 ·intro i hh h1 h2
  have:=mid tz hh (by omega) (by simp only[List.length_replicate];omega)
  exact(List.mem_replicate.1 this).2
 ·intro hh
  cases hA':A' with
  |cons c r=>
   have:=mid (X:=g++List.replicate z 48) (Y:=[c]) (Z:=r++((if dot then 46::D else [])++(L++(G++P)))) (by rw[ta,hA'];simp) hh (by omega) (by rw[lp1];simp)
   have hc:=hz (by rw[hA'];simp)
   rw[hA'] at hc
   rw[List.mem_singleton.1 this]
   simpa using hc
  |nil=>
   have hp:p1=p2:=by rw[hA'] at hlA;simp at hlA;omega
   by_cases hd:dot=true
   ·have:=mid (X:=g++A) (Y:=[46]) (Z:=D++(L++(G++P))) (by rw[td,hd];simp) hh (by omega) (by rw[lp2];simp;omega)
    rw[List.mem_singleton.1 this];decide
   ·have hp3:p3=p1:=by rw[e3,if_neg hd];omega
    have:=at3 (by omega)
    have k:=(mem_letters this).1
    have e:(s[p3]'(by omega))=s[p1]'hh:=by simp only[hp3]
    rw[e] at k
    intro h48
    rw[h48] at k
    exact k (by unfold Dgt;decide)
 ·intro i hh h1 h2
  have hA0:(s[i]'hh)∈A':=mid ta hh (by omega) (by omega)
  exact h.a _ (by rw[hA];exact List.mem_append_right _ hA0)
 ·intro hh
  by_cases hd:dot=true
  ·have:=mid (X:=g++A) (Y:=[46]) (Z:=D++(L++(G++P))) (by rw[td,hd];simp) hh (by omega) (by rw[lp2];simp)
   rw[List.mem_singleton.1 this]
   exact⟨by unfold Dgt;decide,fun h0=>by rw[hd] at h0;cases h0⟩
  ·have hp3:p3=p2:=by rw[e3,if_neg hd];omega
   have:=at3 (by omega)
   have e:(s[p3]'(by omega))=s[p2]'hh:=by simp only[hp3]
   rw[e] at this
   have k:=mem_letters this
   exact⟨k.1,fun _=>k.2.1⟩
 ·intro hd
  refine⟨by rw[e3,if_pos hd];omega,fun hh=>?_⟩
  have:=mid (X:=g++A) (Y:=[46]) (Z:=D++(L++(G++P))) (by rw[td,hd];simp) hh (by omega) (by rw[lp2];simp)
  exact List.mem_singleton.1 this
 ·intro hd
  rw[e3,hd];simp
 ·intro i hh h1 h2
  have hd:dot=true:=by
   cases hd:dot with
   |true=>rfl
   |false=>rw[hd] at e3;simp at e3;omega
  rw[hd] at td e3
  have:=mid (X:=g++A++[46]) (Y:=D) (Z:=L++(G++P)) (by rw[td];simp) hh (by simp only[List.length_append,List.length_cons,List.length_nil] at lp2 ⊢;omega) (by simp only[List.length_append,List.length_cons,List.length_nil,if_true] at lp2 e3 ⊢;omega)
  exact h.d _ this
 ·intro hh
  exact(mem_letters (at3 hh)).1
 ·intro i hh h1 h2
  exact h.l _ (mid tl hh (by omega) (by omega))
 ·intro hh
  rcases at4 hh with ⟨-,e|e⟩|⟨-,e⟩
  ·rw[e];decide
  ·rw[e];decide
  ·exact⟨e.not_letter,by have:=e.2;omega⟩
 ·intro hh
  rcases at4 hh with e|⟨e1,e⟩
  ·exact .inl e
  ·exact .inr ⟨e1,e.ne (by decide),e.ne (by decide)⟩
 ·intro i hh h1
  exact h.p _ (mid tp hh (by omega) (by rw[lp5];omega))
end Go.Proofs.YtcpjclakdpjjfaaGreatDoor
namespace Go.Proofs.YtcpjclakdpjjfaaGreatDoor
open Go.RowKit Wd Dg
structure WordT (s:ByteArray) (fn:Nat) (V:Int):Prop where
 w:∃(g A D S:List UInt8) (dot:Bool) (x:Int),s.data.toList=g++(A++((if dot then 46::D else [])++S))∧(g=[]∨g=[43]∨g=[45])∧BD A∧BD D∧(dot=false→D=[])∧A++D≠[]∧Sfx S fn x∧A.length+D.length≤110∧V=qV (decide (g=[45])) A D fn x
 ok:CanOk fn V
theorem sgB_three (n:Nat):sgB n=[]∨sgB n=[43]∨sgB n=[45]:=by
 unfold sgB
 split
 ·exact .inr (.inl rfl)
 ·split
  ·exact .inr (.inr rfl)
  ·exact .inl rfl
theorem sgB_minus (n:Nat):decide (sgB n=[45])=(n==2):=by
 unfold sgB
 by_cases h1:n=1
 ·subst h1;rfl
 ·by_cases h2:n=2
  ·subst h2;rfl
  ·rw[if_neg h1,if_neg h2];simp[h2]
theorem qsfx_sfx {sign:Int} {num den pow:ByteArray} {dot:Bool} {kind place ps:Int} (up:Bool) (hr:QRt sign num dot den kind place ps pow) (hp:kind=0→pow.size≤2∧bv pow.data.toList≤60):Sfx (qsfx kind place up ps pow) kind.toNat (qx kind place ps pow):=by
 rcases hr.k with ⟨rfl,k1,k2⟩|⟨rfl,k1,k2⟩|⟨rfl,k1,k2,k3,k4,k5⟩
 ·have hpl:place=-1∨place=0∨place=1∨place=2∨place=3∨place=4∨place=5∨place=6:=by omega
  refine .inl ⟨rfl,?_⟩
  rcases hpl with rfl|rfl|rfl|rfl|rfl|rfl|rfl|rfl
  ·exact .inr (.inl ⟨rfl,rfl⟩)
  ·exact .inl ⟨rfl,rfl⟩
  ·exact .inr (.inr (.inl ⟨rfl,rfl⟩))
  ·exact .inr (.inr (.inr (.inl ⟨rfl,rfl⟩)))
  ·exact .inr (.inr (.inr (.inr (.inl ⟨rfl,rfl⟩))))
  ·exact .inr (.inr (.inr (.inr (.inr (.inl ⟨rfl,rfl⟩)))))
  ·exact .inr (.inr (.inr (.inr (.inr (.inr (.inl ⟨rfl,rfl⟩))))))
  ·exact .inr (.inr (.inr (.inr (.inr (.inr (.inr ⟨rfl,rfl⟩))))))
 ·refine .inr (.inl ⟨rfl,place.toNat,by omega,by omega,rfl,?_⟩)
  show (10:Int)*place=_
  omega
 ·obtain⟨h1,h2⟩:=hp rfl
  refine .inr (.inr ⟨rfl,(if up then 69 else 101),sgB ps.toNat,pow.data.toList,rfl,by cases up<;>simp,sgB_three _,k1,?_,?_,?_,?_,?_⟩)
  ·intro h
   have:pow.size=pow.data.toList.length:=rfl
   rw[h,List.length_nil] at this
   omega
  ·show pow.size≤3
   omega
  ·have e:(sgB ps.toNat=[45])↔ps=2:=by
    have:=sgB_minus ps.toNat
    rw[←decide_eq_true_iff (p:=sgB ps.toNat=[45]),this]
    simp
    omega
   unfold qx
   by_cases h:ps=2
   ·rw[if_neg (by decide),if_neg (by decide),if_pos h,if_pos (e.2 h)]
   ·rw[if_neg (by decide),if_neg (by decide),if_neg h,if_neg (mt e.1 h)]
  ·unfold qx;simp;split<;>omega
  ·unfold qx;simp;split<;>omega
theorem qtxt_word {sign:Int} {num den pow:ByteArray} {dot:Bool} {kind place ps:Int} (up:Bool) (hr:QRt sign num dot den kind place ps pow) (hl:num.size+den.size≤100) (hp:kind=0→pow.size≤2∧bv pow.data.toList≤60) (hc:CanOk kind.toNat (qwV sign num den kind place ps pow)):
 WordT ⟨(qtxt sign num dot den kind place up ps pow).toArray⟩ kind.toNat (qwV sign num den kind place ps pow):=by
 refine⟨⟨sgB sign.toNat,num.data.toList,den.data.toList,qsfx kind place up ps pow,dot,qx kind place ps pow,?_,sgB_three _,hr.n,hr.d,hr.dot,hr.some,qsfx_sfx up hr hp,?_,?_⟩,hc⟩
 ·show qtxt sign num dot den kind place up ps pow=_
  unfold qtxt
  rw[List.append_assoc]
 ·show num.size+den.size≤110
  omega
 ·unfold qwV
  rw[sgB_minus]
  have h0:=hr.s0
  congr 1
  by_cases h:sign=2
  ·subst h;rfl
  ·have h1:sign.toNat≠2:=by omega
   rw[beq_eq_false_iff_ne.2 h,beq_eq_false_iff_ne.2 h1]
theorem can_wordT {fn:Nat} {V:Int} {t:List UInt8} (h:CanTxt fn V t) (hk:fn≠1) (h0:V≠0) (hc:CanOk fn V):∃fn',fn'≠1∧WordT ⟨t.toArray⟩ fn' V:=by
 obtain⟨neg,A,S,fn',x,rfl,hA,hA0,hAl,hS,hf,hV⟩:=can_word h hk h0 hc.1 hc.2.1
 refine⟨fn',hf,⟨(if neg then [45] else []),A,[],S,false,x,by simp,by cases neg<;>simp,hA,by intro c hc;simp at hc,fun _=>rfl,by simpa using hA0,hS,by simp;omega,?_⟩,hc.1,hc.2.1,fun h1=>(hf h1).elim⟩
 rw[←hV]
 congr 1
 cases neg<;>rfl
theorem sfx_parts {S:List UInt8} {fn:Nat} {x:Int} (h:Sfx S fn x):∃L G P,S=L++(G++P)∧(∀c,c∈L→c∈letters)∧(G=[]∨G=[43]∨G=[45])∧BD P∧(L=[]→G=[]∧P=[])∧S.length≤6:=by
 have bd0:BD []:=by intro c hc;simp at hc
 rcases h with ⟨-,h⟩|⟨-,k,h1,h2,rfl,-⟩|⟨-,c,g,P,rfl,hc,hg,hP,hP0,hPl,-,-,-⟩
 ·refine⟨S,[],[],by simp,?_,.inl rfl,bd0,fun _=>⟨rfl,rfl⟩,?_⟩
  ·rcases h with ⟨rfl,-⟩|⟨rfl,-⟩|⟨rfl,-⟩|⟨rfl,-⟩|⟨rfl,-⟩|⟨rfl,-⟩|⟨rfl,-⟩|⟨rfl,-⟩<;>decide
  ·rcases h with ⟨rfl,-⟩|⟨rfl,-⟩|⟨rfl,-⟩|⟨rfl,-⟩|⟨rfl,-⟩|⟨rfl,-⟩|⟨rfl,-⟩|⟨rfl,-⟩<;>decide
 ·have hk:k=1∨k=2∨k=3∨k=4∨k=5∨k=6:=by omega
  refine⟨sfxB k,[],[],by simp,?_,.inl rfl,bd0,fun _=>⟨rfl,rfl⟩,?_⟩
  ·rcases hk with rfl|rfl|rfl|rfl|rfl|rfl<;>decide
  ·rcases hk with rfl|rfl|rfl|rfl|rfl|rfl<;>decide
 ·refine⟨[c],g,P,rfl,?_,hg,hP,fun h=>by simp at h,?_⟩
  ·intro d hd
   rw[List.mem_singleton.1 hd]
   rcases hc with rfl|rfl<;>decide
  ·have:g.length≤1:=by rcases hg with rfl|rfl|rfl<;>decide
   simp
   omega
def PsRaw (s:ByteArray) (p1 p2 p3:Nat) (dot:Bool) (value num denom sfx:ByteArray):Prop:=
 (p1=s.size∧value=⟨#[48]⟩∧num=⟨#[48]⟩∧denom=⟨#[]⟩∧sfx=⟨#[]⟩)∨
 (p1<s.size∧value=s.extract 0 p3∧((p1=p2∧num=⟨#[48]⟩)∨(p1<p2∧num=s.extract p1 p2))∧((dot=false∧denom=⟨#[]⟩)∨(dot=true∧denom=s.extract (p2+1) p3))∧((p3=s.size∧sfx=⟨#[]⟩)∨(p3<s.size∧sfx=s.extract p3 s.size)))
structure PsR (value num denom sfx:ByteArray) (neg:Bool) (A D S:List UInt8):Prop where
 den:denom.data.toList=D
 sfx:sfx.data.toList=S
 nm:BD num.data.toList
 ne:num.data.toList≠[]
 eq:bv (num.data.toList++D)=bv (A++D)
 len:num.size≤A.length+1
 val:∃g A' dot',DTx value g A' D dot'∧(if g=[45] then -(bv (A'++D):Int) else bv (A'++D))=sg neg*(bv (A++D):Int)
theorem bd48:BD [48]:=by intro c hc;rw[List.mem_singleton.1 hc];decide
theorem bv48 (D:List UInt8):bv (48::D)=bv D:=bv_zeros 1 D
theorem PsRaw.mean {s:ByteArray} {g A D L G P:List UInt8} {dot:Bool} (h:Wrd s g A D L G P dot) {z:Nat} {A':List UInt8} (hA:A=List.replicate z 48++A') {p1 p2 p3:Nat} (e1:p1=g.length+z) (e2:p2=g.length+A.length)
 (e3:p3=p2+(if dot then 1+D.length else 0)) {value num denom sfx:ByteArray} (hl:g.length+A.length+D.length≤200) (k:PsRaw s p1 p2 p3 dot value num denom sfx):PsR value num denom sfx (decide (g=[45])) A D (L++(G++P)):=by
 have hlA:A.length=z+A'.length:=by rw[hA];simp
 have hdl:((if dot then 46::D else []):List UInt8).length=(if dot then 1+D.length else 0):=by cases dot<;>simp;omega
 have hsz:s.size=g.length+(A.length+((if dot then 1+D.length else 0)+(L.length+(G.length+P.length)))):=by
  have:s.size=s.data.toList.length:=rfl
  rw[this,h.tx]
  simp only[List.length_append,hdl]
 have hsg:∀n:Nat,(if g=[45] then -(n:Int) else n)=sg (decide (g=[45]))*(n:Int):=by
  intro n
  by_cases hg:g=[45]<;>simp[hg,sg]
 rcases k with ⟨h1,rfl,rfl,rfl,rfl⟩|⟨h1,rfl,hn,hd,hs⟩
 ·have hA':A'=[]:=List.eq_nil_of_length_eq_zero (by omega)
  have hL:L++(G++P)=[]:=List.eq_nil_of_length_eq_zero (by simp only[List.length_append];omega)
  have hdot:dot=false:=by cases hd:dot with
   |false=>rfl
   |true=>rw[hd] at hsz;simp at hsz;omega
  have hD:=h.nd hdot
  have hb:bv (A++D)=0:=by rw[hA,hA',hD,List.append_nil,List.append_nil,←List.append_nil (List.replicate z (48:UInt8)),bv_zeros];rfl
  refine⟨by rw[hD],by rw[hL],bd48,by decide,?_,by show 1≤_;omega,[],[48],false,⟨rfl,.inl rfl,bd48,h.d,fun _=>hD,by simp,by show 1≤250;decide⟩,?_⟩
  ·rw[hb,hD];rfl
  ·rw[hb,hD];simp;rfl
 ·have hD:denom.data.toList=D:=by
   rcases hd with ⟨hd,rfl⟩|⟨hd,rfl⟩
   ·rw[h.nd hd]
   ·have t:s.data.toList=(g++A++[46])++(D++(L++(G++P))):=by rw[h.tx,hd];simp
    rw[hd,if_pos rfl] at e3
    refine ext_mid t ?_ ?_<;>simp only[List.length_append,List.length_cons,List.length_nil]<;>omega
  have hS:sfx.data.toList=L++(G++P):=by
   rcases hs with ⟨hs,rfl⟩|⟨hs,rfl⟩
   ·have:L++(G++P)=[]:=List.eq_nil_of_length_eq_zero (by simp only[List.length_append];omega)
    rw[this]
   ·have t:s.data.toList=(g++A++(if dot then 46::D else []))++((L++(G++P))++[]):=by rw[h.tx];simp
    refine ext_mid t ?_ ?_<;>simp only[List.length_append,hdl]<;>omega
  have hN:num.data.toList=if A'=[] then [48] else A':=by
   rcases hn with ⟨hn,rfl⟩|⟨hn,rfl⟩
   ·have hA':A'=[]:=List.eq_nil_of_length_eq_zero (by omega)
    rw[if_pos hA']
   ·have hA':A'≠[]:=by rintro rfl;simp at hlA;omega
    rw[if_neg hA']
    have t:s.data.toList=(g++List.replicate z 48)++(A'++((if dot then 46::D else [])++(L++(G++P)))):=by rw[h.tx,hA];simp
    refine ext_mid t ?_ ?_<;>simp only[List.length_append,List.length_replicate]<;>omega
  have hV:(s.extract 0 p3).data.toList=g++A++(if dot then 46::D else []):=by
   have t:s.data.toList=[]++((g++A++(if dot then 46::D else []))++(L++(G++P))):=by rw[h.tx];simp
   refine ext_mid t rfl ?_
   simp only[List.length_append,hdl,List.length_nil]
   omega
  refine⟨hD,hS,?_,?_,?_,?_,g,A,dot,⟨hV,h.g,h.a,h.d,h.nd,h.ne,?_⟩,hsg _⟩
  ·rw[hN]
   split
   ·exact bd48
   ·intro c hc
    exact h.a c (by rw[hA];exact List.mem_append_right _ hc)
  ·rw[hN]
   split
   ·simp
   ·assumption
  ·rw[hN]
   split
   ·rename_i hA'
    rw[hA,hA',List.append_nil,bv_zeros]
    exact bv48 D
   ·rw[hA,List.append_assoc,bv_zeros]
  ·have:num.size=num.data.toList.length:=rfl
   rw[this,hN]
   split
   ·simp
   ·omega
  ·have:(s.extract 0 p3).size=(s.extract 0 p3).data.toList.length:=rfl
   rw[this,hV]
   simp only[List.length_append,hdl]
   cases dot<;>simp<;>omega
end Go.Proofs.YtcpjclakdpjjfaaGreatDoor
namespace Go.Proofs.YtcpjclakdpjjfaaGreatDoor
open Go.RowKit Wd Dg
theorem pow60 {pow:ByteArray} (hB:BD pow.data.toList) (h2:pow.size≤2) (h:¬(Op.bytesLess pow.toList [54,48]=false∧¬pow.toList=[54,48])∨pow.size≠2):bv pow.data.toList≤60:=by
 rw[Lib.toList_data] at h
 have hl:pow.size=pow.data.toList.length:=rfl
 rw[hl] at h2 h
 generalize pow.data.toList=l at*
 match l,h2 with
 | [],_=>decide
 | [a],_=>
   have:=bv_lt hB
   simp at this
   omega
 | [a,b],_=>
   have ha:=hB a (by simp)
   have hb:=hB b (by simp)
   have e:bv [a,b]=(a.toNat-48)*10+(b.toNat-48):=by
    have:=bv_append [a] [b]
    simp[bv,dv] at this ⊢
    omega
   rw[e]
   rcases h with h|h
   ·simp[Op.bytesLess] at h
    rcases Nat.lt_or_ge a.toNat 54 with g|g
    ·omega
    ·obtain⟨rfl,rfl⟩:=h (UInt8.le_iff_toNat_le.2 g) (fun _=>UInt8.le_iff_toNat_le.2 hb.1)
     decide
   ·exact(h rfl).elim
theorem dfz:Dg.DF false [] 0 0 (-170) 240:=by
 have:=Dg.DF.none (neg:=false) (r:=[]) (x:=0) (lo:=-170) (hi:=240) rfl (by decide) (by decide)
 simpa [dv] using this
theorem results10 (tmps:Array Value) (w:World) (b:Nat) (v0 v1 v2:Value) (h:Hd w b 27 #[v0,v1,v2]) (h3:tmps.getD 3 undef=.pointer (some ⟨b,0,none⟩)):
 (results Tryz.f10 tmps).run Tryz.prog w=.ok (.tuple #[tmps.getD 2 undef,.agg #[v0,v1,v2],tmps.getD 4 undef,tmps.getD 5 undef]) w:=by
 have q0:=h.cell (i:=0) rfl
 have q1:=h.cell (i:=1) rfl
 have q2:=h.cell (i:=2) rfl
 rw[Array.getD_eq_getD_getElem?] at h3
 simp[results,go_sem,h3,q0,q1,q2]
def QoRet (sign:Int) (num:ByteArray) (dot:Bool) (den:ByteArray) (kind place ps:Int) (pow:ByteArray) (w:World) (e:Ending) (w':World):Prop:=
 ∃(t:ByteArray) (d:Value) (c:List UInt8) (ok:Bool) (V:Int),e=.returned (.tuple #[.string t,d,.string ⟨c.toArray⟩,.bool ok])∧Dc w' d V (-170) 240∧
  (ok=true→QRt sign num dot den kind place ps pow∧V=qwV sign num den kind place ps pow∧WordT t kind.toNat V∧CanTxt kind.toNat V c)∧Mod [] w w'
theorem quantityOf_calls (sign:Int) (num:ByteArray) (dot:Bool) (den:ByteArray) (kind place:Int) (up:Bool) (ps:Int) (pow:ByteArray) (w:World) (h1:num.size≤2147483647) (h2:den.size≤2147483647) (h3:pow.size≤2147483647):
 Calls Tryz.prog 10 #[qwv sign num dot den kind place up ps pow] w (QoRet sign num dot den kind place ps pow w):=by
 have hd:=Hd.new w 23 #[.int .i64 sign,.string num,.bool dot,.string den,.int .i64 kind,.int .i64 place,.bool up,.int .i64 ps,.string pow]
 have hm1:=(Mod.refl [] w).alloc (.cells #[.int .i64 sign,.string num,.bool dot,.string den,.int .i64 kind,.int .i64 place,.bool up,.int .i64 ps,.string pow] 23)
 have R:=Lh (fun w'=>spec_right sign num dot den kind place up ps pow w' h1 h2 h3)
 have HH:=Lh (Aj hd hm1)
 have hs0:(w.alloc (.cells #[.int .i64 sign,.string num,.bool dot,.string den,.int .i64 kind,.int .i64 place,.bool up,.int .i64 ps,.string pow] 23)).heap.size=w.heap.size+1:=by simp
 have HS0:=Lh hs0
 clear hd hm1 hs0
 unfold qwv at*
 go_enter Tryz.func10,Tryz.ntmps10
 go_upto_region 1 with fail
 have hd2:=Hd.new (w.alloc (.cells #[.int .i64 sign,.string num,.bool dot,.string den,.int .i64 kind,.int .i64 place,.bool up,.int .i64 ps,.string pow] 23)) 27 #[.bool false,.slice none 0 0,.int .i64 0]
 have hm2:=(Mod.refl [] (w.alloc (.cells #[.int .i64 sign,.string num,.bool dot,.string den,.int .i64 kind,.int .i64 place,.bool up,.int .i64 ps,.string pow] 23))).alloc (.cells #[.bool false,.slice none 0 0,.int .i64 0] 27)
 rw[HS0.out] at hd2
 have HW:=Lh (Aj (HH.out.1.mod hm2 (by simp)) (Aj hd2 (HH.out.2.trans hm2)))
 clear hd2 hm2
 generalize (w.alloc (.cells #[.int .i64 sign,.string num,.bool dot,.string den,.int .i64 kind,.int .i64 place,.bool up,.int .i64 ps,.string pow] 23)).alloc (.cells #[.bool false,.slice none 0 0,.int .i64 0] 27)=W at*
 go_cut [35] from 6 to 35 (fun t35 wx=>∃bb:Bool,t35=.bool bb∧Mod [] W wx∧(bb=false→QRt sign num dot den kind place ps pow∧num.size+den.size≤100∧pow.size≤2∧(kind=0→pow.size≤2∧bv pow.data.toList≤60)))
 case first=>
  have e0:=HW.out.1.cell (i:=0) rfl
  have e1:=HW.out.1.cell (i:=1) rfl
  have e2:=HW.out.1.cell (i:=2) rfl
  have e3:=HW.out.1.cell (i:=3) rfl
  have e4:=HW.out.1.cell (i:=4) rfl
  have e5:=HW.out.1.cell (i:=5) rfl
  have e6:=HW.out.1.cell (i:=6) rfl
  have e7:=HW.out.1.cell (i:=7) rfl
  have e8:=HW.out.1.cell (i:=8) rfl
  go_wp2_with fail
  clear e0 e1 e2 e3 e4 e5 e6 e7 e8
  refine(R.out _).mono ?_
  rintro e w1 ⟨⟨b,rfl,hb⟩,m1⟩
  have hw1:=HW.out.1.mod m1 (by simp)
  have e1:=hw1.cell (i:=1) rfl
  have e3:=hw1.cell (i:=3) rfl
  have e8:=hw1.cell (i:=8) rfl
  have M1:=Lh m1
  have HB:=Lh hb
  clear hw1 m1 hb R
  cases b
  ·go_wp2_with fail
   go_meet
   case rel=>exact⟨true,rfl,M1.out,fun h=>by cases h⟩
  ·go_wp2_with fail
   all_goals
    go_meet
    case rel=>
     refine⟨_,rfl,M1.out,fun hbb=>?_⟩
     have hq:=HB.out.1 trivial
     have hbd:kind=0→BD pow.data.toList:=fun hk=>by
      rcases hq.k with ⟨h,-⟩|⟨h,-⟩|⟨-,h,-⟩
      ·omega
      ·omega
      ·exact h
     first
     |(exfalso;revert hbb;simp;done)
     |(have hs:num.size+den.size≤100:=by omega
       have hp2:pow.size≤2:=by omega
       refine⟨hq,hs,hp2,fun hk=>⟨hp2,pow60 (hbd hk) hp2 ?_⟩⟩
       by_cases hz:pow.size=2
       ·left
        first
        |assumption
        |(exfalso;revert hbb;simp[hz];simp_all;done)
       ·exact .inr hz)
 case rest=>
  obtain⟨bb,rfl,m1,hbb⟩:=hcut
  have hwd:=HW.out.1.mod m1 (by simp)
  have hrd:=HW.out.2.1.mod m1 (by simp)
  have mw:=HW.out.2.2.trans m1
  have HBB:=Lh hbb
  have HX:=Lh (Aj hwd (Aj hrd mw))
  have r0:=hrd.cell (i:=0) rfl
  have r1:=hrd.cell (i:=1) rfl
  have r2:=hrd.cell (i:=2) rfl
  have rf:=hrd.free
  clear hwd hrd mw m1 hbb HW R HH
  cases bb
  rotate_left
  ·go_upto_region 2 with fail
   go_region_law (fail)
   all_goals (go_wp2_with fail)
   obtain⟨k1,k2,k3⟩:=dc_put (sl:=.slice none 0 0) (ex:=0) HX.out.2.1 (by omega) HX.out.2.2 (Ir.nil _) dfz
   refine bodyPost_ret (results10 _ _ (w.heap.size+1) _ _ _ (k1.mod ((Mod.refl [] _).drew) (by simp)) rfl) rfl ?_
   exact⟨⟨#[]⟩,_,[],false,0,rfl,k2.mod ((Mod.refl [] _).drew),(fun h=>by cases h),k3.drew⟩
  ·obtain⟨hq,hsz,hp2,hpw⟩:=HBB.out rfl
   have hp100:pow.size≤100:=by omega
   have SM:=Lh (fun w'=>spec_means sign num dot den kind place up ps pow w' hq hsz hpw)
   have SW:=Lh (fun w'=>spec_write sign num dot den kind place up ps pow w' hq hsz hp100)
   obtain⟨fn,hfn⟩:∃fn:Nat,kind=fn:=⟨kind.toNat,by rcases hq.k with ⟨h,-⟩|⟨h,-⟩|⟨h,-⟩<;>omega⟩
   have hfn3:fn=0∨fn=1∨fn=2:=by rcases hq.k with ⟨h,-⟩|⟨h,-⟩|⟨h,-⟩<;>omega
   have SC:=Lh (fun d V w' (h:Dc w' d V (-170) 240)=>spec_canonical fn hfn3 d V (-170) 240 w' h (by decide) (by decide))
   rw[←hfn] at SC
   have HK:=Lh (Aj hfn (Aj hq (Aj hsz hpw)))
   have e0:=HX.out.1.cell (i:=0) rfl
   have e1:=HX.out.1.cell (i:=1) rfl
   have e2:=HX.out.1.cell (i:=2) rfl
   have e3:=HX.out.1.cell (i:=3) rfl
   have e4:=HX.out.1.cell (i:=4) rfl
   have e5:=HX.out.1.cell (i:=5) rfl
   have e6:=HX.out.1.cell (i:=6) rfl
   have e7:=HX.out.1.cell (i:=7) rfl
   have e8:=HX.out.1.cell (i:=8) rfl
   clear hfn hfn3 hq hsz hp2 hp100 hpw HBB
   unfold qwv at SM SW
   go_wp2_with fail
   refine(SM.out _).mono ?_
   rintro e w2 ⟨d,rfl,⟨neg,sl,l,ex,rfl,hir,hF⟩,m2⟩
   obtain⟨k1,k2,k3⟩:=dc_put (w:=w) (HX.out.2.1.mod m2 (by simp)) (by omega) (HX.out.2.2.trans m2) hir hF
   have hr2:=HX.out.2.1.mod m2 (by simp)
   have r0:=hr2.cell (i:=0) rfl
   have r1:=hr2.cell (i:=1) rfl
   have r2:=hr2.cell (i:=2) rfl
   have rf:=hr2.free
   obtain⟨sa,sc',rfl,-,-⟩:=hir.form
   have hw3:Hd (((w2.setCell ⟨w.heap.size+1,0,none⟩ (.bool neg)).setCell ⟨w.heap.size+1,1,none⟩ (.slice sa l.length sc')).setCell ⟨w.heap.size+1,2,none⟩ (.int .i64 ex)) w.heap.size 23 _:=
    (HX.out.1.mod m2 (by simp)).mod (S:=[w.heap.size+1]) ((((Mod.refl [w.heap.size+1] w2).setCell _ (.inl (by simp))).setCell _ (.inl (by simp))).setCell _ (.inl (by simp))) (by simp)
   have KK:=Lh (Aj k1 (Aj k2 (Aj k3 hw3)))
   clear hr2 k1 k2 k3 hw3 hir hF m2 SM e0 e1 e2 e3 e4 e5 e6 e7 e8
   unfold dcv
   go_upto_region 4 with fail
   obtain⟨k1,k2,k3,hw3⟩:=KK.out
   clear r0 r1 r2 rf KK
   generalize ((w2.setCell ⟨w.heap.size+1,0,none⟩ (.bool neg)).setCell ⟨w.heap.size+1,1,none⟩ (.slice sa l.length sc')).setCell ⟨w.heap.size+1,2,none⟩ (.int .i64 ex)=W3 at*
   have r0:=k1.cell (i:=0) rfl
   have r1:=k1.cell (i:=1) rfl
   have r2:=k1.cell (i:=2) rfl
   have e4:=hw3.cell (i:=4) rfl
   have SC':=Lh (SC.out _ _ W3 k2)
   have KK:=Lh (Aj k1 (Aj k2 (Aj k3 hw3)))
   unfold dcv at SC'
   clear k1 k2 k3 hw3 SC
   go_wp2_with fail
   refine SC'.out.mono ?_
   rintro e w4 ⟨t,ok,rfl,hok,hct,m4⟩
   have HC:=Lh (Aj hok hct)
   have M4:=Lh m4
   clear hok hct m4 r0 r1 r2 e4 SC'
   go_upto_region 5 with fail
   have HP:=Lh (fun(w':World) (m:Mod [] w4 w')=>show Hd w' (w.heap.size+1) 27 _∧Hd w' w.heap.size 23 _ from ⟨(KK.out.1.mod M4.out (by simp)).mod m (by simp),(KK.out.2.2.2.mod M4.out (by simp)).mod m (by simp)⟩)
   obtain⟨h27,h23⟩:=HP.out w4 (Mod.refl _ _)
   have r0:=h27.cell (i:=0) rfl
   have r1:=h27.cell (i:=1) rfl
   have r2:=h27.cell (i:=2) rfl
   have rf:=h27.free
   have e0:=h23.cell (i:=0) rfl
   have e1:=h23.cell (i:=1) rfl
   have e2:=h23.cell (i:=2) rfl
   have e3:=h23.cell (i:=3) rfl
   have e4:=h23.cell (i:=4) rfl
   have e5:=h23.cell (i:=5) rfl
   have e6:=h23.cell (i:=6) rfl
   have e7:=h23.cell (i:=7) rfl
   have e8:=h23.cell (i:=8) rfl
   clear h27 h23
   go_region_law (first|(go_simp;go_at_call 34;refine(SW.out _).mono ?_;rintro e w5 ⟨rfl,m5⟩;have M5:=Lh (((Mod.refl [] w4).drewN _).trans m5);have r0:=(HP.out w5 M5.out).1.cell (i:=0) rfl;have r1:=(HP.out w5 M5.out).1.cell (i:=1) rfl;have r2:=(HP.out w5 M5.out).1.cell (i:=2) rfl;have rf:=(HP.out w5 M5.out).1.free;clear m5))
   all_goals (go_wp2_with fail)
   all_goals
    obtain⟨neg',sl',l',ex',heq,hir,hF⟩:=(KK.out.2.1.mod M4.out).mod M5.out
    unfold dcv at heq
    simp only[Value.agg.injEq,Array.mk.injEq,List.cons.injEq,Value.bool.injEq,Value.int.injEq,true_and,and_true] at heq
    obtain⟨rfl,rfl,rfl⟩:=heq
    obtain⟨k1,k2,k3⟩:=dc_put (w:=w) (HP.out w5 M5.out).1 (by omega) ((KK.out.2.2.1.trans M4.out).trans M5.out) hir hF
    have hkn:kind.toNat=fn:=by rw[HK.out.1];rfl
    have fin:∀W',Mod [] (((w5.setCell ⟨w.heap.size+1,0,none⟩ (.bool neg)).setCell ⟨w.heap.size+1,1,none⟩ (.slice sa l.length sc')).setCell ⟨w.heap.size+1,2,none⟩ (.int .i64 ex)) W'→QoRet sign num dot den kind place ps pow w (.returned (.tuple #[.string ⟨(qtxt sign num dot den kind place up ps pow).toArray⟩,dcv neg (.slice sa l.length sc') ex,.string ⟨t.toArray⟩,.bool ok])) W':=fun W' m=>
     ⟨_,_,t,ok,_,rfl,k2.mod m,fun hk=>⟨HK.out.2.1,rfl,qtxt_word up HK.out.2.1 HK.out.2.2.1 HK.out.2.2.2 (by rw[hkn];exact HC.out.1.1 hk),by rw[hkn];exact HC.out.2 hk⟩,k3.trans m⟩
    first
    |(refine bodyPost_ret (results10 _ _ (w.heap.size+1) _ _ _ k1 rfl) rfl ?_
      exact fin _ (Mod.refl [] _))
    |(refine bodyPost_ret (results10 _ _ (w.heap.size+1) _ _ _ (k1.mod ((Mod.refl [] _).drew) (by simp)) rfl) rfl ?_
      exact fin _ ((Mod.refl [] _).drew))
    |(refine bodyPost_ret (results10 _ _ (w.heap.size+1) _ _ _ (k1.mod ((Mod.refl [] _).drewN _) (by simp)) rfl) rfl ?_
      exact fin _ ((Mod.refl [] _).drewN _))
end Go.Proofs.YtcpjclakdpjjfaaGreatDoor
namespace Go.Proofs.YtcpjclakdpjjfaaGreatDoor
open Go.RowKit Wd Dg
theorem Mod.iterAt {S:List Nat} {a b:World} (h:Mod S a b) {k:Nat} (hk:a.heap.size≤k) (s:ByteArray) (p:Nat):Mod S a (b.iterAt k s p):=
 h.step (S':=[k]) ⟨rfl,rfl,rfl,by rw[Lib.iterAt_size];exact Nat.le_refl _,fun i _ hi=>Lib.iterAt_other _ _ _ _ _ (by simpa using hi)⟩ (fun x hx=>by rw[List.mem_singleton.1 hx];exact .inr hk)
theorem Mod.iter {S:List Nat} {a b:World} (h:Mod S a b) (s:ByteArray) (p:Nat):Mod S a (b.iter s p):=h.alloc _
structure OneB (t:ByteArray) (c:UInt8) (chars:ByteArray):Prop where
 one:t.size=1
 at0:∃h:0<t.size,t[0]'h=c
 low:c.toNat<128
 ch:∀i (h:i<chars.size),(chars[i]'h).toNat<128
 big:chars.size≤1000
theorem indexAny_calls (t:ByteArray) (c:UInt8) (chars:ByteArray) (h:OneB t c chars) (w:World):
 Calls Tryz.prog 138 #[.string t,.string chars] w fun e w'=>((e=.returned (.int .i64 0)∧c∈chars.data.toList)∨(e=.returned (.int .i64 (-1))∧c∉chars.data.toList))∧Mod [] w w':=by
 have HX:=Lh h
 clear h
 go_enter Tryz.func138,Tryz.ntmps138
 go_wp2_with fail
 go_loopg [] 1 (fun g wx=>∃i:Nat,i+g=1∧Mod [] w wx∧wx.heap[w.heap.size]?=some (.stringIter t i)∧(i=1→c∉chars.data.toList))
 case atStart=>exact⟨0,rfl,(Mod.refl [] w).iter _ _,World.iter_heap _ _ _,fun h=>by omega⟩
 case round=>
  obtain⟨i,hig,hm,hk,hno⟩:=hrel
  have HM:=Lh hm
  have HN:=Lh hno
  clear hm hno
  cases gk with
  |zero=>
   obtain rfl:i=1:=by omega
   have hnx:=fun ty=>Lib.run_next_end_at (P:=Tryz.prog) wr w.heap.size t 1 ty hk (by have:=HX.out.one;omega)
   clear hk hig
   go_wp2_with fail
   go_ret
   exact⟨.inr ⟨rfl,by simpa using HN.out trivial⟩,HM.out⟩
  |succ g=>
   obtain rfl:i=0:=by omega
   obtain⟨h0,hc⟩:=HX.out.at0
   have hnx:=fun ty=>Lib.run_next_ascii_at (P:=Tryz.prog) wr w.heap.size t 0 ty hk h0 (by rw[hc];exact HX.out.low)
   rw[hc] at hnx
   have hw1:=(HM.out.iterAt (Nat.le_refl _) t 1)
   have hk1:=Lib.iterAt_heap wr w.heap.size t 0 1 hk
   clear hk hc h0
   simp only[Nat.zero_add] at hnx
   generalize wr.iterAt w.heap.size t 1=W at*
   have HW:=Lh (Aj hw1 hk1)
   clear hw1 hk1
   go_wp2_with fail
   go_loopg [8] chars.size (fun g _ wx=>∃j:Nat,j+g=chars.size∧Mod [] w wx∧wx.heap[W.heap.size]?=some (.stringIter chars j)∧wx.heap[w.heap.size]?=some (.stringIter t 1)∧∀m (h:m<chars.size),m<j→chars[m]'h≠c)
   case atStart=>
    have hlt:w.heap.size<W.heap.size:=(Array.getElem?_eq_some_iff.1 HW.out.2).1
    refine⟨0,by omega,HW.out.1.iter _ _,World.iter_heap _ _ _,?_,fun m _ h=>by omega⟩
    rw[←HW.out.2]
    exact Below.heap_alloc _ _ _ hlt
   case round=>
    obtain⟨j,hjg,hm,hk,hk0,hno⟩:=hrel
    have HM2:=Lh hm
    have HN2:=Lh hno
    have HK0:=Lh hk0
    clear hm hno hk0
    cases gk with
    |zero=>
     obtain rfl:j=chars.size:=by omega
     have hnx:=fun ty=>Lib.run_next_end_at (P:=Tryz.prog) wr W.heap.size chars chars.size ty hk (by omega)
     clear hk hjg
     go_wp2_with fail
     go_roundg g
     case measure=>omega
     case rel=>
      refine⟨1,by omega,HM2.out,HK0.out,fun _ hm=>?_⟩
      obtain⟨m,hm,e⟩:=List.getElem_of_mem hm
      exact HN2.out m hm hm e
    |succ g'=>
     have hj:j<chars.size:=by omega
     have hnx:=fun ty=>Lib.run_next_ascii_at (P:=Tryz.prog) wr W.heap.size chars j ty hk hj (HX.out.ch j hj)
     have hlt:w.heap.size<W.heap.size:=(Array.getElem?_eq_some_iff.1 HW.out.2).1
     have hw1:=HM2.out.iterAt (k:=W.heap.size) (by omega) chars (j+1)
     have hk1:=Lib.iterAt_heap wr W.heap.size chars j (j+1) hk
     have hk2:=(Lib.iterAt_other wr W.heap.size w.heap.size chars (j+1) (by omega)).trans HK0.out
     generalize wr.iterAt W.heap.size chars (j+1)=W2 at*
     have HW2:=Lh (Aj hw1 (Aj hk1 hk2))
     clear hk hw1 hk1 hk2 hlt
     by_cases he:chars[j]'hj=c
     ·have te:((c.toNat:Int)==((chars[j]'hj).toNat:Int))=true:=by rw[he];simp
      have HE:=Lh he
      clear he
      go_wp2_with fail
      go_ret
      exact⟨.inl ⟨rfl,HE.out▸List.getElem_mem (l:=chars.data.toList) (n:=j) hj⟩,HW2.out.1⟩
     ·have te:((c.toNat:Int)==((chars[j]'hj).toNat:Int))=false:=by
       rw[beq_eq_false_iff_ne]
       intro h
       exact he (UInt8.toNat_inj.1 (by omega))
      have HE:=Lh he
      clear he
      go_wp2_with fail
      go_roundg g'
      case measure=>omega
      case rel=>
       refine⟨j+1,by omega,HW2.out.1,HW2.out.2.1,HW2.out.2.2,fun m h hm=>?_⟩
       rcases Nat.lt_succ_iff_lt_or_eq.1 hm with hm|rfl
       ·exact HN2.out m h hm
       ·exact HE.out
theorem contains_calls (t:ByteArray) (c:UInt8) (chars:ByteArray) (h:OneB t c chars) (w:World):
 Calls Tryz.prog 100 #[.string t,.string chars] w fun e w'=>e=.returned (.bool (decide (c∈chars.data.toList)))∧Mod [] w w':=by
 have C:=Lh (indexAny_calls t c chars h w)
 clear h
 go_enter Tryz.func100,Tryz.ntmps100
 go_wp2_with fail
 refine C.out.mono ?_
 rintro e w1 ⟨⟨rfl,hc⟩|⟨rfl,hc⟩,m⟩
 ·have HC:=Lh (decide_eq_true hc)
  have M:=Lh m
  clear hc m C
  go_wp2_with fail
  go_ret
  exact⟨by rw[HC.out];rfl,M.out⟩
 ·have HC:=Lh (decide_eq_false hc)
  have M:=Lh m
  clear hc m C
  go_wp2_with fail
  go_ret
  exact⟨by rw[HC.out];rfl,M.out⟩
theorem containsAny_at (s:ByteArray) (i:Nat) (hi:i<s.size) (hlt:(s[i]'hi).toNat<128) (w:World):
 Calls Tryz.prog 100 #[.string (s.extract i (i+1)),.string ⟨#[101,69,105,110,117,109,107,75,77,71,84,80]⟩] w fun e w'=>e=.returned (.bool (decide ((s[i]'hi)∈letters)))∧Mod [] w w':=by
 have hs:(s.extract i (i+1)).size=1:=by rw[ByteArray.size_extract];omega
 refine contains_calls _ _ _ ⟨hs,⟨by omega,?_⟩,hlt,?_,by decide⟩ w
 ·rw[ByteArray.getElem_extract]
  rfl
 ·intro i h
  have:∀i:Fin 12,((⟨#[101,69,105,110,117,109,107,75,77,71,84,80]⟩:ByteArray)[i.1]'(by exact i.2)).toNat<128:=by decide
  exact this ⟨i,h⟩
end Go.Proofs.YtcpjclakdpjjfaaGreatDoor
