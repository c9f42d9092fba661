/- Decimals (inf/dec. -/
import Derived.Test.YtcpjclakdpjjfaaGreatDoorC15
import Derived.Test.YtcpjclakdpjjfaaGreatDoorC12
import Derived.Test.YtcpjclakdpjjfaaGreatDoorC13
import Derived.Test.YtcpjclakdpjjfaaGreatDoorC09
import Derived.Test.YtcpjclakdpjjfaaGreatDoorC16
set_option maxHeartbeats 4000000
set_option maxRecDepth 20000
namespace Go.Proofs.YtcpjclakdpjjfaaGreatDoor
open Go.RowKit Wd Dg
theorem IA.unique {w:World} {b:Nat} {s s' n n':Int} {v v':Value} (h:IA w b (some s) n v) (k:IA w b (some s') n' v'):s=s'∧v=v':=by
 have e:=h.hd.symm.trans k.hd
 simp only[hty,hdr,Option.some.injEq,Obj.cells.injEq,and_true] at e
 simp at e
 exact⟨e.2.2,e.2.1⟩
theorem dec_setScale' (b:Nat) (s c:Int) (n:Int) (v:Value) (w:World) (h:IA w b (some s) n v):
 Calls Tryz.prog 65 #[.pointer (some ⟨b,0,none⟩),.int .i32 c] w fun e w'=>e=.returned (.pointer (some ⟨b,0,none⟩))∧w.setCell ⟨b,2,none⟩ (.int .i32 c)=w':=by
 have c2:=h.scale
 have f2:=h.free 2
 clear h
 go_enter Tryz.func65,Tryz.ntmps65
 go_wp2_with fail
 go_ret
 exact⟨rfl,rfl⟩
def dV (n s:Int):Int:=n*sc (-s)
theorem dV_up {n s c:Int} {k:Nat} (hc:c=s+k) (hlo:c≤400):dV (n*(10^k:Nat)) c=dV n s:=by
 unfold dV
 have:-s=-c+k:=by omega
 rw[this,sc_add (by omega),Int.natCast_mul,Int.mul_assoc,Int.mul_comm (sc (-c):Int)]
theorem cmpZI_mul {x y:Int} {p:Nat} (hp:0<p):cmpZI (x*p) (y*p)=cmpZI x y:=by
 have hp':(0:Int)<p:=by omega
 unfold cmpZI
 have e1:x*p<y*p↔x<y:=by
  constructor
  ·intro h;exact Int.lt_of_mul_lt_mul_right h (by omega)
  ·intro h;exact Int.mul_lt_mul_of_pos_right h hp'
 have e2:y*p<x*p↔y<x:=by
  constructor
  ·intro h;exact Int.lt_of_mul_lt_mul_right h (by omega)
  ·intro h;exact Int.mul_lt_mul_of_pos_right h hp'
 simp only[e1,e2]
theorem UpRes.cmp {w w':World} {a b:Nat} {sa sb' na nb:Int} {ba bb:Nat} {va vb:Value} {c na' nb':Int} (h:UpRes w a b sa sb' na nb ba bb va vb c na' nb' w') (h2:sa≤300) (h4:sb'≤300):cmpZI na' nb'=cmpZI (dV na sa) (dV nb sb'):=by
 obtain⟨ka,kb,e1,e2,e3,e4,e5⟩:=h.val
 have hc:c≤400:=by omega
 rw[←dV_up e1 hc,←dV_up e2 hc,←e3,←e4]
 unfold dV
 rw[cmpZI_mul (sc_pos _)]
def DCmpRet (w:World) (r:Int) (e:Ending) (w':World):Prop:=e=.returned (.int .i64 r)∧Mod [] w w'
theorem dec_cmp (a b:Nat) (sa sb' na nb:Int) (va vb:Value) (w:World) (he:Env w) (ha:IA w a (some sa) na va) (hb:IA w b (some sb') nb vb) (hne:a≠b)
 (h1:-300≤sa) (h2:sa≤300) (h3:-300≤sb') (h4:sb'≤300) (h5:sa-sb'≤350) (h6:sb'-sa≤350) (hA:na.natAbs<Big) (hB:nb.natAbs<Big)
 (hA':∀k:Nat,sb'=sa+k→(na*(10^k:Nat)).natAbs<Big) (hB':∀k:Nat,sa=sb'+k→(nb*(10^k:Nat)).natAbs<Big):
 Calls Tryz.prog 78 #[.pointer (some ⟨a,0,none⟩),.pointer (some ⟨b,0,none⟩)] w (DCmpRet w (cmpZI (dV na sa) (dV nb sb'))):=by
 have HU:=Lh (dec_upscale a b sa sb' na nb va vb w he ha hb hne h1 h2 h3 h4 h5 h6 hA hB hA' hB')
 have HBND:=Lh (Aj (Aj hA hB) (Aj hA' (Aj hB' (Aj h2 h4))))
 clear he ha hb hne hA hB hA' hB' h1 h2 h3 h4 h5 h6
 go_enter Tryz.func78,Tryz.ntmps78
 go_wp2_with fail
 refine HU.out.mono ?_
 rintro e w1 ⟨ba,bb,va',vb',c,na',nb',rfl,hu⟩
 obtain⟨ka,kb,e1,e2,e3,e4,e5⟩:=hu.val
 have bA:na'.natAbs<Big:=by
  rcases e5 with rfl|rfl
  ·rw[e3];simpa using HBND.out.1.1
  ·rw[e3];exact HBND.out.2.1 ka (by omega)
 have bB:nb'.natAbs<Big:=by
  rcases e5 with rfl|rfl
  ·rw[e4];exact HBND.out.2.2.1 kb (by omega)
  ·rw[e4];simpa using HBND.out.1.2
 have HC:=Lh (int_cmp ba bb (some c) (some c) na' nb' va' vb' w1 hu.ra hu.rb hu.ne bA bB)
 have HR:=Lh (Aj (hu.cmp HBND.out.2.2.2.1 HBND.out.2.2.2.2) hu.mod)
 clear hu e1 e2 e3 e4 e5 bA bB
 go_wp2_with fail
 refine(dec_unscaledBig ba w1).mono ?_
 rintro e w2 ⟨rfl,rfl⟩
 go_wp2_with fail
 refine(dec_unscaledBig bb w1).mono ?_
 rintro e w2 ⟨rfl,rfl⟩
 go_wp2_with fail
 refine HC.out.mono ?_
 rintro e w2 ⟨rfl,m,rfl⟩
 go_wp2_with fail
 go_ret
 exact⟨by rw[HR.out.1];rfl,HR.out.2.drewN m⟩
theorem UpRes.add {w w':World} {a b:Nat} {sa sb' na nb:Int} {ba bb:Nat} {va vb:Value} {c na' nb':Int} (h:UpRes w a b sa sb' na nb ba bb va vb c na' nb' w') (h2:sa≤300) (h4:sb'≤300):dV (na'+nb') c=dV na sa+dV nb sb':=by
 obtain⟨ka,kb,e1,e2,e3,e4,e5⟩:=h.val
 have hc:c≤400:=by omega
 rw[←dV_up e1 hc,←dV_up e2 hc,←e3,←e4]
 unfold dV
 rw[Int.add_mul]
def DAddRet (w:World) (b:Nat) (v:Value) (sa sb' na nb:Int) (e:Ending) (w':World):Prop:=
 e=.returned (.pointer (some ⟨b,0,none⟩))∧∃(c n':Int) (v':Value),IntRes w b v (some c) n' v' w'∧dV n' c=dV na sa+dV nb sb'∧sa≤c∧sb'≤c∧c≤300∧(c=sa∨c=sb')
theorem dec_add (a b:Nat) (sa sb' na nb:Int) (va vb:Value) (w:World) (he:Env w) (ha:IA w a (some sa) na va) (hb:IA w b (some sb') nb vb) (hne:a≠b)
 (h1:-300≤sa) (h2:sa≤300) (h3:-300≤sb') (h4:sb'≤300) (h5:sa-sb'≤350) (h6:sb'-sa≤350) (hA:na.natAbs<Big) (hB:nb.natAbs<Big)
 (hA':∀k:Nat,sb'=sa+k→(na*(10^k:Nat)).natAbs<Big) (hB':∀k:Nat,sa=sb'+k→(nb*(10^k:Nat)).natAbs<Big):
 Calls Tryz.prog 97 #[.pointer (some ⟨a,0,none⟩),.pointer (some ⟨a,0,none⟩),.pointer (some ⟨b,0,none⟩)] w (DAddRet w a va sa sb' na nb):=by
 have HU:=Lh (dec_upscale a b sa sb' na nb va vb w he ha hb hne h1 h2 h3 h4 h5 h6 hA hB hA' hB')
 have HBND:=Lh (Aj (Aj hA hB) (Aj hA' (Aj hB' (Aj h2 h4))))
 have HA0:=Lh (Aj ha (Aj hb hne))
 clear he ha hb hne hA hB hA' hB' h1 h2 h3 h4 h5 h6
 go_enter Tryz.func97,Tryz.ntmps97
 go_wp2_with fail
 refine HU.out.mono ?_
 rintro e w1 ⟨ba,bb,va',vb',c,na',nb',rfl,hu⟩
 obtain⟨ka,kb,e1,e2,e3,e4,e5⟩:=hu.val
 have bA:na'.natAbs<Big:=by
  rcases e5 with rfl|rfl
  ·rw[e3];simpa using HBND.out.1.1
  ·rw[e3];exact HBND.out.2.1 ka (by omega)
 have bB:nb'.natAbs<Big:=by
  rcases e5 with rfl|rfl
  ·rw[e4];exact HBND.out.2.2.1 kb (by omega)
  ·rw[e4];simpa using HBND.out.1.2
 have hc:sa≤c∧sb'≤c∧c≤300∧(c=sa∨c=sb'):=by have:=HBND.out.2.2.2;omega
 have ha1:=HA0.out.1.mod hu.mod (by simp) (by simp)
 have hst:=ha1.setScale c
 have hmod:=(Mod.refl [a] w1).setCell (p:=⟨a,2,none⟩) (.int .i32 c) (.inl (by simp))
 have hra:∃n0 u0,IA (w1.setCell ⟨a,2,none⟩ (.int .i32 c)) ba (some c) na' va'∧IA (w1.setCell ⟨a,2,none⟩ (.int .i32 c)) a (some c) n0 u0∧u0=va:=by
  rcases hu.wa with rfl|hnew
  ·have hq:=hu.ra.setScale c
   obtain⟨_,e⟩:=ha1.unique hu.ra
   exact⟨na',va',hq.ia,hq.ia,e.symm⟩
  ·refine⟨na,va,hu.ra.mod hmod (by have:=HA0.out.1.lt;simp;omega) (fun j hj hx=>ha1.not_sb hu.ra.nv.zs (List.mem_singleton.1 hx▸hj)),hst.ia,rfl⟩
 obtain⟨n0,u0,hx,hz,rfl⟩:=hra
 have hbb:bb≠a:=by
  rcases hu.wb with rfl|h
  ·exact HA0.out.2.2.symm
  ·have:=HA0.out.1.lt;omega
 have hy:=hu.rb.mod hmod (by simp[hbb]) (fun j hj hx=>ha1.not_sb hu.rb.nv.zs (List.mem_singleton.1 hx▸hj))
 have HSC:=Lh (dec_scale ba c na' va' w1 hu.ra)
 have HSS:=Lh (dec_setScale' a sa c na u0 w1 ha1)
 have HI:=Lh (int_add a ba bb (some c) (some c) (some c) n0 na' nb' u0 va' vb' _ hz hx hy bA bB)
 have HR:=Lh (Aj (hu.add HBND.out.2.2.2.1 HBND.out.2.2.2.2) (Aj hu.mod (Aj hc hmod)))
 clear hu e1 e2 e3 e4 e5 bA bB hc ha1 hst hmod hx hz hbb hy
 go_wp2_with fail
 refine HSC.out.mono ?_
 rintro e w2 ⟨rfl,rfl⟩
 go_wp2_with fail
 refine HSS.out.mono ?_
 rintro e w2 ⟨rfl,rfl⟩
 generalize w1.setCell ⟨a,2,none⟩ (.int .i32 c)=w2 at*
 go_wp2_with fail
 refine(dec_unscaledBig a w2).mono ?_
 rintro e w3 ⟨rfl,rfl⟩
 go_wp2_with fail
 refine(dec_unscaledBig ba w2).mono ?_
 rintro e w3 ⟨rfl,rfl⟩
 go_wp2_with fail
 refine(dec_unscaledBig bb w2).mono ?_
 rintro e w3 ⟨rfl,rfl⟩
 go_wp2_with fail
 refine HI.out.mono ?_
 rintro e w3 ⟨rfl,v',hr⟩
 have H3:=Lh hr
 clear hr
 go_wp2_with fail
 go_ret
 obtain⟨q1,q2,q3,q4⟩:=HR.out
 refine⟨rfl,c,_,v',⟨H3.out.ia,?_,fun j hj=>(H3.out.own j hj).imp id (fun h=>Nat.le_trans (Nat.le_trans q2.size q4.size) h)⟩,q1,q3⟩
 exact((q2.mono (by simp)).step q4 (fun x hx=>.inl (by rw[List.mem_singleton.1 hx];simp))).trans H3.out.mod
theorem UpRes.sub {w w':World} {a b:Nat} {sa sb' na nb:Int} {ba bb:Nat} {va vb:Value} {c na' nb':Int} (h:UpRes w a b sa sb' na nb ba bb va vb c na' nb' w') (h2:sa≤300) (h4:sb'≤300):dV (na'-nb') c=dV na sa-dV nb sb':=by
 obtain⟨ka,kb,e1,e2,e3,e4,e5⟩:=h.val
 have hc:c≤400:=by omega
 rw[←dV_up e1 hc,←dV_up e2 hc,←e3,←e4]
 unfold dV
 rw[Int.sub_mul]
def DSubRet (w:World) (b:Nat) (v:Value) (sa sb' na nb:Int) (e:Ending) (w':World):Prop:=
 e=.returned (.pointer (some ⟨b,0,none⟩))∧∃(c n':Int) (v':Value),IntRes w b v (some c) n' v' w'∧dV n' c=dV na sa-dV nb sb'∧sa≤c∧sb'≤c∧c≤300∧(c=sa∨c=sb')
theorem dec_sub (a b:Nat) (sa sb' na nb:Int) (va vb:Value) (w:World) (he:Env w) (ha:IA w a (some sa) na va) (hb:IA w b (some sb') nb vb) (hne:a≠b)
 (h1:-300≤sa) (h2:sa≤300) (h3:-300≤sb') (h4:sb'≤300) (h5:sa-sb'≤350) (h6:sb'-sa≤350) (hA:na.natAbs<Big) (hB:nb.natAbs<Big)
 (hA':∀k:Nat,sb'=sa+k→(na*(10^k:Nat)).natAbs<Big) (hB':∀k:Nat,sa=sb'+k→(nb*(10^k:Nat)).natAbs<Big):
 Calls Tryz.prog 99 #[.pointer (some ⟨a,0,none⟩),.pointer (some ⟨a,0,none⟩),.pointer (some ⟨b,0,none⟩)] w (DSubRet w a va sa sb' na nb):=by
 have HU:=Lh (dec_upscale a b sa sb' na nb va vb w he ha hb hne h1 h2 h3 h4 h5 h6 hA hB hA' hB')
 have HBND:=Lh (Aj (Aj hA hB) (Aj hA' (Aj hB' (Aj h2 h4))))
 have HA0:=Lh (Aj ha (Aj hb hne))
 clear he ha hb hne hA hB hA' hB' h1 h2 h3 h4 h5 h6
 go_enter Tryz.func99,Tryz.ntmps99
 go_wp2_with fail
 refine HU.out.mono ?_
 rintro e w1 ⟨ba,bb,va',vb',c,na',nb',rfl,hu⟩
 obtain⟨ka,kb,e1,e2,e3,e4,e5⟩:=hu.val
 have bA:na'.natAbs<Big:=by
  rcases e5 with rfl|rfl
  ·rw[e3];simpa using HBND.out.1.1
  ·rw[e3];exact HBND.out.2.1 ka (by omega)
 have bB:nb'.natAbs<Big:=by
  rcases e5 with rfl|rfl
  ·rw[e4];exact HBND.out.2.2.1 kb (by omega)
  ·rw[e4];simpa using HBND.out.1.2
 have hc:sa≤c∧sb'≤c∧c≤300∧(c=sa∨c=sb'):=by have:=HBND.out.2.2.2;omega
 have ha1:=HA0.out.1.mod hu.mod (by simp) (by simp)
 have hst:=ha1.setScale c
 have hmod:=(Mod.refl [a] w1).setCell (p:=⟨a,2,none⟩) (.int .i32 c) (.inl (by simp))
 have hra:∃n0 u0,IA (w1.setCell ⟨a,2,none⟩ (.int .i32 c)) ba (some c) na' va'∧IA (w1.setCell ⟨a,2,none⟩ (.int .i32 c)) a (some c) n0 u0∧u0=va:=by
  rcases hu.wa with rfl|hnew
  ·have hq:=hu.ra.setScale c
   obtain⟨_,e⟩:=ha1.unique hu.ra
   exact⟨na',va',hq.ia,hq.ia,e.symm⟩
  ·refine⟨na,va,hu.ra.mod hmod (by have:=HA0.out.1.lt;simp;omega) (fun j hj hx=>ha1.not_sb hu.ra.nv.zs (List.mem_singleton.1 hx▸hj)),hst.ia,rfl⟩
 obtain⟨n0,u0,hx,hz,rfl⟩:=hra
 have hbb:bb≠a:=by
  rcases hu.wb with rfl|h
  ·exact HA0.out.2.2.symm
  ·have:=HA0.out.1.lt;omega
 have hy:=hu.rb.mod hmod (by simp[hbb]) (fun j hj hx=>ha1.not_sb hu.rb.nv.zs (List.mem_singleton.1 hx▸hj))
 have HSC:=Lh (dec_scale ba c na' va' w1 hu.ra)
 have HSS:=Lh (dec_setScale' a sa c na u0 w1 ha1)
 have HI:=Lh (int_sub a ba bb (some c) (some c) (some c) n0 na' nb' u0 va' vb' _ hz hx hy bA bB)
 have HR:=Lh (Aj (hu.sub HBND.out.2.2.2.1 HBND.out.2.2.2.2) (Aj hu.mod (Aj hc hmod)))
 clear hu e1 e2 e3 e4 e5 bA bB hc ha1 hst hmod hx hz hbb hy
 go_wp2_with fail
 refine HSC.out.mono ?_
 rintro e w2 ⟨rfl,rfl⟩
 go_wp2_with fail
 refine HSS.out.mono ?_
 rintro e w2 ⟨rfl,rfl⟩
 generalize w1.setCell ⟨a,2,none⟩ (.int .i32 c)=w2 at*
 go_wp2_with fail
 refine(dec_unscaledBig a w2).mono ?_
 rintro e w3 ⟨rfl,rfl⟩
 go_wp2_with fail
 refine(dec_unscaledBig ba w2).mono ?_
 rintro e w3 ⟨rfl,rfl⟩
 go_wp2_with fail
 refine(dec_unscaledBig bb w2).mono ?_
 rintro e w3 ⟨rfl,rfl⟩
 go_wp2_with fail
 refine HI.out.mono ?_
 rintro e w3 ⟨rfl,v',hr⟩
 have H3:=Lh hr
 clear hr
 go_wp2_with fail
 go_ret
 obtain⟨q1,q2,q3,q4⟩:=HR.out
 refine⟨rfl,c,_,v',⟨H3.out.ia,?_,fun j hj=>(H3.out.own j hj).imp id (fun h=>Nat.le_trans (Nat.le_trans q2.size q4.size) h)⟩,q1,q3⟩
 exact((q2.mono (by simp)).step q4 (fun x hx=>.inl (by rw[List.mem_singleton.1 hx];simp))).trans H3.out.mod
end Go.Proofs.YtcpjclakdpjjfaaGreatDoor
namespace Go.Proofs.YtcpjclakdpjjfaaGreatDoor
open Go.RowKit Wd Dg
theorem IA.setScale0 {w:World} {b:Nat} {s:Int} {n:Int} {v:Value} (h:IA w b (some s) n v) (c:Int) {d:Nat} {s':Option Int} {m:Int} {u:Value} (k:IA w d s' m u) (hne:d≠b):IA (w.setCell ⟨b,2,none⟩ (.int .i32 c)) d s' m u:=
 k.mod ((Mod.refl [b] w).setCell (p:=⟨b,2,none⟩) (.int .i32 c) (.inl (by simp))) (by simp[hne]) (fun j hj hx=>h.not_sb k.nv.zs (List.mem_singleton.1 hx▸hj))
theorem dec_mul (a b:Nat) (sa sb' na nb:Int) (va vb:Value) (w:World) (he:Env w) (ha:IA w a (some sa) na va) (hb:IA w b (some sb') nb vb) (hne:a≠b)
 (h1:-1000≤sa) (h2:sa≤1000) (h3:-1000≤sb') (h4:sb'≤1000) (hA:na.natAbs<Big) (hB:nb.natAbs<B^39):
 Calls Tryz.prog 93 #[.pointer (some ⟨a,0,none⟩),.pointer (some ⟨a,0,none⟩),.pointer (some ⟨b,0,none⟩)] w (IntRet w a va (some (sa+sb')) (na*nb)):=by
 have HS:=Lh (Aj (dec_scale a sa na va w ha) (dec_scale b sb' nb vb w hb))
 have HT:=Lh (dec_setScale' a sa (sa+sb') na va w ha)
 have hst:=ha.setScale (sa+sb')
 have HM:=Lh (int_mul a a b (some (sa+sb')) (some (sa+sb')) (some sb') na na nb va va vb _ hst.ia hst.ia (ha.setScale0 (sa+sb') hb hne.symm) (he.mod hst.mod (fun k hk=>by
  rcases List.mem_cons.1 hk with rfl|hk
  ·exact ha.lo
  ·exact ha.vlo k hk)) hne hA hB)
 have HST:=Lh hst
 have t:IntKind.i32.wrap (sa+sb')=sa+sb':=by rw[IntKind.wrap_i32];omega
 clear ha hb hne hA hB hst he h1 h2 h3 h4
 go_enter Tryz.func93,Tryz.ntmps93
 go_wp2_with fail
 refine HS.out.1.mono ?_
 rintro e w1 ⟨rfl,rfl⟩
 go_wp2_with fail
 refine HS.out.2.mono ?_
 rintro e w1 ⟨rfl,rfl⟩
 go_wp2_with fail
 refine HT.out.mono ?_
 rintro e w1 ⟨rfl,rfl⟩
 generalize w.setCell ⟨a,2,none⟩ (.int .i32 (sa+sb'))=w2 at*
 go_wp2_with fail
 refine(dec_unscaledBig a w2).mono ?_
 rintro e w3 ⟨rfl,rfl⟩
 go_wp2_with fail
 refine(dec_unscaledBig a w2).mono ?_
 rintro e w3 ⟨rfl,rfl⟩
 go_wp2_with fail
 refine(dec_unscaledBig b w2).mono ?_
 rintro e w3 ⟨rfl,rfl⟩
 go_wp2_with fail
 refine HM.out.mono ?_
 rintro e w3 ⟨rfl,v',hr⟩
 have H3:=Lh (HST.out.trans hr)
 clear hr
 go_wp2_with fail
 go_ret
 exact⟨rfl,_,H3.out⟩
theorem dec_neg (a:Nat) (sa na:Int) (va:Value) (w:World) (ha:IA w a (some sa) na va):
 Calls Tryz.prog 74 #[.pointer (some ⟨a,0,none⟩),.pointer (some ⟨a,0,none⟩)] w (IntRet w a va (some sa) (-na)):=by
 have HS:=Lh (dec_scale a sa na va w ha)
 have HT:=Lh (dec_setScale' a sa sa na va w ha)
 have hst:=ha.setScale sa
 have HN:=Lh (int_neg a (some sa) na va _ hst.ia)
 have HST:=Lh hst
 clear ha hst
 go_enter Tryz.func74,Tryz.ntmps74
 go_wp2_with fail
 refine HS.out.mono ?_
 rintro e w1 ⟨rfl,rfl⟩
 go_wp2_with fail
 refine HT.out.mono ?_
 rintro e w1 ⟨rfl,rfl⟩
 generalize w.setCell ⟨a,2,none⟩ (.int .i32 sa)=w2 at*
 go_wp2_with fail
 refine(dec_unscaledBig a w2).mono ?_
 rintro e w3 ⟨rfl,rfl⟩
 go_wp2_with fail
 refine(dec_unscaledBig a w2).mono ?_
 rintro e w3 ⟨rfl,rfl⟩
 go_wp2_with fail
 refine HN.out.mono ?_
 rintro e w3 ⟨rfl,v',hr⟩
 have H3:=Lh (HST.out.trans hr)
 clear hr
 go_wp2_with fail
 go_ret
 exact⟨rfl,_,H3.out⟩
def UnsRet (n:Int) (w:World) (e:Ending) (w':World):Prop:=e=.returned (.tuple #[.int .i64 (wrap64 n),.bool (cmpZI (wrap64 n) n==0)])∧Mod [] w w'
theorem dec_unscaled (a:Nat) (sa na:Int) (va:Value) (w:World) (he:Env w) (ha:IA w a (some sa) na va) (hA:na.natAbs<Big):
 Calls Tryz.prog 75 #[.pointer (some ⟨a,0,none⟩)] w (UnsRet na w):=by
 have H1:=Lh (int_int64 a (some sa) na va w ha)
 have hz:=new_zero w he.big
 have hap:=hz.apart ha
 have hr64:=wrap64_i64 na
 unfold i64 at hr64
 have hB:(wrap64 na).natAbs<Big:=by
  have:(wrap64 na).natAbs<B:=by rw[B_eq];omega
  rw[Big_eq];exact Nat.lt_of_lt_of_le this (Nat.le_self_pow (by decide) B)
 have hset:=fun k=>int_setInt64 w.heap.size none 0 (.slice none 0 0) (wrap64 na) _ (hz.ia.drewN k) hr64.1 hr64.2
 have HSET:=Lh hset
 have HZ:=Lh (Aj hz (Aj hap (Aj hA hB)))
 clear hset hz hap hA hB hr64 he ha
 generalize hu:wrap64 na=u at*
 go_enter Tryz.func75,Tryz.ntmps75
 go_wp2_with fail
 refine H1.out.mono ?_
 rintro e w1 ⟨rfl,rfl⟩
 go_wp2_with fail
 go_region_law (first|(go_simp;go_at_call 114;refine(HSET.out _).mono ?_;rintro e w2 ⟨rfl,v',hr⟩;have HR:=Lh hr;have HC:=Lh (int_cmp w.heap.size a none (some sa) u na v' va w2 hr.ia (hr.other (HZ.out.2.1.2.2.drewN _) (HZ.out.1.ia.drewN _) HZ.out.2.1.1 HZ.out.2.1.2.1) HZ.out.2.1.1.symm HZ.out.2.2.2 HZ.out.2.2.1);clear hr)|(go_simp;go_at_call 115;refine HC.out.mono ?_;rintro e w3 ⟨rfl,m,rfl⟩))
 all_goals
  go_wp2_with fail
  go_ret2
  refine⟨by first|rfl|(rw[hu];rfl),?_⟩
  exact((HZ.out.1.mod.drewN _).step HR.out.mod (fun x hx=>by simp[sb] at hx;omega)).drewN m
end Go.Proofs.YtcpjclakdpjjfaaGreatDoor
namespace Go.Proofs.YtcpjclakdpjjfaaGreatDoor
open Go.RowKit Wd Dg
def QD (n sx s nix niy:Int):Prop:=(∃k:Nat,s=sx+k∧nix=n*(10^k:Nat)∧niy=1)∨(∃k:Nat,sx=s+k∧nix=n∧niy=(10^k:Nat))
structure QOps (w:World) (n sx s:Int) (bz br bd bix biy:Nat) (nix niy:Int) (six siy:Option Int) (vix viy:Value) (wx:World):Prop where
 x:IA wx bix six nix vix
 y:IA wx biy siy niy viy
 mod:Mod [] w wx
 ne:bix≠bz∧bix≠br∧bix≠bd∧biy≠bz∧biy≠br∧biy≠bd
 qd:QD n sx s nix niy
 bx:nix.natAbs<Big
 by':niy.natAbs<B^39
theorem QD.pos {n sx s nix niy:Int} (h:QD n sx s nix niy):0<niy:=by
 rcases h with ⟨k,_,_,rfl⟩|⟨k,_,_,rfl⟩
 ·decide
 ·have:=Nat.pow_pos (n:=k) (show 0<10 by decide);omega
structure QRD (w:World) (n sx s:Int) (bz br bd:Nat) (nix niy:Int) (vq vr vd:Value) (w':World):Prop where
 qd:QD n sx s nix niy
 q:IA w' bz (some s) (nix.tdiv niy) vq
 r:IA w' br none (nix.tmod niy) vr
 d:IA w' bd none niy vd
 mod:Mod [bz,br,bd] w w'
 own:(∀j,j∈sb vq→w.heap.size≤j)∧(∀j,j∈sb vr→w.heap.size≤j)∧(∀j,j∈sb vd→w.heap.size≤j)
 big:nix.natAbs<Big
def QRDRet (w:World) (n sx s:Int) (bz br bd:Nat) (e:Ending) (w':World):Prop:=
 e=.returned (.tuple #[.pointer (some ⟨bz,0,none⟩),.pointer (some ⟨br,0,none⟩),.pointer (some ⟨bd,0,none⟩)])∧∃nix niy vq vr vd,QRD w n sx s bz br bd nix niy vq vr vd w'
theorem IA.other1 {w w':World} {b c:Nat} {s s':Option Int} {n n':Int} {v u:Value} (h:IntRes w b (.slice none 0 0) s n v w') {n0:Int} {s0:Option Int} (k:IA w c s' n' u) (hne:c≠b) (hb:IA w b s0 n0 (.slice none 0 0)):IA w' c s' n' u:=
 h.other k hb hne (by simp[sb])
theorem QRInt.other {w w':World} {bz br c:Nat} {vz vr u v v2:Value} {sz sr s1 s2 s:Option Int} {q r n1 n2 n:Int} (h:QRInt w bz br vz vr sz sr q r v v2 w') (hz:IA w bz s1 n1 vz) (hr:IA w br s2 n2 vr) (k:IA w c s n u)
 (h1:c≠bz) (h2:c≠br) (d1:∀j,j∈sb u→j∉sb vz) (d2:∀j,j∈sb u→j∉sb vr):IA w' c s n u:=
 k.mod h.mod (by simp only[List.mem_cons,List.mem_append,not_or];exact⟨h1,h2,k.not_sb hz.nv.zs,k.not_sb hr.nv.zs⟩)
  (fun j hj=>by simp only[List.mem_cons,List.mem_append,not_or];exact⟨fun e=>hz.not_sb k.nv.zs (e▸hj),fun e=>hr.not_sb k.nv.zs (e▸hj),d1 j hj,d2 j hj⟩)
theorem dec_quoRem (bz bx bY br bd:Nat) (n sx s:Int) (vx vy:Value) (w:World) (he:Env w) (hz:IA w bz (some 0) 0 (.slice none 0 0)) (hx:IA w bx (some sx) n vx) (hy:IA w bY (some 0) 1 vy)
 (hr:IA w br none 0 (.slice none 0 0)) (hdd:IA w bd none 0 (.slice none 0 0)) (n1:bx≠bz) (n2:bx≠br) (n3:bx≠bd) (n4:bY≠bz) (n5:bY≠br) (n6:bY≠bd) (n7:bz≠br) (n8:bz≠bd) (n9:br≠bd)
 (h1:-300≤sx) (h2:sx≤300) (h3:-300≤s) (h4:s≤300) (h5:s-sx≤350) (h6:sx-s≤350) (hA:n.natAbs<Big) (hA':∀k:Nat,s=sx+k→(n*(10^k:Nat)).natAbs<Big):
 Calls Tryz.prog 187 #[.pointer (some ⟨bz,0,none⟩),.pointer (some ⟨bx,0,none⟩),.pointer (some ⟨bY,0,none⟩),.int .i32 s,.bool true,.pointer (some ⟨br,0,none⟩),.pointer (some ⟨bd,0,none⟩)] w (QRDRet w n sx s bz br bd):=by
 have HS1:=Lh (dec_scale bx sx n vx w hx)
 have HS2:=Lh (dec_scale bY 0 1 vy w hy)
 have e1:IntKind.i32.wrap (sx-0)=sx:=by rw[IntKind.wrap_i32];omega
 have e2:IntKind.i32.wrap (s-sx)=s-sx:=by rw[IntKind.wrap_i32];omega
 go_enter Tryz.func187,Tryz.ntmps187
 go_wp2_with fail
 refine HS1.out.mono ?_
 rintro e w1 ⟨rfl,rfl⟩
 go_wp2_with fail
 refine HS2.out.mono ?_
 rintro e w1 ⟨rfl,rfl⟩
 go_upto_block 0 with fail
 go_cut [18,19] from 17 to 56 (fun t18 t19 w0=>∃(wx:World) (bix biy:Nat) (nix niy:Int) (six siy:Option Int) (vix viy:Value),wx=w0∧t18=.pointer (some ⟨bix,0,none⟩)∧t19=.pointer (some ⟨biy,0,none⟩)∧QOps w n sx s bz br bd bix biy nix niy six siy vix viy wx)
 case first=>
  rcases Int.lt_trichotomy sx s with hlt|heq|hgt
  ·obtain⟨k,hk⟩:=Int.eq_ofNat_of_zero_le (show 0≤s-sx by omega)
   obtain rfl:s=sx+k:=by omega
   have hn:=new_zero w he.big
   have hen:=hn.env he
   have HE:=Lh (exp10_calls k _ hen (by omega) (by omega))
   have HB:=Lh (Aj (hA' k rfl) (pow10_lt k 39 (by omega)))
   have HN:=Lh (Aj hn hen)
   have H0:=Lh (Aj he (Aj hx (Aj hy (Aj hA (Aj hz (Aj hr hdd))))))
   have NE:=Lh (Aj n4 (Aj n5 n6))
   have t3:decide (0<k)=true:=by simp;omega
   have e3:sx+(k:Int)-sx=k:=by omega
   rw[e3]
   have hk350:k≤350:=by omega
   clear hn hen he hx hy hA hA' hz hr hdd hk n1 n2 n3 n4 n5 n6 h1 h2 h3 h4 h5 h6 hlt e1 e2 HS1 HS2
   go_wp2_with fail
   refine(dec_unscaledBig bx _).mono ?_
   rintro e w1 ⟨rfl,rfl⟩
   go_wp2_with fail
   refine HE.out.mono ?_
   rintro e w1 ⟨be,ve,rfl,h3⟩
   obtain⟨hn,hen⟩:=HN.out
   obtain⟨he,hx,hy,hA,hz,hr,hdd⟩:=H0.out
   have x1:=(h3.apart (hn.apart hx).2.2)
   have i1:=h3.apart hn.ia
   have HM:=Lh (int_mul w.heap.size bx be none (some sx) none 0 n _ _ vx ve w1 i1.2.2 x1.2.2 h3.ia (h3.env hen) x1.1 hA (by rw[Int.natAbs_natCast];exact HB.out.2))
   have H3:=Lh (Aj h3 (h3.apart (hn.apart hy).2.2).2.2)
   clear h3 hn hen he hx hy hA hz hr hdd x1 i1
   go_wp2_with fail
   refine HM.out.mono ?_
   rintro e w2 ⟨rfl,v',h4⟩
   have H4:=Lh h4
   clear h4
   go_wp2_with fail
   refine(dec_unscaledBig bY _).mono ?_
   rintro e w3 ⟨rfl,rfl⟩
   go_wp2_with fail
   go_meet
   case rel=>
    obtain⟨hn,hen⟩:=HN.out
    obtain⟨h3,hy3⟩:=H3.out
    have h4:=H4.out
    obtain⟨he,hx,hy,hA,hz,hr,hdd⟩:=H0.out
    obtain⟨n4,n5,n6⟩:=NE.out
    have l1:=hz.lt
    have l2:=hr.lt
    have l3:=hdd.lt
    have l4:=hy.lt
    have hY:IA w2 bY (some 0) 1 vy:=hy3.mod h4.mod (by simp[sb];omega) (by simp[sb];intro j hj e;have:=hy.nv.zs.lt j hj;omega)
    exact⟨_,_,bY,_,1,none,some 0,v',vy,rfl,rfl,rfl,⟨h4.ia,hY,(hn.mod.trans h3.mod).step h4.mod (fun x hx=>by simp[sb] at hx;omega),⟨by omega,by omega,by omega,n4,n5,n6⟩,.inl ⟨k,rfl,rfl,rfl⟩,HB.out.1,by
     have hb:1<B:=by rw[B_eq];decide
     exact Nat.lt_of_lt_of_le hb (Nat.le_self_pow (by decide) B)⟩⟩
  ·subst heq
   rw[Int.sub_self]
   have F:QOps w n sx sx bz br bd bx bY n 1 (some sx) (some 0) vx vy w:=⟨hx,hy,Mod.refl _ _,⟨n1,n2,n3,n4,n5,n6⟩,.inl ⟨0,by omega,by simp,rfl⟩,hA,by
    have hb:1<B:=by rw[B_eq];decide
    exact Nat.lt_of_lt_of_le hb (Nat.le_self_pow (by decide) B)⟩
   have FF:=Lh F
   clear F he hx hy hA hA' hz hr hdd n1 n2 n3 n4 n5 n6 h1 h2 h3 h4 h5 h6 e1 e2 HS1 HS2
   go_wp2_with fail
   refine(dec_unscaledBig bx _).mono ?_
   rintro e w1 ⟨rfl,rfl⟩
   go_wp2_with fail
   refine(dec_unscaledBig bY _).mono ?_
   rintro e w1 ⟨rfl,rfl⟩
   go_wp2_with fail
   go_meet
   case rel=>exact⟨_,bx,bY,n,1,_,_,vx,vy,rfl,rfl,rfl,FF.out⟩
  ·obtain⟨k,hk⟩:=Int.eq_ofNat_of_zero_le (show 0≤sx-s by omega)
   obtain rfl:sx=s+k:=by omega
   have hn:=new_zero w he.big
   have hen:=hn.env he
   have HE:=Lh (exp10_calls k _ hen (by omega) (by omega))
   have HB:=Lh (pow10_lt k 39 (by omega))
   have HN:=Lh (Aj hn hen)
   have H0:=Lh (Aj he (Aj hx (Aj hy (Aj hA (Aj hz (Aj hr hdd))))))
   have NE:=Lh (Aj n1 (Aj n2 n3))
   have t3:decide (0< -(k:Int))=false:=by simp
   have t5:decide ((k:Int)<0)=false:=by simp
   have t6:decide ((0:Int)<(k:Int))=true:=by simp;omega
   have t7:decide (0<k)=true:=by simp;omega
   have t4:decide (-(k:Int)<0)=true:=by simp;omega
   have e3:s-(s+(k:Int))=-k:=by omega
   rw[e3]
   have hk350:k≤350:=by omega
   clear hn hen he hx hy hA hA' hz hr hdd hk n1 n2 n3 n4 n5 n6 h1 h2 h3 h4 h5 h6 hgt e1 e2 HS1 HS2
   go_wp2_with fail
   refine(dec_unscaledBig bx _).mono ?_
   rintro e w1 ⟨rfl,rfl⟩
   go_wp2_with fail
   refine(dec_unscaledBig bY _).mono ?_
   rintro e w1 ⟨rfl,rfl⟩
   go_wp2_with fail
   refine HE.out.mono ?_
   rintro e w1 ⟨be,ve,rfl,h3⟩
   obtain⟨hn,hen⟩:=HN.out
   obtain⟨he,hx,hy,hA,hz,hr,hdd⟩:=H0.out
   have y1:=(h3.apart (hn.apart hy).2.2)
   have i1:=h3.apart hn.ia
   have HM:=Lh (int_mul w.heap.size bY be none (some 0) none 0 1 _ _ vy ve w1 i1.2.2 y1.2.2 h3.ia (h3.env hen) y1.1 (by
    have hb:1<B:=by rw[B_eq];decide
    rw[Big_eq];exact Nat.lt_of_lt_of_le hb (Nat.le_self_pow (by decide) B)) (by rw[Int.natAbs_natCast];exact HB.out))
   have H3:=Lh (Aj h3 (h3.apart (hn.apart hx).2.2).2.2)
   clear h3 hn hen he hx hy hA hz hr hdd y1 i1
   go_wp2_with fail
   refine HM.out.mono ?_
   rintro e w2 ⟨rfl,v',h4⟩
   have H4:=Lh h4
   clear h4
   go_wp2_with fail
   go_meet
   case rel=>
    obtain⟨hn,hen⟩:=HN.out
    obtain⟨h3,hx3⟩:=H3.out
    have h4:=H4.out
    obtain⟨he,hx,hy,hA,hz,hr,hdd⟩:=H0.out
    obtain⟨n1,n2,n3⟩:=NE.out
    have l1:=hz.lt
    have l2:=hr.lt
    have l3:=hdd.lt
    have l4:=hx.lt
    have hX:IA w2 bx (some (s+k)) n vx:=hx3.mod h4.mod (by simp[sb];omega) (by simp[sb];intro j hj e;have:=hx.nv.zs.lt j hj;omega)
    exact⟨_,bx,_,n,_,_,none,vx,v',rfl,rfl,rfl,⟨hX,h4.ia,(hn.mod.trans h3.mod).step h4.mod (fun x hx=>by simp[sb] at hx;omega),⟨n1,n2,n3,by omega,by omega,by omega⟩,.inr ⟨k,rfl,rfl,by rw[Int.one_mul]⟩,hA,by rw[Int.one_mul,Int.natAbs_natCast];exact HB.out⟩⟩
 case rest=>
  obtain⟨wx,bix,biy,nix,niy,six,siy,vix,viy,rfl,rfl,rfl,Q⟩:=hcut
  have hz1:=hz.mod Q.mod (by simp) (by simp)
  have hr1:=hr.mod Q.mod (by simp) (by simp)
  have hd1:=hdd.mod Q.mod (by simp) (by simp)
  have hp:=iptr_eql Q.y hz1
  rw[show decide (biy=bz)=false by simp[Q.ne.2.2.2.1]] at hp
  have HT:=Lh (dec_setScale' bz 0 s 0 _ wx hz1)
  have hst:=hz1.setScale s
  have hx2:=hz1.setScale0 s Q.x Q.ne.1
  have hy2:=hz1.setScale0 s Q.y Q.ne.2.2.2.1
  have hr2:=hz1.setScale0 s hr1 n7.symm
  have hd2:=hz1.setScale0 s hd1 n8.symm
  have he2:Env (wx.setCell ⟨bz,2,none⟩ (.int .i32 s)):=(he.mod Q.mod (by simp)).mod hst.mod (fun k hk=>by simp[sb] at hk;rw[hk];exact hz.lo)
  have HQ:=Lh Q
  have H2:=Lh (Aj hst (Aj hx2 (Aj hy2 (Aj hr2 (Aj hd2 (Aj he2 (Aj n7 (Aj n8 n9))))))))
  have LT:=Lh (Aj hz.lt (Aj hr.lt hdd.lt))
  clear hz1 hr1 hd1 hst hx2 hy2 hr2 hd2 he2 Q he hx hy hA hA' hz hr hdd n1 n2 n3 n4 n5 n6 n7 n8 n9 h1 h2 h3 h4 h5 h6 e1 e2 HS1 HS2
  go_wp2_with fail
  refine(dec_unscaledBig bz _).mono ?_
  rintro e w1 ⟨rfl,rfl⟩
  go_wp2_with fail
  refine HT.out.mono ?_
  rintro e w1 ⟨rfl,rfl⟩
  generalize wx.setCell ⟨bz,2,none⟩ (.int .i32 s)=w2 at*
  go_wp2_with fail
  refine(dec_unscaledBig bz _).mono ?_
  rintro e w1 ⟨rfl,rfl⟩
  obtain⟨hst,hx2,hy2,hr2,hd2,he2,n7,n8,n9⟩:=H2.out
  have hn:=new_zero w2 he2.big
  have kz:=hn.apart hst.ia
  have kx:=hn.apart hx2
  have ky:=hn.apart hy2
  have hQR:=int_quoRem bz bix biy w2.heap.size (some s) six siy none 0 nix niy 0 (.slice none 0 0) vix viy (.slice none 0 0) _ (hn.env he2) kz.2.2 kx.2.2 ky.2.2 hn.ia HQ.out.ne.1.symm HQ.out.ne.2.2.2.1.symm kz.1 kx.1 ky.1 (by simp[sb]) (by simp[sb]) HQ.out.bx HQ.out.by' HQ.out.qd.pos
  have HQR:=Lh hQR
  have HN:=Lh (Aj hn (Aj (hn.apart hr2).2.2 (Aj (hn.apart hd2).2.2 ky.2.2)))
  have LTz:=Lh hst.ia
  have LT2:=Lh (Aj hst.ia.lt (Aj hr2.lt (Aj hd2.lt hy2.lt)))
  clear hQR hn kz kx ky hst hx2 hy2 hr2 hd2 he2
  go_wp2_with fail
  refine HQR.out.mono ?_
  rintro e w3 ⟨rfl,vq,v2,h3⟩
  obtain⟨hn,hr3,hd3,hy3⟩:=HN.out
  obtain⟨l1,l2,l3,l4⟩:=LT2.out
  have zz:=hn.apart (LTz.out)
  have hr4:=h3.other zz.2.2 hn.ia hr3 n7.symm (by omega) (by simp[sb]) (by simp[sb])
  have hd4:=h3.other zz.2.2 hn.ia hd3 n8.symm (by omega) (by simp[sb]) (by simp[sb])
  have hy4:=h3.other zz.2.2 hn.ia hy3 HQ.out.ne.2.2.2.1 (by omega) (by simp[sb]) (by simp[sb])
  have hbr:(nix.tmod niy).natAbs<Big:=by
   rw[Int.natAbs_tmod];exact Nat.lt_of_le_of_lt (Nat.mod_le _ _) HQ.out.bx
  have HSR:=Lh (int_set br w2.heap.size none none 0 _ (.slice none 0 0) v2 w3 hr4 h3.r (by omega) hbr)
  have H3:=Lh (Aj h3 (Aj hr4 (Aj hd4 (Aj hy4 hn.mod))))
  clear h3 hn hr3 hd3 hy3 zz hr4 hd4 hy4 hbr
  go_wp2_with fail
  refine HSR.out.mono ?_
  rintro e w4 ⟨rfl,v4,h5⟩
  obtain⟨h3,hr4,hd4,hy4,hnm⟩:=H3.out
  have hq5:=IA.other1 h5 h3.q n7 hr4
  have hd5:=IA.other1 h5 hd4 n9.symm hr4
  have hy5:=IA.other1 h5 hy4 HQ.out.ne.2.2.2.2.1 hr4
  have hby:niy.natAbs<Big:=Nat.lt_trans HQ.out.by' B39_Big
  have HSD:=Lh (int_set bd biy none siy 0 niy (.slice none 0 0) viy w4 hd5 hy5 HQ.out.ne.2.2.2.2.2.symm hby)
  have H5:=Lh (Aj h5 (Aj hq5 hd5))
  clear h3 hr4 hd4 hy4 hnm h5 hq5 hd5 hy5 hby
  go_wp2_with fail
  refine HSD.out.mono ?_
  rintro e w5 ⟨rfl,v5,h6⟩
  have H6:=Lh h6
  clear h6
  go_wp2_with fail
  refine bodyPost_ret (results_tmp3 rfl _ _ _) rfl ?_
  obtain⟨h3,hr4,hd4,hy4,hnm⟩:=H3.out
  obtain⟨h5,hq5,hd5⟩:=H5.out
  have h6:=H6.out
  have m0:=HQ.out.mod
  obtain⟨hst,_⟩:=H2.out
  have s0:=m0.size
  have s1:=hst.mod.size
  have s2:=hnm.size
  have s3:=h3.mod.size
  have s4:=h5.mod.size
  refine⟨rfl,nix,niy,vq,v4,v5,HQ.out.qd,IA.other1 h6 hq5 n8 hd5,IA.other1 h6 h5.ia n9 hd5,h6.ia,?_,⟨fun j hj=>?_,fun j hj=>?_,fun j hj=>?_⟩,HQ.out.bx⟩
  ·exact(((((m0.mono (by simp)).step hst.mod (fun x hx=>.inl (by simp[sb] at hx;simp[hx]))).step hnm (by simp)).step h3.mod (fun x hx=>by
    simp[sb] at hx
    rcases hx with rfl|rfl
    ·exact .inl (by simp)
    ·exact .inr (by omega))).step h5.mod (fun x hx=>.inl (by simp[sb] at hx;simp[hx]))).step h6.mod (fun x hx=>.inl (by simp[sb] at hx;simp[hx]))
  ·rcases h3.ownq j hj with h|h
   ·simp[sb] at h
   ·omega
  ·rcases h5.own j hj with h|h
   ·simp[sb] at h
   ·omega
  ·rcases h6.own j hj with h|h
   ·simp[sb] at h
   ·omega
end Go.Proofs.YtcpjclakdpjjfaaGreatDoor
namespace Go.Proofs.YtcpjclakdpjjfaaGreatDoor
open Go.RowKit Wd
theorem alias_apart {w:World} {x y:Value} (hx:Zs w x) (hy:Zs w y) (h:∀j,j∈sb x→j∉sb y):aliasB x y=false:=by
 rcases hx with rfl|⟨b,l,ws,rfl,_,_⟩
 ·obtain⟨_,_,_,rfl,_⟩:=hy.slice;rfl
 ·rcases hy with rfl|⟨b',l',ws',rfl,_,_⟩
  ·rfl
  ·have:b≠b':=fun e=>h b (by simp[sb]) (by simp[sb,e])
   simp[aliasB,this]
theorem natOne_calls (w:World):Calls Tryz.prog 215 #[] w fun e w'=>e=.returned (.slice (some ⟨w.heap.size,0,none⟩) 1 1)∧w'=w.alloc (.cells #[.int .u64 1] 177):=by
 go_enter Tryz.func215,Tryz.ntmps215
 go_wp2_with fail
 go_ret
 exact⟨rfl,rfl⟩
theorem intOne_calls (w:World) (hw:19≤w.heap.size):Calls Tryz.prog 196 #[] w (NewRet w none 1):=by
 have F:=Lh (new_one w hw (x:=1) (by decide) (by rw[B_eq];decide))
 go_enter Tryz.func196,Tryz.ntmps196
 go_wp2_with fail
 refine(natOne_calls w).mono ?_
 rintro e w1 ⟨rfl,rfl⟩
 go_wp2_with fail
 go_ret
 exact⟨_,_,rfl,F.out⟩
theorem euclid_neg {a b:Int} (hb:0<b) (h:a.tmod b<0):a/b=a.tdiv b-1∧a%b=a.tmod b+b:=by
 have e:=Int.mul_tdiv_add_tmod a b
 have hl:-b<a.tmod b:=Int.lt_tmod_of_pos a hb
 refine(Int.ediv_emod_unique hb).2 ⟨?_,by omega,by omega⟩
 rw[Int.mul_sub];omega
theorem euclid_pos {a b:Int} (hb:0<b) (h:0≤a.tmod b):a/b=a.tdiv b∧a%b=a.tmod b:=by
 have e:=Int.mul_tdiv_add_tmod a b
 have hl:a.tmod b<b:=Int.tmod_lt_of_pos a hb
 exact(Int.ediv_emod_unique hb).2 ⟨by omega,h,hl⟩
theorem int_divMod (bz bx bY br:Nat) (sz sx sy sr:Option Int) (nz nx ny nr:Int) (vz vx vy vr:Value) (w:World) (he:Env w) (hz:IA w bz sz nz vz) (hx:IA w bx sx nx vx) (hy:IA w bY sy ny vy) (hr:IA w br sr nr vr)
 (h1:bz≠bx) (h2:bz≠bY) (h3:bz≠br) (h4:bx≠br) (h5:bY≠br) (hd:∀k,k∈sb vz→k∉sb vr) (hdx:∀k,k∈sb vx→k∉sb vr) (hyz:∀k,k∈sb vy→k∉sb vz) (hyr:∀k,k∈sb vy→k∉sb vr) (hXb:nx.natAbs<Big) (hYb:ny.natAbs<B^39) (hy0:0<ny):
 Calls Tryz.prog 161 #[.pointer (some ⟨bz,0,none⟩),.pointer (some ⟨bx,0,none⟩),.pointer (some ⟨bY,0,none⟩),.pointer (some ⟨br,0,none⟩)] w (QRIRet w bz br vz vr sz sr (nx/ny) (nx%ny)):=by
 have hp:∀k,(binOp .eql 128 (.pointer (some ⟨bz,0,none⟩)) (.pointer (some ⟨bY,0,none⟩))).run Tryz.prog (w.drewN k)=.ok (.bool false) (w.drewN k):=fun k=>by
  have:=iptr_eql (hz.drewN k) (hy.drewN k)
  rw[show decide (bz=bY)=false by simp[h2]] at this
  exact this
 have hp0:=hp 0
 have z1:=hz.abs
 have y1:=hy.abs
 have hal:∀k,Calls Tryz.prog 148 #[vz,vy] (w.drewN k) fun e w'=>e=.returned (.bool false)∧∃m,w'=(w.drewN k).drewN m:=fun k=>by
  have:=alias_calls vz vy (w.drewN k) (hz.nv.zs.drewN k) (hy.nv.zs.drewN k)
  rw[alias_apart hz.nv.zs hy.nv.zs (fun j hj hk=>hyz j hk hj)] at this
  exact this
 have HAL:=Lh hal
 have HQ:=Lh (fun k=>int_quoRem bz bx bY br sz sx sy sr nz nx ny nr vz vx vy vr (w.drewN k) (he.drewN k) (hz.drewN k) (hx.drewN k) (hy.drewN k) (hr.drewN k) h1 h2 h3 h4 h5 hd hdx hXb hYb hy0)
 have H0:=Lh (Aj he (Aj hz (Aj hr (Aj hy (Aj hyz (Aj hyr (Aj h2 (Aj h5 (Aj h3 (Aj hXb (Aj hYb hy0)))))))))))
 clear hal he hz hx hy hr h1 h2 h3 h4 h5 hd hdx hyz hyr hXb hYb hy0
 go_enter Tryz.func161,Tryz.ntmps161
 go_wp2_with fail
 go_quiet ((go_at_call 148;exact quiet_one (HAL.out _)))
 go_wp2_with fail
 refine(HQ.out _).mono ?_
 rintro e w1 ⟨rfl,v,v2,hq⟩
 obtain⟨he,hz,hr,hy,hyz,hyr,h2,h5,h3,hXb,hYb,hy0⟩:=H0.out
 have hy1:=hq.other (hz.drewN _) (hr.drewN _) (hy.drewN _) h2.symm h5 hyz hyr
 have c0:=hq.r.neg
 have y0:=hy1.neg
 rw[show decide (ny<0)=false from decide_eq_false (by omega)] at y0
 have hq':QRInt w bz br vz vr sz sr (nx.tdiv ny) (nx.tmod ny) v v2 w1:=⟨hq.q,hq.r,(((Mod.refl _ w).drewN _).trans hq.mod),hq.ownq,hq.ownr,hq.apart⟩
 by_cases hneg:nx.tmod ny<0
 ·rw[decide_eq_true hneg] at c0
  obtain⟨e1,e2⟩:=euclid_neg hy0 hneg
  have he1:Env w1:=he.mod hq'.mod (fun k hk=>by
   simp only[List.mem_cons,List.mem_append] at hk
   rcases hk with rfl|rfl|hk|hk
   ·exact hz.lo
   ·exact hr.lo
   ·exact hz.vlo k hk
   ·exact hr.vlo k hk)
  have HO:=Lh (intOne_calls w1 he1.big)
  have HW:=Lh (Aj hq' (Aj hy1 (Aj e1 e2)))
  clear he hz hr hy hyz hyr hXb hYb hy0 hq hy1 hq' hneg he1 e1 e2
  go_wp2_with fail
  refine HO.out.mono ?_
  rintro e w2 ⟨b1,v1,rfl,hn⟩
  obtain⟨he,hz,hr,hy,hyz,hyr,_,_,_,hXb,hYb,hy0⟩:=H0.out
  obtain⟨hq,hy1,e1,e2⟩:=HW.out
  have kz:=hn.apart hq.q
  have kr:=hn.apart hq.r
  have ky:=hn.apart hy1
  have sm:(1:Int).natAbs<Big:=by
   have hb:1<B:=by rw[B_eq];decide
   rw[Big_eq];exact Nat.lt_of_lt_of_le hb (Nat.le_self_pow (by decide) B)
  have HSUB:=Lh (int_sub bz bz b1 sz sz none (nx.tdiv ny) (nx.tdiv ny) 1 v v v1 w2 kz.2.2 kz.2.2 hn.ia (Nat.lt_of_le_of_lt (by rw[Int.natAbs_tdiv];exact Nat.div_le_self _ _) hXb) sm)
  have HN:=Lh (Aj hn (Aj kz.2.2 (Aj kr.2.2 ky.2.2)))
  clear he hz hr hy hyz hyr hXb hYb hy0 hq hy1 e1 e2 hn kz kr ky sm
  go_wp2_with fail
  refine HSUB.out.mono ?_
  rintro e w3 ⟨rfl,v3,h6⟩
  obtain⟨he,hz,hr,hy,hyz,hyr,_,_,_,hXb,hYb,hy0⟩:=H0.out
  obtain⟨hq,hy1,e1,e2⟩:=HW.out
  obtain⟨hn,kz,kr,ky⟩:=HN.out
  have r3:=h6.other kr kz h3.symm (fun j hj hv=>hq.apart j hv hj)
  have y3:=h6.other ky kz h2.symm (fun j hj hv=>(hq.ownq j hv).elim (hyz j hj) (fun h=>by have:=hy.nv.zs.lt j hj;omega))
  have HADD:=Lh (int_add br br bY sr sr sy (nx.tmod ny) (nx.tmod ny) ny v2 v2 vy w3 r3 r3 y3 (Nat.lt_of_le_of_lt (by rw[Int.natAbs_tmod];exact Nat.mod_le _ _) hXb) (Nat.lt_trans hYb B39_Big))
  have H6:=Lh (Aj h6 r3)
  clear he hz hr hy hyz hyr hXb hYb hy0 hq hy1 e1 e2 hn kz kr ky h6 r3 y3
  go_wp2_with fail
  refine HADD.out.mono ?_
  rintro e w4 ⟨rfl,v4,h7⟩
  have H7:=Lh h7
  clear h7
  go_wp2_with fail
  go_ret2
  obtain⟨hq,hy1,e1,e2⟩:=HW.out
  obtain⟨hn,kz,kr,ky⟩:=HN.out
  obtain⟨h6,r3⟩:=H6.out
  have h7:=H7.out
  have sq:=hq.mod.size
  have sn:=hn.mod.size
  have s6:=h6.mod.size
  have dz:∀j,j∈sb v3→j∉sb v2:=fun j hj hv=>(h6.own j hj).elim (fun h=>hq.apart j h hv) (fun h=>by have:=kr.nv.zs.lt j hv;omega)
  have z4:=h7.other h6.ia r3 h3 dz
  refine⟨rfl,v3,v4,by rw[e1];exact z4,by rw[e2];exact h7.ia,?_,fun j hj=>(h6.own j hj).elim (hq.ownq j) (fun h=>.inr (by omega)),fun j hj=>(h7.own j hj).elim (hq.ownr j) (fun h=>.inr (by omega)),fun j hj hv=>?_⟩
  ·refine((hq.mod.step hn.mod (by simp)).step h6.mod (fun x hx=>?_)).step h7.mod (fun x hx=>?_)
   ·rcases List.mem_cons.1 hx with rfl|hx
    ·exact .inl (by simp)
    ·exact(hq.ownq x hx).imp (fun h=>by simp[h]) id
   ·rcases List.mem_cons.1 hx with rfl|hx
    ·exact .inl (by simp)
    ·exact(hq.ownr x hx).imp (fun h=>by simp[h]) id
  ·rcases h7.own j hv with h|h
   ·exact dz j hj h
   ·have:=h6.ia.nv.zs.lt j hj;omega
 ·rw[decide_eq_false hneg] at c0
  obtain⟨e1,e2⟩:=euclid_pos (a:=nx) hy0 (by omega)
  have HF:=Lh (show QRInt w bz br vz vr sz sr (nx/ny) (nx%ny) v v2 w1 by rw[e1,e2];exact hq')
  clear he hz hr hy hyz hyr hXb hYb hy0 hq hy1 hq' hneg e1 e2
  go_wp2_with fail
  go_ret2
  exact⟨rfl,_,_,HF.out⟩
end Go.Proofs.YtcpjclakdpjjfaaGreatDoor
namespace Go.Proofs.YtcpjclakdpjjfaaGreatDoor
open Go.RowKit Wd
theorem fbits (x:Nat) (w:World):(callFunc 294 #[.float .f64 x]).run Tryz.prog w=.ok (.value (.int .u64 x)) w:=by kernel_rfl
theorem fof10 (w:World):(callFunc 295 #[.int .u64 4621819117588971520]).run Tryz.prog w=.ok (.value (.float .f64 4621819117588971520)) w:=by kernel_rfl
theorem fof2 (w:World):(callFunc 295 #[.int .u64 4603804719079489536]).run Tryz.prog w=.ok (.value (.float .f64 4603804719079489536)) w:=by kernel_rfl
theorem alog (w:World):(callFunc 281 #[.float .f64 4603804719079489536]).run Tryz.prog w=.ok (.value (.float .f64 13825510489450817230)) w:=by kernel_rfl
theorem isNaN_calls (w:World):Calls Tryz.prog 292 #[.float .f64 4621819117588971520] w fun e w'=>e=.returned (.bool false)∧w=w':=by
 go_enter Tryz.func292,Tryz.ntmps292
 go_wp2_with fail
 go_ret
 exact⟨rfl,rfl⟩
theorem abs_calls (w:World):Calls Tryz.prog 305 #[.float .f64 4621819117588971520] w fun e w'=>e=.returned (.float .f64 4621819117588971520)∧w=w':=by
 have h1:=fbits 4621819117588971520
 have h2:=fof10
 have hb:bits BinOp.andNot .u64 4621819117588971520 9223372036854775808=4621819117588971520:=by decide+kernel
 go_enter Tryz.func305,Tryz.ntmps305
 go_wp2_with fail
 go_ret
 exact⟨rfl,rfl⟩
theorem isInf_calls (w:World):Calls Tryz.prog 291 #[.float .f64 4621819117588971520,.int .i64 0] w fun e w'=>e=.returned (.bool false)∧w=w':=by
 go_enter Tryz.func291,Tryz.ntmps291
 go_wp2_with fail
 refine(abs_calls w).mono ?_
 rintro e w' ⟨rfl,rfl⟩
 go_wp2_with fail
 go_ret
 exact⟨rfl,rfl⟩
theorem normalize_calls (w:World):Calls Tryz.prog 293 #[.float .f64 4621819117588971520] w fun e w'=>e=.returned (.tuple #[.float .f64 4621819117588971520,.int .i64 0])∧w=w':=by
 go_enter Tryz.func293,Tryz.ntmps293
 go_wp2_with fail
 refine(abs_calls w).mono ?_
 rintro e w' ⟨rfl,rfl⟩
 go_wp2_with fail
 go_ret2
 exact⟨rfl,rfl⟩
theorem frexp_calls (w:World):Calls Tryz.prog 280 #[.float .f64 4621819117588971520] w fun e w'=>e=.returned (.tuple #[.float .f64 4603804719079489536,.int .i64 4])∧w=w':=by
 have h1:=fbits 4621819117588971520
 have h2:=fof2
 have b1:bits BinOp.andNot .u64 4621819117588971520 9218868437227405312=1125899906842624:=by decide+kernel
 have b2:bits BinOp.or .u64 1125899906842624 4602678819172646912=4603804719079489536:=by decide+kernel
 have b3:bits BinOp.and .u64 1026 2047=1026:=by decide+kernel
 go_enter Tryz.func280,Tryz.ntmps280
 go_wp2_with fail
 refine(isInf_calls w).mono ?_
 rintro e w' ⟨rfl,rfl⟩
 go_wp2_with fail
 refine(isNaN_calls w).mono ?_
 rintro e w' ⟨rfl,rfl⟩
 go_wp2_with fail
 refine(normalize_calls w).mono ?_
 rintro e w' ⟨rfl,rfl⟩
 go_wp2_with fail
 go_ret2
 exact⟨rfl,rfl⟩
theorem frexp0_calls (w:World):Calls Tryz.prog 263 #[.float .f64 4621819117588971520] w fun e w'=>e=.returned (.tuple #[.float .f64 4603804719079489536,.int .i64 4])∧w=w':=by
 go_enter Tryz.func263,Tryz.ntmps263
 go_wp2_with fail
 refine(frexp_calls w).mono ?_
 rintro e w' ⟨rfl,rfl⟩
 go_wp2_with fail
 go_ret2
 exact⟨rfl,rfl⟩
theorem log_calls (w:World):Calls Tryz.prog 264 #[.float .f64 4603804719079489536] w fun e w'=>e=.returned (.float .f64 13825510489450817230)∧w=w':=by
 have h1:=alog
 go_enter Tryz.func264,Tryz.ntmps264
 go_wp2_with fail
 go_ret
 exact⟨rfl,rfl⟩
theorem fmul (w:World):(binOp .mul 311 (.float .f64 13825510489450817230) (.float .f64 4609176140021203710)).run Tryz.prog w=.ok (.float .f64 13827654785158443579) w:=by kernel_rfl
theorem fcv4 (w:World):(convert 3 311 (.int .i64 4)).run Tryz.prog w=.ok (.float .f64 4616189618054758400) w:=by kernel_rfl
theorem fadd (w:World):(binOp .add 311 (.float .f64 13827654785158443579) (.float .f64 4616189618054758400)).run Tryz.prog w=.ok (.float .f64 4614662735865160561) w:=by kernel_rfl
theorem log2n_calls (w:World):Calls Tryz.prog 243 #[.float .f64 4621819117588971520] w fun e w'=>e=.returned (.float .f64 4614662735865160561)∧w=w':=by
 have h1:=fmul
 have h2:=fcv4
 have h3:=fadd
 go_enter Tryz.func243,Tryz.ntmps243
 go_wp2_with fail
 refine(frexp0_calls w).mono ?_
 rintro e w' ⟨rfl,rfl⟩
 go_wp2_with fail
 refine(log_calls w).mono ?_
 rintro e w' ⟨rfl,rfl⟩
 go_wp2_with fail
 go_ret
 exact⟨rfl,rfl⟩
theorem log2_calls (w:World):Calls Tryz.prog 217 #[.float .f64 4621819117588971520] w fun e w'=>e=.returned (.float .f64 4614662735865160561)∧w=w':=by
 go_enter Tryz.func217,Tryz.ntmps217
 go_wp2_with fail
 refine(log2n_calls w).mono ?_
 rintro e w' ⟨rfl,rfl⟩
 go_wp2_with fail
 go_ret
 exact⟨rfl,rfl⟩
theorem maxPow_calls (w:World):Calls Tryz.prog 219 #[.int .u64 10] w fun e w'=>e=.returned (.tuple #[.int .u64 10000000000000000000,.int .i64 19])∧w=w':=by
 have hm:∀k:Nat,k<18→(10:Nat)^(k+1)≤1844674407370955161∧IntKind.u64.wrap (((10^(k+1):Nat):Int)*10)=((10^(k+2):Nat):Int):=by decide+kernel
 go_enter Tryz.func219,Tryz.ntmps219
 go_wp2_with fail
 go_loop [2,3] (fun p n=>∃k:Nat,k≤18∧p=.int .u64 ((10^(k+1):Nat):Int)∧n=.int .i64 ((k:Int)+1)) (fun _ n=>19-(intOf n).toNat)
 case atStart=>exact⟨0,by decide,rfl,rfl⟩
 case round=>
  obtain⟨k,hk,rfl,rfl⟩:=hrel
  rcases Nat.lt_or_ge k 18 with h|h
  ·obtain⟨m1,m2⟩:=hm k h
   have m3:decide ((((10:Nat)^(k+1):Nat):Int)≤1844674407370955161)=true:=by simp only[decide_eq_true_eq];omega
   generalize hx:(10:Nat)^(k+1)=x at*
   generalize hy:(10:Nat)^(k+2)=y at*
   have HX:=Lh (Aj hx hy)
   clear hm m1 hx hy
   go_wp2_with fail
   go_round
   case rel=>exact⟨k+1,by omega,by rw[←HX.out.2],by go_num⟩
   case measure=>simp[intOf];omega
  ·obtain rfl:k=18:=by omega
   have hp':(((10:Nat)^(18+1):Nat):Int)=10000000000000000000:=by rw[show (10:Nat)^(18+1)=10000000000000000000 by decide+kernel];rfl
   generalize hx:(((10:Nat)^(18+1):Nat):Int)=x at*
   subst hp'
   clear hm hx
   go_wp2_with fail
   go_ret2
   exact⟨rfl,rfl⟩
end Go.Proofs.YtcpjclakdpjjfaaGreatDoor
