/- The suffixes of a format (resource/suffix. -/
import Derived.Test.YtcpjclakdpjjfaaGreatDoorC27
import Derived.Test.YtcpjclakdpjjfaaGreatDoorC09
import Derived.Test.YtcpjclakdpjjfaaGreatDoorC28
import Derived.Lib.SlBytesConst
set_option maxHeartbeats 6400000
set_option maxRecDepth 10000
namespace Go.Proofs.YtcpjclakdpjjfaaGreatDoor
open Go.RowKit Wd Dg
def fmtE:ByteArray:=⟨#[68,101,99,105,109,97,108,69,120,112,111,110,101,110,116]⟩
def fmtB:ByteArray:=⟨#[66,105,110,97,114,121,83,73]⟩
def fmtD:ByteArray:=⟨#[68,101,99,105,109,97,108,83,73]⟩
theorem meth_cons (b:Nat) (w:World):(method 524 169 (.agg #[.pointer (some ⟨b,0,none⟩)]) "pub-stockroom/pub/apimachinery/pkg/api/resource.constructBytes").run Tryz.prog w=.ok (330,.pointer (some ⟨b,0,none⟩)) w:=by kernel_rfl
theorem meth_interp (b:Nat) (w:World):(method 524 169 (.agg #[.pointer (some ⟨b,0,none⟩)]) "pub-stockroom/pub/apimachinery/pkg/api/resource.interpret").run Tryz.prog w=.ok (334,.agg #[.pointer (some ⟨b,0,none⟩)]) w:=by kernel_rfl
def SufRet (l:List UInt8) (w:World) (e:Ending) (w':World):Prop:=∃V ok,e=.returned (.tuple #[V,.bool ok])∧(∃base,Rb w' base V l)∧Mod [] w w'
theorem cons_dec {w0 w:World} {b:Nat} {L1:TL1} {L3:TL3} {D1:TL1} {D3:TL3} (h:PB w0 w b L1 L3 D1 D3) (x y:Int) (kx:i32p x y):
 Calls Tryz.prog 330 #[.pointer (some ⟨b,0,none⟩),.int .i32 x,.int .i32 y,.string fmtD] w (SufRet ((look D3 (x,y)).getD []) w):=by
 obtain⟨m0,hb,cs,R,R',h1,h2,h3,h6,h4,h5⟩:=h
 have C:=Lh (ls_bytes h5 h1 x y kx)
 clear m0 hb h1 h2 h3 h6 h4 h5 kx
 unfold fmtD
 go_enter Tryz.func330,Tryz.ntmps330
 go_wp2_with fail
 refine C.out.mono ?_
 rintro _ w2 ⟨rfl,V,rfl,hr⟩
 replace hr:=Lh hr
 clear C
 go_wp2_with fail
 go_ret2
 exact⟨V,_,rfl,⟨_,hr.out⟩,Mod.refl _ _⟩
theorem cons_bin {w0 w:World} {b:Nat} {L1:TL1} {L3:TL3} {D1:TL1} {D3:TL3} (h:PB w0 w b L1 L3 D1 D3) (x y:Int) (kx:i32p x y):
 Calls Tryz.prog 330 #[.pointer (some ⟨b,0,none⟩),.int .i32 x,.int .i32 y,.string fmtB] w (SufRet ((look L3 (x,y)).getD []) w):=by
 obtain⟨m0,hb,cs,R,R',h1,h2,h3,h6,h4,h5⟩:=h
 have C:=Lh (ls_bytes h4 h1 x y kx)
 clear m0 hb h1 h2 h3 h6 h4 h5 kx
 unfold fmtB
 go_enter Tryz.func330,Tryz.ntmps330
 go_wp2_with fail
 refine C.out.mono ?_
 rintro _ w2 ⟨rfl,V,rfl,hr⟩
 replace hr:=Lh hr
 clear C
 go_wp2_with fail
 go_ret2
 exact⟨V,_,rfl,⟨_,hr.out⟩,Mod.refl _ _⟩
theorem cons_none (b:Nat) (w:World):
 Calls Tryz.prog 330 #[.pointer (some ⟨b,0,none⟩),.int .i32 10,.int .i32 0,.string fmtE] w (SufRet [] w):=by
 unfold fmtE
 go_enter Tryz.func330,Tryz.ntmps330
 go_wp2_with fail
 go_ret2
 exact⟨_,_,rfl,⟨0,.inl ⟨rfl,rfl⟩⟩,Mod.refl _ _⟩
theorem cons_of {b:Nat} {i:Int} {l:List UInt8} {w:World} (h:Calls Tryz.prog 330 #[.pointer (some ⟨b,0,none⟩),.int .i32 10,.int .i32 i,.string ⟨#[68,101,99,105,109,97,108,69,120,112,111,110,101,110,116]⟩] w fun e w'=>∃V,e=.returned (.tuple #[V,.bool true])∧Rb w' w.heap.size V l∧Mod [] w w'):Calls Tryz.prog 330 #[.pointer (some ⟨b,0,none⟩),.int .i32 10,.int .i32 i,.string fmtE] w (SufRet l w):=by
 refine Calls.mono h ?_
 rintro e w' ⟨V,rfl,h1,h2⟩
 exact⟨V,true,rfl,⟨_,h1⟩,h2⟩
theorem cons_exp (b:Nat) (e:Int) (h3:e%3=0) (h1:-9≤e) (h2:e≤18) (w:World):Calls Tryz.prog 330 #[.pointer (some ⟨b,0,none⟩),.int .i32 10,.int .i32 e,.string fmtE] w (SufRet (sfxE e) w):=by
 have:e=-9∨e=-6∨e=-3∨e=0∨e=3∨e=6∨e=9∨e=12∨e=15∨e=18:=by omega
 rcases this with rfl|rfl|rfl|rfl|rfl|rfl|rfl|rfl|rfl|rfl
 ·rw[show sfxE (-9)=[101,45,57] by decide+kernel];exact cons_of (cb3 b 9 57 w (by decide) (by decide) (by decide+kernel))
 ·rw[show sfxE (-6)=[101,45,54] by decide+kernel];exact cons_of (cb3 b 6 54 w (by decide) (by decide) (by decide+kernel))
 ·rw[show sfxE (-3)=[101,45,51] by decide+kernel];exact cons_of (cb3 b 3 51 w (by decide) (by decide) (by decide+kernel))
 ·exact cons_none b w
 ·rw[show sfxE (3)=[101,51] by decide+kernel];exact cons_of (cb1 b 3 51 w (by decide) (by decide) (by decide+kernel))
 ·rw[show sfxE (6)=[101,54] by decide+kernel];exact cons_of (cb1 b 6 54 w (by decide) (by decide) (by decide+kernel))
 ·rw[show sfxE (9)=[101,57] by decide+kernel];exact cons_of (cb1 b 9 57 w (by decide) (by decide) (by decide+kernel))
 ·rw[show sfxE (12)=[101,49,50] by decide+kernel];exact cons_of (cb2 b 12 49 50 w (by decide) (by decide) (by decide+kernel))
 ·rw[show sfxE (15)=[101,49,53] by decide+kernel];exact cons_of (cb2 b 15 49 53 w (by decide) (by decide) (by decide+kernel))
 ·rw[show sfxE (18)=[101,49,56] by decide+kernel];exact cons_of (cb2 b 18 49 56 w (by decide) (by decide) (by decide+kernel))
theorem dec_look (e:Int) (h3:e%3=0) (h1:-9≤e) (h2:e≤18):(look decL3 (10,e)).getD []=sfxD e:=by
 have:e=-9∨e=-6∨e=-3∨e=0∨e=3∨e=6∨e=9∨e=12∨e=15∨e=18:=by omega
 rcases this with rfl|rfl|rfl|rfl|rfl|rfl|rfl|rfl|rfl|rfl<;>decide
theorem bin_look (k:Nat) (h:k≤6):(look binL3 (2,(k:Int)*10)).getD []=sfxB k:=by
 have:k=0∨k=1∨k=2∨k=3∨k=4∨k=5∨k=6:=by omega
 rcases this with rfl|rfl|rfl|rfl|rfl|rfl|rfl<;>decide
end Go.Proofs.YtcpjclakdpjjfaaGreatDoor
namespace Go.Proofs.YtcpjclakdpjjfaaGreatDoor
open Go.RowKit Wd Dg
theorem VB.exp {V M e:Int} (h:VB V) (hc:Cn V M e) (h0:V≠0):-9≤e∧e≤18:=by
 have h3:=hc.three
 have hlo:=hc.lo
 have hM:M≠0:=fun hm=>h0 (by rw[hc.v,hm,Int.zero_mul])
 constructor
 ·rcases Int.lt_or_le e (-9) with h1|h1
  ·exfalso
   obtain⟨m,hm⟩:=h.fine
   obtain⟨k,hk⟩:∃k:Nat,(-9:Int)=e+(k+3:Nat):=⟨(-9-e-3).toNat,by omega⟩
   have hv:=hc.v
   rw[hm,sc_split hk (by omega),Int.natCast_mul,←Int.mul_assoc] at hv
   have h5:=mul_sc_inj hv
   apply hc.m
   rw[←h5,Nat.pow_add,Int.natCast_mul]
   show (m*(((10^k:Nat):Int)*1000))%1000=0
   rw[←Int.mul_assoc]
   exact Int.mul_emod_left _ _
  ·exact h1
 ·rcases Int.lt_or_le 18 e with h1|h1
  ·exfalso
   have h2:V.natAbs=M.natAbs*sc e:=by rw[hc.v,Int.natAbs_mul,Int.natAbs_natCast]
   have h4:=h.le
   have h5:sc 20≤sc e:=sc_mono (by omega)
   have h6:sc 20=10^20*sc 0:=sc_split (s:=0) (c:=20) (k:=20) rfl (by decide)
   rw[show (10:Nat)^20=100000000000000000000 from rfl] at h6
   have h7:1*sc e≤M.natAbs*sc e:=Nat.mul_le_mul_right _ (by omega)
   have h8:=sc_pos 0
   omega
  ·exact h1
def CanRet (fn:Nat) (V:Int) (w:World) (e:Ending) (w':World):Prop:=
 ∃v1 v2 l1 l2,e=.returned (.tuple #[v1,v2])∧(∃b,Rb w' b v1 l1)∧(∃b,Rb w' b v2 l2)∧Mod [] w w'∧CanTxt fn V (l1++l2)
theorem can_close {fn:Nat} {V M ex:Int} {w w1 w2 w3:World} {v1 V2:Value} {l:List UInt8} (h0:V≠0) (hf:fn≠1∨V.natAbs<1024*sc 0) (hcn:Cn V M ex) (hl:l=if fn=0 then sfxE ex else sfxD ex) (hb:Bs w1 w.heap.size v1 (Lib.itoa M)) (m1:Mod [] w w1) (m2:Mod [] w1 w2) (hr:∃base,Rb w3 base V2 l) (m3:Mod [] w2 w3):CanRet fn V w (.returned (.tuple #[v1,V2])) w3:=
 ⟨v1,V2,_,l,rfl,⟨_,hb.rb.mod (m2.trans m3) (by simp)⟩,hr,(m1.trans m2).trans m3,.inr (.inl ⟨h0,hf,M,ex,hcn,by rw[hl]⟩)⟩
theorem can_ten (fb:ByteArray) (fn:Nat) (hf:(fb=fmtE∧fn=0)∨(fb=fmtD∧fn=2)) (bq:Nat) (V:Int) (bl:List Nat) (w:World) (he:Env2 w) (h:Qy w bq V (.string fb) bl) (hB:VB V) (hV0:V≠0) (o:Value) (ho:o=.slice none 0 0):
 Calls Tryz.prog 83 #[.pointer (some ⟨bq,0,none⟩),o] w (CanRet fn V w):=by
 have Z:=Lh (q_isZero bq V _ bl w h)
 have QC:=Lh (q_canon bq V _ bl w he h hB hV0 o ho)
 obtain⟨v,s,d,st,hd,hq⟩:=h.q
 have c4:=hd.cell (i:=4) (v:=.string fb) rfl
 have HB:=Lh (Aj hB hV0)
 have z0:decide (V=0)=false:=decide_eq_false hV0
 have mc:=meth_cons
 have NS:=Lh newSuffixer_calls
 have HF:=Lh hf
 clear hd hq h he hB hV0 ho
 rcases hf with ⟨rfl,rfl⟩|⟨rfl,rfl⟩
 ·unfold fmtE at c4
  go_enter Tryz.func83,Tryz.ntmps83
  go_wp2_with fail
  refine Z.out.mono ?_
  rintro _ _ ⟨rfl,rfl⟩
  go_wp2_with fail
  refine QC.out.mono ?_
  rintro _ w1 ⟨v1,M,ex,rfl,hcn,hbs,hm,-⟩
  have H:=Lh (Aj hcn (Aj hbs hm))
  clear hcn hbs hm
  go_wp2_with fail
  refine(NS.out w1).mono ?_
  rintro _ w2 ⟨b,rfl,pb⟩
  replace pb:=Lh pb
  go_wp2_with fail
  refine(cons_exp b ex H.out.1.three (HB.out.1.exp H.out.1 HB.out.2).1 (HB.out.1.exp H.out.1 HB.out.2).2 w2).mono ?_
  rintro _ w3 ⟨V2,ok,rfl,hr,hm3⟩
  have HR:=Lh (Aj hr hm3)
  clear hr hm3
  go_wp2_with fail
  go_ret2
  exact can_close HB.out.2 (.inl (by decide)) H.out.1 rfl H.out.2.1 H.out.2.2 pb.out.1 HR.out.1 HR.out.2
 ·unfold fmtD at c4
  go_enter Tryz.func83,Tryz.ntmps83
  go_wp2_with fail
  refine Z.out.mono ?_
  rintro _ _ ⟨rfl,rfl⟩
  go_wp2_with fail
  refine QC.out.mono ?_
  rintro _ w1 ⟨v1,M,ex,rfl,hcn,hbs,hm,-⟩
  have H:=Lh (Aj hcn (Aj hbs hm))
  clear hcn hbs hm
  go_wp2_with fail
  refine(NS.out w1).mono ?_
  rintro _ w2 ⟨b,rfl,pb⟩
  replace pb:=Lh pb
  go_wp2_with fail
  have hex:=HB.out.1.exp H.out.1 HB.out.2
  have CD:=cons_dec pb.out 10 ex ⟨by decide,by decide,by omega,by omega⟩
  rw[dec_look ex H.out.1.three hex.1 hex.2] at CD
  clear hex
  refine CD.mono ?_
  clear CD
  rintro _ w3 ⟨V2,ok,rfl,hr,hm3⟩
  have HR:=Lh (Aj hr hm3)
  clear hr hm3
  go_wp2_with fail
  go_ret2
  exact can_close HB.out.2 (.inl (by decide)) H.out.1 rfl H.out.2.1 H.out.2.2 pb.out.1 HR.out.1 HR.out.2
theorem can_small (bq:Nat) (V:Int) (bl:List Nat) (w:World) (he:Env2 w) (h:Qy w bq V (.string fmtB) bl) (hB:VB V) (hV0:V≠0) (hsm:V.natAbs<1024*sc 0) (o:Value) (ho:o=.slice none 0 0):
 Calls Tryz.prog 83 #[.pointer (some ⟨bq,0,none⟩),o] w (CanRet 1 V w):=by
 have Z:=Lh (q_isZero bq V _ bl w h)
 have hp:=sc_pos 0
 have e1:cmpZI V (-1024*sc 0)=1:=cmpZI_gt (by omega)
 have e2:cmpZI V (1024*sc 0)=-1:=cmpZI_lt (by omega)
 have K1:=Lh (q_cmpInt64 bq V (-1024) _ bl w he h (by unfold i64;decide))
 rw[e1] at K1
 have K2:=Lh (fun(w1:World) (m:Mod [] w w1)=>q_cmpInt64 bq V 1024 _ bl w1 (he.new m) (h.mod m (by simp) (by simp)) (by unfold i64;decide))
 rw[e2] at K2
 have QC:=Lh (fun(w1:World) (m:Mod [] w w1)=>q_canon bq V _ bl w1 (he.new m) (h.mod m (by simp) (by simp)) hB hV0 o ho)
 obtain⟨v,s,d,st,hd,hq⟩:=h.q
 have c4:=hd.cell (i:=4) (v:=.string fmtB) rfl
 have HB:=Lh (Aj hB (Aj hV0 hsm))
 have z0:decide (V=0)=false:=decide_eq_false hV0
 have mc:=meth_cons
 have NS:=Lh newSuffixer_calls
 clear hd hq h he hB hV0 ho hsm e1 e2 hp
 unfold fmtB at c4
 go_enter Tryz.func83,Tryz.ntmps83
 go_wp2_with fail
 refine Z.out.mono ?_
 rintro _ _ ⟨rfl,rfl⟩
 go_wp2_with fail
 refine K1.out.mono ?_
 rintro _ w1 ⟨rfl,m1⟩
 have K3:=Lh (K2.out w1 m1)
 replace m1:=Lh m1
 go_wp2_with fail
 refine K3.out.mono ?_
 rintro _ w2 ⟨rfl,m2⟩
 have C2:=Lh (QC.out w2 (m1.out.trans m2))
 replace m2:=Lh (m1.out.trans m2)
 go_wp2_with fail
 refine C2.out.mono ?_
 rintro _ w3 ⟨v1,M,ex,rfl,hcn,hbs,hm,-⟩
 have H:=Lh (Aj hcn (Aj hbs hm))
 clear hcn hbs hm
 go_wp2_with fail
 refine(NS.out w3).mono ?_
 rintro _ w4 ⟨b,rfl,pb⟩
 replace pb:=Lh pb
 go_wp2_with fail
 have hex:=HB.out.1.exp H.out.1 HB.out.2.1
 have CD:=cons_dec pb.out 10 ex ⟨by decide,by decide,by omega,by omega⟩
 rw[dec_look ex H.out.1.three hex.1 hex.2] at CD
 clear hex
 refine CD.mono ?_
 clear CD
 rintro _ w5 ⟨V2,ok,rfl,hr,hm3⟩
 have HR:=Lh (Aj hr hm3)
 clear hr hm3
 go_wp2_with fail
 go_ret2
 exact can_close HB.out.2.1 (.inr HB.out.2.2) H.out.1 rfl (H.out.2.1.base m2.out.size) (m2.out.trans H.out.2.2) pb.out.1 HR.out.1 HR.out.2
theorem bn_six {N M:Int} {k:Nat} (h:Bn N M k) (h0:N≠0) (hN:N.natAbs≤9223372036854775808):k≤6:=by
 rcases Nat.lt_or_ge 6 k with h1|h1
 ·exfalso
  have hM:M≠0:=fun hm=>h0 (by rw[h.v,hm,Int.zero_mul])
  have h2:N.natAbs=M.natAbs*1024^k:=by rw[h.v,Int.natAbs_mul,Int.natAbs_pow];rfl
  have h3:(1024:Nat)^7≤1024^k:=Nat.pow_le_pow_right (by decide) h1
  rw[show (1024:Nat)^7=1180591620717411303424 from rfl] at h3
  have h4:1*1024^k≤M.natAbs*1024^k:=Nat.mul_le_mul_right _ (by omega)
  omega
 ·exact h1
theorem meth_a (v s:Int) (w:World):(method 524 64 (.agg #[.int .i64 v,.int .i32 s]) "AsCanonicalBase1024Bytes").run Tryz.prog w=.ok (321,.agg #[.int .i64 v,.int .i32 s]) w:=by kernel_rfl
theorem meth_d (b:Nat) (w:World):(method 524 67 (.agg #[.pointer (some ⟨b,0,none⟩)]) "AsCanonicalBase1024Bytes").run Tryz.prog w=.ok (323,.agg #[.pointer (some ⟨b,0,none⟩)]) w:=by kernel_rfl
end Go.Proofs.YtcpjclakdpjjfaaGreatDoor
namespace Go.Proofs.YtcpjclakdpjjfaaGreatDoor
open Go.RowKit Wd Dg
theorem big_amt {w:World} {iv:Value} {N:Int} (he:Env2 w) (hc:CV w iv (N*sc 0) 0) (h0:N≠0) (hN:N.natAbs≤9223372036854775807) (o:Value) (ho:o=.slice none 0 0):
 ∃fn rv ty x,(fn=321∨fn=323)∧iv=.iface ty x∧(∀w,(method 524 ty x "AsCanonicalBase1024Bytes").run Tryz.prog w=.ok (fn,rv) w)∧Calls Tryz.prog fn #[rv,o] w (BnRet N w):=by
 rcases hc with ⟨v,s,rfl,hv,h1,h2,hV,h3⟩|⟨b,c,n,u,rfl,ia,db,hV⟩
 ·obtain⟨k,rfl⟩:∃k:Nat,s=k:=⟨s.toNat,by omega⟩
  have hN2:N=v*((10^k:Nat):Int):=by
   rw[sc_split (s:=0) (c:=(k:Int)) (k:=k) (by omega) (by decide),Int.natCast_mul,←Int.mul_assoc] at hV
   exact mul_sc_inj hV
  refine⟨321,amt v k,64,amt v k,.inl rfl,rfl,fun w=>meth_a v k w,?_⟩
  exact amt1024 v k N hN2 w he hv h0 (by omega) (by omega) o ho
 ·refine⟨323,_,67,_,.inr rfl,rfl,fun w=>meth_d b w,?_⟩
  have e1:=rnd_rup (n:=n) (c0:=c) (c:=0) db.lo db.hi (by decide) (by decide)
  rw[←hV,rup_exact (M:=N) rfl] at e1
  have e2:N=rnd n c 0:=by
   have:dV (rnd n c (-0)) (-0)=rnd n c 0*sc 0:=rfl
   rw[this] at e1
   exact(mul_sc_inj e1).symm
  refine inf1024_calls b c n u w he.env ia db N e2 h0 ?_ o ho
  have:(9223372036854775807:Nat)<B^8:=by rw[B_eq];decide+kernel
  omega
theorem big_close {V N M:Int} {k:Nat} {w w3 w4 w5 w6:World} {v1 V2:Value} (hV:V=N*sc 0) (hlg:1024≤N.natAbs) (hbn:Bn N M k) (hb:Bs w4 w3.heap.size v1 (Lib.itoa M)) (m3:Mod [] w w3) (m4:Mod [] w3 w4) (m5:Mod [] w4 w5) (hr:∃base,Rb w6 base V2 (sfxB k)) (m6:Mod [] w5 w6):CanRet 1 V w (.returned (.tuple #[v1,V2])) w6:=
 ⟨v1,V2,_,_,rfl,⟨_,hb.rb.mod (m5.trans m6) (by simp)⟩,hr,((m3.trans m4).trans m5).trans m6,.inr (.inr ⟨rfl,by rw[hV,Int.natAbs_mul,Int.natAbs_natCast];exact Nat.mul_le_mul_right _ hlg,N,M,k,hV,hbn,rfl⟩)⟩
theorem can_big (bq:Nat) (N:Int) (bl:List Nat) (w:World) (he:Env2 w) (h:Qy w bq (N*sc 0) (.string fmtB) bl) (hB:VB (N*sc 0)) (hlg:1024≤N.natAbs) (hN:N.natAbs≤9223372036854775807) (o:Value) (ho:o=.slice none 0 0):
 Calls Tryz.prog 83 #[.pointer (some ⟨bq,0,none⟩),o] w (CanRet 1 (N*sc 0) w):=by
 have hp:=sc_pos 0
 have hV0:N*(sc 0:Int)≠0:=Int.mul_ne_zero (by omega) (by omega)
 have Z:=Lh (q_isZero bq _ _ bl w h)
 have K1:=Lh (q_cmpInt64 bq _ (-1024) _ bl w he h (by unfold i64;decide))
 have K2:=Lh (fun(w1:World) (m:Mod [] w w1)=>q_cmpInt64 bq _ 1024 _ bl w1 (he.new m) (h.mod m (by simp) (by simp)) (by unfold i64;decide))
 have QS:=Lh (fun(w1:World) (m:Mod [] w w1)=>q_asScale bq _ 0 _ bl w1 (he.new m) (h.mod m (by simp) (by simp)) hB (by decide) (by decide))
 have RX:=Lh (rup_exact (V:=N*sc 0) (c:=0) (M:=N) rfl)
 obtain⟨v,s,d,st,hd,hq⟩:=h.q
 have c4:=hd.cell (i:=4) (v:=.string fmtB) rfl
 have HB:=Lh (Aj he (Aj hV0 (Aj hlg (Aj hN (Aj ho (fun(w1:World) (iv:Value) (m:Mod [] w w1) (hc:CV w1 iv (N*sc 0) 0)=>big_amt (he.new m) hc (show N≠0 by omega) hN o ho))))))
 have z0:decide (N*(sc 0:Int)=0)=false:=decide_eq_false hV0
 have mc:=meth_cons
 have NS:=Lh newSuffixer_calls
 have CS:(∃c1:Int,cmpZI (N*sc 0) (-1024*sc 0)=c1∧decide (0<c1)=false)∨∃c2:Int,cmpZI (N*sc 0) (-1024*sc 0)=1∧cmpZI (N*sc 0) (1024*sc 0)=c2∧decide (c2<0)=false:=by
  rcases Int.lt_or_le N 0 with g|g
  ·left
   refine⟨_,rfl,?_⟩
   have hle:N*(sc 0:Int)≤-1024*sc 0:=Int.mul_le_mul_of_nonneg_right (by omega) (by omega)
   rcases Int.lt_or_eq_of_le hle with q|q
   ·rw[cmpZI_lt q];decide
   ·rw[cmpZI_eq q];decide
  ·right
   have hle:1024*(sc 0:Int)≤N*sc 0:=Int.mul_le_mul_of_nonneg_right (by omega) (by omega)
   refine⟨_,cmpZI_gt (by omega),rfl,?_⟩
   rcases Int.lt_or_eq_of_le hle with q|q
   ·rw[cmpZI_gt q];decide
   ·rw[cmpZI_eq q.symm];decide
 clear hd hq h he hB hV0 ho hlg hN hp
 unfold fmtB at c4
 have hVN:=Lh (rfl:N*(sc 0:Int)=N*sc 0)
 generalize hv:N*(sc 0:Int)=V at*
 replace hVN:=Lh hv.symm
 clear hv
 rcases CS with ⟨c1,e1,e2⟩|⟨c2,e1,e3,e2⟩
 ·rw[e1] at K1
  clear e1 K2
  go_enter Tryz.func83,Tryz.ntmps83
  go_wp2_with fail
  refine Z.out.mono ?_
  rintro _ _ ⟨rfl,rfl⟩
  go_wp2_with fail
  refine K1.out.mono ?_
  rintro _ w2 ⟨rfl,m2⟩
  have C2:=Lh (QS.out w2 m2)
  replace m2:=Lh m2
  go_wp2_with fail
  refine C2.out.mono ?_
  rintro _ w3 ⟨iv,rfl,hcv,m3⟩
  rw[decide_eq_true RX.out]
  rw[RX.out] at hcv
  obtain⟨fn,rv,ty,x,hfn,rfl,mm,hb⟩:=HB.out.2.2.2.2.2 w3 iv (m2.out.trans m3) hcv
  have BC:=Lh hb
  replace m3:=Lh (m2.out.trans m3)
  clear hb hcv C2
  rcases hfn with rfl|rfl
  all_goals
   go_wp2_with fail
   refine BC.out.mono ?_
   rintro _ w4 ⟨v1,M,k,rfl,hbn,hbs,m4,hk⟩
   have hk6:=bn_six hbn (by have:=HB.out.2.2.1;omega) (by have:=HB.out.2.2.2.1;omega)
   have t1:wrap32 ((k:Int)*10)=(k:Int)*10:=by unfold wrap32;omega
   have H:=Lh (Aj hbn (Aj hbs (Aj m4 hk6)))
   clear hbn hbs m4 hk hk6 BC
   go_wp2_with fail
   refine(NS.out w4).mono ?_
   rintro _ w5 ⟨b,rfl,pb⟩
   replace pb:=Lh pb
   go_wp2_with fail
   have CD:=cons_bin pb.out 2 ((k:Int)*10) ⟨by decide,by decide,by omega,by have:=H.out.2.2.2;omega⟩
   rw[bin_look k H.out.2.2.2] at CD
   refine CD.mono ?_
   clear CD
   rintro _ w6 ⟨V2,ok,rfl,hr,hm3⟩
   have HR:=Lh (Aj hr hm3)
   clear hr hm3
   go_wp2_with fail
   go_ret2
   exact big_close hVN.out HB.out.2.2.1 H.out.1 H.out.2.1 m3.out H.out.2.2.1 pb.out.1 HR.out.1 HR.out.2
 ·rw[e1] at K1
  rw[e3] at K2
  clear e1 e3
  go_enter Tryz.func83,Tryz.ntmps83
  go_wp2_with fail
  refine Z.out.mono ?_
  rintro _ _ ⟨rfl,rfl⟩
  go_wp2_with fail
  refine K1.out.mono ?_
  rintro _ w1 ⟨rfl,m1⟩
  have K3:=Lh (K2.out w1 m1)
  replace m1:=Lh m1
  go_wp2_with fail
  refine K3.out.mono ?_
  rintro _ w2 ⟨rfl,m2⟩
  have C2:=Lh (QS.out w2 (m1.out.trans m2))
  replace m2:=Lh (m1.out.trans m2)
  go_wp2_with fail
  refine C2.out.mono ?_
  rintro _ w3 ⟨iv,rfl,hcv,m3⟩
  rw[decide_eq_true RX.out]
  rw[RX.out] at hcv
  obtain⟨fn,rv,ty,x,hfn,rfl,mm,hb⟩:=HB.out.2.2.2.2.2 w3 iv (m2.out.trans m3) hcv
  have BC:=Lh hb
  replace m3:=Lh (m2.out.trans m3)
  clear hb hcv C2
  rcases hfn with rfl|rfl
  all_goals
   go_wp2_with fail
   refine BC.out.mono ?_
   rintro _ w4 ⟨v1,M,k,rfl,hbn,hbs,m4,hk⟩
   have hk6:=bn_six hbn (by have:=HB.out.2.2.1;omega) (by have:=HB.out.2.2.2.1;omega)
   have t1:wrap32 ((k:Int)*10)=(k:Int)*10:=by unfold wrap32;omega
   have H:=Lh (Aj hbn (Aj hbs (Aj m4 hk6)))
   clear hbn hbs m4 hk hk6 BC
   go_wp2_with fail
   refine(NS.out w4).mono ?_
   rintro _ w5 ⟨b,rfl,pb⟩
   replace pb:=Lh pb
   go_wp2_with fail
   have CD:=cons_bin pb.out 2 ((k:Int)*10) ⟨by decide,by decide,by omega,by have:=H.out.2.2.2;omega⟩
   rw[bin_look k H.out.2.2.2] at CD
   refine CD.mono ?_
   clear CD
   rintro _ w6 ⟨V2,ok,rfl,hr,hm3⟩
   have HR:=Lh (Aj hr hm3)
   clear hr hm3
   go_wp2_with fail
   go_ret2
   exact big_close hVN.out HB.out.2.2.1 H.out.1 H.out.2.1 m3.out H.out.2.2.1 pb.out.1 HR.out.1 HR.out.2
end Go.Proofs.YtcpjclakdpjjfaaGreatDoor
namespace Go.Proofs.YtcpjclakdpjjfaaGreatDoor
open Go.RowKit Wd Dg
theorem can_zero (fb:ByteArray) (fn:Nat) (bq:Nat) (bl:List Nat) (w:World) (h:Qy w bq 0 (.string fb) bl) (o:Value):
 Calls Tryz.prog 83 #[.pointer (some ⟨bq,0,none⟩),o] w (CanRet fn 0 w):=by
 have Z:=Lh (q_isZero bq _ _ bl w h)
 have z0:decide ((0:Int)=0)=true:=rfl
 have cv:=Lib.run_convert_bytes_const (P:=Tryz.prog) w 79 5 #[.int .u8 48] 1 1 Tryz.underlying79 Tryz.underlying5
 clear h
 go_enter Tryz.func83,Tryz.ntmps83
 go_wp2_with fail
 refine Z.out.mono ?_
 rintro _ _ ⟨rfl,rfl⟩
 go_wp2_with fail
 go_ret2
 have e1:(w.alloc (.cells #[.int .u8 48] 5 (1,2))).heap[w.heap.size]?=some (.cells #[.int .u8 48] 5 (1,2)):=by
  show (w.heap.push _)[w.heap.size]?=_
  simp
 refine⟨_,_,[48],[],rfl,⟨0,.inr ⟨_,1,_,_,_,rfl,Nat.zero_le _,e1,fun i hi=>?_⟩⟩,⟨0,.inl ⟨rfl,rfl⟩⟩,(Mod.refl [] w).alloc _,.inl ⟨rfl,rfl⟩⟩
 match i,hi with
 |0,_=>rfl
 |i+1,hi=>simp at hi
def Fmt (fb:ByteArray) (fn:Nat):Prop:=(fb=fmtE∧fn=0)∨(fb=fmtB∧fn=1)∨(fb=fmtD∧fn=2)
structure May (fn:Nat) (V:Int):Prop where
 vb:VB V
 bin:fn=1→∃N:Int,V=N*sc 0∧N.natAbs≤9223372036854775807
theorem can_all (fb:ByteArray) (fn:Nat) (hf:Fmt fb fn) (bq:Nat) (V:Int) (bl:List Nat) (w:World) (he:Env2 w) (h:Qy w bq V (.string fb) bl) (hB:May fn V):
 Calls Tryz.prog 83 #[.pointer (some ⟨bq,0,none⟩),.slice none 0 0] w (CanRet fn V w):=by
 by_cases hV0:V=0
 ·subst hV0
  exact can_zero fb fn bq bl w h _
 ·rcases hf with hf|⟨rfl,rfl⟩|hf
  ·exact can_ten fb fn (.inl hf) bq V bl w he h hB.vb hV0 _ rfl
  ·obtain⟨N,rfl,hN⟩:=hB.bin rfl
   by_cases hs:N.natAbs<1024
   ·refine can_small bq _ bl w he h hB.vb hV0 ?_ _ rfl
    rw[Int.natAbs_mul,Int.natAbs_natCast]
    exact Nat.mul_lt_mul_of_pos_right hs (sc_pos 0)
   ·exact can_big bq N bl w he h hB.vb (by omega) hN _ rfl
  ·exact can_ten fb fn (.inr hf) bq V bl w he h hB.vb hV0 _ rfl
theorem ba_append (l1 l2:List UInt8):(⟨l1.toArray⟩:ByteArray)++⟨l2.toArray⟩=⟨(l1++l2).toArray⟩:=by
 ext1
 simp
theorem sfx_len (e:Int) (k:Nat):(sfxD e).length≤2∧(sfxB k).length≤2:=by
 constructor
 ·unfold sfxD;repeat' split
  all_goals simp
 ·unfold sfxB;repeat' split
  all_goals simp
theorem can_len {fn:Nat} {V:Int} {t:List UInt8} (h:CanTxt fn V t) (hB:VB V):t.length≤2100:=by
 have hB8:(18446744073709551616:Nat)<B^8:=by rw[B_eq];decide+kernel
 rcases h with ⟨_,rfl⟩|⟨h0,_,M,e,hc,rfl⟩|⟨_,_,n,m,k,hV,hb,rfl⟩
 ·simp
 ·have h1:=itoa_len M (hB.cn hc)
  have h2:=hB.exp hc h0
  rw[List.length_append]
  split
  ·have h3:=itoa_len e (by omega)
   have:(sfxE e).length≤1001:=by
    unfold sfxE
    split
    ·simp
    ·rw[List.length_cons];omega
   omega
  ·have:=(sfx_len e 0).1
   omega
 ·have h1:n.natAbs≤18446744073709551616:=by
   have h2:=hB.le
   rw[hV,Int.natAbs_mul,Int.natAbs_natCast] at h2
   exact Nat.le_of_mul_le_mul_right h2 (sc_pos 0)
  have h3:m.natAbs≤n.natAbs:=by
   rw[hb.v,Int.natAbs_mul,Int.natAbs_pow]
   exact Nat.le_mul_of_pos_right _ (Nat.pow_pos (by decide))
  have h4:=itoa_len m (by omega)
  have:=(sfx_len 0 k).2
  rw[List.length_append]
  omega
theorem canonical_calls (fb:ByteArray) (fn:Nat) (hf:Fmt fb fn) (bq:Nat) (V:Int) (bl:List Nat) (w:World) (he:Env2 w) (h:Qy w bq V (.string fb) bl) (hB:May fn V):
 Calls Tryz.prog 37 #[.pointer (some ⟨bq,0,none⟩)] w fun e w'=>∃t,e=.returned (.string ⟨t.toArray⟩)∧CanTxt fn V t∧Mod [] w w':=by
 have C:=Lh (can_all fb fn hf bq V bl w he h hB)
 have HL:=Lh (fun t (h:CanTxt fn V t)=>can_len h hB.vb)
 clear he h hB hf
 go_enter Tryz.func37,Tryz.ntmps37
 go_wp2_with fail
 refine C.out.mono ?_
 rintro _ w1 ⟨v1,v2,l1,l2,rfl,⟨b1,r1⟩,⟨b2,r2⟩,m,ct⟩
 have k1:=r1.conv
 have k2:=r2.conv
 have hl:l1.length+l2.length≤9223372036854775807:=by
  have:=HL.out _ ct
  rw[List.length_append] at this
  omega
 have H:=Lh (Aj m ct)
 clear r1 r2 m ct
 go_wp2_with fail
 go_ret
 exact⟨l1++l2,by rw[←ba_append];rfl,H.out.2,H.out.1⟩
theorem formatOf_calls (fb:ByteArray) (fn:Nat) (hf:Fmt fb fn) (w:World):Calls Tryz.prog 38 #[.string fb] w fun e w'=>e=.returned (.int .i64 fn)∧w'=w:=by
 rcases hf with ⟨rfl,rfl⟩|⟨rfl,rfl⟩|⟨rfl,rfl⟩
 ·unfold fmtE
  go_enter Tryz.func38,Tryz.ntmps38
  go_wp2_with fail
  go_ret
  exact⟨rfl,rfl⟩
 ·unfold fmtB
  go_enter Tryz.func38,Tryz.ntmps38
  go_wp2_with fail
  go_ret
  exact⟨rfl,rfl⟩
 ·unfold fmtD
  go_enter Tryz.func38,Tryz.ntmps38
  go_wp2_with fail
  go_ret
  exact⟨rfl,rfl⟩
end Go.Proofs.YtcpjclakdpjjfaaGreatDoor
