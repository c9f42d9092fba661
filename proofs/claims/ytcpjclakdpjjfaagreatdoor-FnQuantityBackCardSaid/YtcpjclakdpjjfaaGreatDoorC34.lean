/- Whole numbers read (bigall/natconv. -/
import Derived.Test.YtcpjclakdpjjfaaGreatDoorC22
import Derived.Test.YtcpjclakdpjjfaaGreatDoorC11
import Derived.Test.YtcpjclakdpjjfaaGreatDoorC21
import Derived.Test.YtcpjclakdpjjfaaGreatDoorC15
set_option maxHeartbeats 4000000
set_option maxRecDepth 20000
namespace Go.Proofs.YtcpjclakdpjjfaaGreatDoor
open Go.RowKit Wd Dg
theorem wrap64_eq {x y:Int} (h:x=y) (h1:0≤y) (h2:y≤9223372036854775807):wrap64 x=y:=by unfold wrap64;omega
theorem results_tmp4 {fn:Func} {t u v x:Tmp} (h:fn.results=#[.tmp t,.tmp u,.tmp v,.tmp x]) (tmps:Array Value) (P:Program) (w:World):
 (results fn tmps).run P w=.ok (.tuple #[tmps.getD t undef,tmps.getD u undef,tmps.getD v undef,tmps.getD x undef]) w:=by
 simp[results,h]
theorem SR.next {w:World} {b i0 i:Nat} {s:ByteArray} {be:Addr} {j wv X:Nat} {z err:Value} {ch:Int} {wr:World} (h:SR w b i0 i s be j wv X z err ch wr) (hi:i<s.size) {w2:World} {p q:Int} {err2:Value} {ch2:Int}
 (hrd:Rd wr b s p q) (m:Mod [b] wr w2) (hst:RdSt b s be (i+1) err2 ch2 w2) {d:Nat} (hd:d=(s[i]'hi).toNat-48) (hd9:d≤9) (hj:j+1<19):SR w b i0 (i+1) s be (j+1) (wv*10+d) X z err2 ch2 w2:=
 { mod:=h.mod.trans m,nv:=h.nv.mod m (fun k hk hb=>by rw[List.mem_singleton.1 hb] at hk;exact hrd.not_sb h.nv.zs (by decide) hk),own:=h.own,val:=h.digit hi hd
   wlt:=by have:=h.wlt;rw[Nat.pow_succ];omega
   jlt:=hj,ge:=by have:=h.ge;omega,le:=by omega,st:=hst }
theorem SR.flush {w:World} {b i0 i:Nat} {s:ByteArray} {be:Addr} {j wv X:Nat} {z err:Value} {ch:Int} {wr:World} (h:SR w b i0 i s be j wv X z err ch wr) (hi:i<s.size) {w1 w2:World} {err2:Value} {ch2:Int} {v:Value} {d:Nat}
 (r:NRes wr z (X*10000000000000000000+(wv*10+d)) v w1) {p q:Int} (hrd:Rd w1 b s p q) (m:Mod [b] w1 w2) (hst:RdSt b s be (i+1) err2 ch2 w2) (hd:d=(s[i]'hi).toNat-48) (hj:j=18):SR w b i0 (i+1) s be 0 0 (X*10000000000000000000+(wv*10+d)) v err2 ch2 w2:=
 { mod:=(h.mod.step r.mod (fun k hk=>.inr (h.own k hk))).trans m,nv:=r.nv.mod m (fun k hk hb=>by rw[List.mem_singleton.1 hb] at hk;exact hrd.not_sb r.nv.zs (by decide) hk)
   own:=fun k hk=>(r.own k hk).elim (h.own k) (fun h2=>Nat.le_trans h.mod.size h2)
   val:=by
    have:=h.digit hi hd
    rw[this,hj,show (10:Nat)^(18+1)=10000000000000000000 by decide+kernel,Nat.pow_zero,Nat.mul_one];exact(Nat.add_zero _).symm
   wlt:=by decide,jlt:=by decide,ge:=by have:=h.ge;omega,le:=by omega,st:=hst }
theorem SR.small {w:World} {b i0 i:Nat} {s:ByteArray} {be:Addr} {j wv X:Nat} {z err:Value} {ch:Int} {wr:World} (h:SR w b i0 i s be j wv X z err ch wr) (hB:BD (tl s i0)) (hc:s.size≤300):X<Big:=by
 have h1:=bv_lt (l:=(tl s i0).take (i-i0)) (fun c hc=>hB c (List.mem_of_mem_take hc))
 have h2:((tl s i0).take (i-i0)).length≤300:=by
  rw[List.length_take]
  have:(tl s i0).length=s.size-i0:=by unfold tl;rw[List.length_drop];rfl
  omega
 have h3:X≤X*10^j:=Nat.le_mul_of_pos_right _ (Nat.pow_pos (by decide))
 have h4:=h.val
 have h5:=Nat.pow_le_pow_right (show 0<10 by decide) h2
 have h6:=Nat.lt_trans (pow10_lt 300 39 (by decide)) B39_Big
 omega
def ScRet (w:World) (b i0:Nat) (s:ByteArray) (e:Ending) (w':World):Prop:=
 ∃v,e=.returned (.tuple #[v,.int .i64 10,.int .i64 ((s.size-i0:Nat):Int),.nilIface])∧Nv w' v (bv (tl s i0))∧Mod [b] w w'∧(∀q,q∈sb v→w.heap.size≤q)∧Rd w' b s (s.size:Int) (-1)
theorem scan_calls (b i0:Nat) (be:Addr) (p:Int) (s:ByteArray) (w:World) (h:Rd w b s i0 p) (he:w.cell? ⟨3,0,none⟩=some (eofV be)) (hb:19≤b) (hi:i0<s.size) (hc:s.size≤300) (hB:BD (tl s i0)):
 Calls Tryz.prog 228 #[.slice none 0 0,.iface 171 (.pointer (some ⟨b,0,none⟩)),.int .i64 10,.bool false] w (ScRet w b i0 s):=by
 have m1:=meth_readByte b
 have m2:=eof_nil be
 have m3:=eof_eql be
 have R1:=Lh (readByte_ok b i0 p s w h hi (by omega))
 have H0:=Lh (Aj h (Aj he (Aj hb (Aj hi (Aj hc hB)))))
 clear h he hb hc hB
 go_enter Tryz.func228,Tryz.ntmps228
 go_wp2_with fail
 refine R1.out.mono ?_
 rintro e w1 ⟨rfl,h1,hm1⟩
 have hSR:SR w b i0 i0 s be 0 0 0 (.slice none 0 0) .nilIface (((s[i0]'hi).toNat:Nat):Int) w1:=
  { mod:=hm1,nv:=.inl ⟨rfl,rfl⟩,own:=by simp[sb],val:=by simp;rfl,wlt:=by decide,jlt:=by decide,ge:=Nat.le_refl _,le:=by omega,st:=.inl ⟨hi,rfl,rfl,h1⟩ }
 have HS:=Lh hSR
 clear hSR h1 hm1 R1
 go_wp2_with fail
 refine(maxPow_calls _).mono ?_
 rintro e w2 ⟨rfl,rfl⟩
 go_wp2_with fail
 go_loopw [0,3,10,11,13,14,15,20,21,22] (fun t0 t3 t10 t11 t13 t14 t15 t20 t21 t22 wr=>∃(i j wv X m:Nat) (z err:Value) (ch pv:Int),z=t0∧t10=.int .i64 (m:Int)∧m=i-i0∧err=t11∧t13=.int .i32 pv∧(pv=46∨pv=48)∧t15=.int .u8 ch∧t20=.int .u64 wv∧t21=.int .i64 j∧t3=.bool false∧t14=.bool false∧t22=.int .i64 (-1)∧SR w b i0 i s be j wv X z err ch wr) (fun _ _ t10 _ _ _ _ _ _ _ _=>1000-(intOf t10).toNat)
 case atStart=>exact⟨i0,0,0,0,0,_,_,_,46,rfl,rfl,by rw[Nat.sub_self],rfl,rfl,.inl rfl,rfl,rfl,rfl,rfl,rfl,rfl,HS.out⟩
 case round=>
  obtain⟨i,j,wv,X,m,z,err,ch,pv,rfl,rfl,hmi,rfl,rfl,hpv,rfl,rfl,rfl,rfl,rfl,rfl,hSR⟩:=hrel
  have hpv95:(pv==95)=false:=by rcases hpv with rfl|rfl<;>decide
  have hge:=hSR.ge
  have hle:=hSR.le
  have hj:=hSR.jlt
  rcases hSR.st with ⟨hlt,rfl,rfl,hrd⟩|⟨hlt,rfl,hrd⟩
  ·have hbd:=tl_bd H0.out.2.2.2.2.2 hSR.ge hlt
   have hdig:=fun d hd=>hSR.digit hlt (d:=d) hd
   generalize hcc:(s[i]'hlt).toNat=c at*
   obtain⟨d,hd⟩:∃d,d=c-48:=⟨_,rfl⟩
   clear hdig
   have he3:wr.cell? ⟨3,0,none⟩=some (eofV be):=(hSR.mod.cell (p:=⟨3,0,none⟩) (World.block_lt_of_cell? w _ H0.out.2.1) (by have:=H0.out.2.2.1;simp;omega)).trans H0.out.2.1
   have t1:((c:Int)==46)=false:=by simp;omega
   have t2:((c:Int)==95)=false:=by simp;omega
   have t3:decide ((48:Int)≤(c:Int))=true:=by simp;omega
   have t4:decide ((c:Int)≤57)=true:=by simp;omega
   have t5:IntKind.u8.wrap ((c:Int)-48)=(d:Int):=by rw[IntKind.wrap_u8];omega
   have t6:decide ((10:Int)≤(d:Int))=false:=by simp;omega
   have hw:=hSR.wlt
   have hwB:wv<10^18:=Nat.lt_of_lt_of_le hw (Nat.pow_le_pow_right (by decide) (by omega))
   have hwB':wv<1000000000000000000:=hwB
   have t7:IntKind.u64.wrap ((wv:Int)*10)=((wv*10:Nat):Int):=u64_nat (n:=wv*10) (by rw[B_eq];omega)
   have t8:IntKind.u64.wrap (((wv*10:Nat):Int)+(d:Int))=((wv*10+d:Nat):Int):=u64_nat (n:=wv*10+d) (by rw[B_eq];omega)
   obtain⟨w10,hw10⟩:∃w10,w10=wv*10:=⟨_,rfl⟩
   obtain⟨wn,hwn⟩:∃wn,wn=wv*10+d:=⟨_,rfl⟩
   rw[←hw10] at t7
   rw[←hwn,←hw10] at t8
   have hs300:=H0.out.2.2.2.2.1
   obtain⟨m1,hm1⟩:∃m1,m1=m+1:=⟨_,rfl⟩
   have T9:=Lh<| show wrap64 ((m:Int)+1)=(m1:Int) from wrap64_eq (by omega) (by omega) (by omega)
   have HMI:=Lh (Aj (show m1=i+1-i0 by omega) (Aj hm1 (show m<300 by omega)))
   clear hm1 hmi
   have hd9:d≤9:=by omega
   have hXB:=hSR.small H0.out.2.2.2.2.2 H0.out.2.2.2.2.1
   have hm0:i+1-i0≤300:=by have:=H0.out.2.2.2.2.1;omega
   have hb0:=H0.out.2.2.1
   have hs0:=H0.out.2.2.2.2.1
   by_cases hj18:j=18
   ·subst hj18
    have MA:=Lh (mulAddWW_calls z z X 10000000000000000000 wn wr hSR.nv.zs hSR.nv hXB (by rw[B_eq];decide) (by rw[B_eq];omega))
    have HR:=Lh (Aj hSR (Aj hrd (Aj hd (Aj he3 (Aj hw10 hwn)))))
    clear hSR hrd hd he3 hbd hwB hwB' hw hXB hpv95 hpv hj hw10 hwn
    go_wp2_with fail
    refine MA.out.mono ?_
    rintro e w3 ⟨v,rfl,hr⟩
    have hb1:=HR.out.2.1.mod hr.mod (HR.out.2.1.not_sb HR.out.1.nv.zs (by decide))
    have he3:w3.cell? ⟨3,0,none⟩=some (eofV be):=(hr.mod.cell (p:=⟨3,0,none⟩) (World.block_lt_of_cell? wr _ HR.out.2.2.2.1) (fun h3=>by
     have h4:=HR.out.1.own _ h3
     have h5:=World.block_lt_of_cell? w _ H0.out.2.1
     exact absurd h4 (Nat.not_le.2 h5))).trans HR.out.2.2.2.1
    have RB:=Lh (readByte_any b (i+1) be (-1) s w3 hb1 he3 hb0 (by omega))
    have t9:=T9.out
    have HV:=Lh (Aj hr hb1)
    clear hr hb1 he3 MA
    go_wp2_with fail
    refine RB.out.mono ?_
    rintro e w4 ⟨ch2,err2,rfl,hst,hm⟩
    have HT:=Lh (Aj hst hm)
    clear hst hm RB
    go_wp2_with fail
    go_roundw
    case rel=>
     obtain⟨k1,k2,k3,k4,k5,k6⟩:=HR.out
     have hr:=HV.out.1
     rw[k6] at hr
     exact⟨i+1,0,0,_,m1,v,err2,ch2,48,rfl,by first|rfl|rw[t9],HMI.out.1,rfl,rfl,.inr rfl,rfl,rfl,rfl,rfl,rfl,rfl,k1.flush hlt hr HV.out.2 HT.out.2 HT.out.1 (by rw[k3,hcc]) rfl⟩
    case measure=>
     obtain⟨-,q1,q2⟩:=HMI.out
     try rw[t9]
     clear t9
     try clear t11
     subst q1
     simp[intOf];omega
   ·obtain⟨j1,hj1⟩:∃j1,j1=j+1:=⟨_,rfl⟩
    have t10:((j1:Int)==19)=false:=by simp;omega
    have T11:=Lh<| show wrap64 ((j:Int)+1)=(j1:Int) from wrap64_eq (by omega) (by omega) (by omega)
    have RB:=Lh (readByte_any b (i+1) be (-1) s wr hrd he3 hb0 (by omega))
    have HR:=Lh (Aj hSR (Aj hrd (Aj hd (Aj hw10 (Aj hwn (Aj hj18 (Aj hd9 hj1)))))))
    have HJ:=Lh (Aj hj hm0)
    clear hSR hrd hd he3 hbd hwB hwB' hw hXB hpv95 hpv hj18 hw10 hwn hj1 hb0 hs0 hj hm0 hge hle hs300
    have t9:=T9.out
    have t11:=T11.out
    go_wp2_with fail
    refine RB.out.mono ?_
    rintro e w4 ⟨ch2,err2,rfl,hst,hm⟩
    have HT:=Lh (Aj hst hm)
    clear hst hm RB
    go_wp2_with fail
    go_roundw
    case rel=>
     obtain⟨k1,k2,k3,k5,k6,k7,k8,k9⟩:=HR.out
     have h9:=k1.next hlt k2 HT.out.2 HT.out.1 (by rw[k3,hcc]) k8 (by have:=HJ.out.1;omega)
     rw[←k6,←k9] at h9
     exact⟨i+1,j1,wn,X,m1,z,err2,ch2,48,rfl,by first|rfl|rw[t9],HMI.out.1,rfl,rfl,.inr rfl,rfl,rfl,by first|rfl|rw[t11],rfl,rfl,rfl,h9⟩
    case measure=>
     obtain⟨-,q1,q2⟩:=HMI.out
     try rw[t9]
     clear t9
     try clear t11
     subst q1
     simp[intOf];omega
  ·have he3:wr.cell? ⟨3,0,none⟩=some (eofV be):=(hSR.mod.cell (p:=⟨3,0,none⟩) (World.block_lt_of_cell? w _ H0.out.2.1) (by have:=H0.out.2.2.1;simp;omega)).trans H0.out.2.1
   obtain rfl:i=s.size:=by omega
   have hi0:=H0.out.2.2.2.1
   have hXB:=hSR.small H0.out.2.2.2.2.2 H0.out.2.2.2.2.1
   have hval:=hSR.val
   rw[List.take_of_length_le (by unfold tl;rw[List.length_drop];exact Nat.le_refl _)] at hval
   have hw:=hSR.wlt
   have hm:=hmi
   clear hmi
   have tc:((m:Int)==0)=false:=by simp;omega
   rcases Nat.eq_zero_or_pos j with rfl|hj0
   ·have HR:=Lh (Aj hSR (Aj hrd (Aj hval (Aj hw hm))))
    clear hSR hrd hval hw hm hge hle hj hi0 hXB hlt hpv
    unfold eofV at m2 m3 he3 ⊢
    go_wp2_with fail
    refine bodyPost_ret (results_tmp4 rfl _ _ _) rfl ?_
    obtain⟨k1,k2,k3,k4,k5⟩:=HR.out
    refine⟨z,by subst k5;rfl,?_,k1.mod,k1.own,k2⟩
    rw[k3,Nat.pow_zero,Nat.mul_one,show wv=0 by simpa using k4];exact k1.nv
   ·obtain⟨T,hT⟩:∃T,T=10^j:=⟨_,rfl⟩
    have tj:decide ((0:Int)<(j:Int))=true:=by simp;omega
    have tj2:decide (0<j)=true:=by simp;omega
    have hTB:T<B:=by
     have h5:=Nat.pow_le_pow_right (show 0<10 by decide) (show j≤18 by omega)
     rw[hT,B_eq];exact Nat.lt_of_le_of_lt h5 (by decide)
    rw[←hT] at hval hw
    have PW:∀w,Calls Tryz.prog 251 #[.int .u64 10,.int .i64 j] w fun e w'=>e=.returned (.int .u64 (T:Int))∧w=w':=fun w=>by rw[hT];exact pow_calls j w (by omega)
    have MA:=Lh (Aj PW (mulAddWW_calls z z X T wv wr hSR.nv.zs hSR.nv hXB hTB (Nat.lt_trans hw hTB)))
    have HR:=Lh (Aj hSR (Aj hrd (Aj hval hm)))
    clear hSR hrd hval hw hm hge hle hj hi0 hXB hlt hpv hT hTB PW hj0
    unfold eofV at m2 m3 he3 ⊢
    go_wp2_with fail
    refine(MA.out.1 _).mono ?_
    rintro e w2 ⟨rfl,rfl⟩
    go_wp2_with fail
    refine MA.out.2.mono ?_
    rintro e w3 ⟨v,rfl,hr⟩
    have HV:=Lh hr
    clear hr MA
    go_wp2_with fail
    refine bodyPost_ret (results_tmp4 rfl _ _ _) rfl ?_
    obtain⟨k1,k2,k3,k4⟩:=HR.out
    have hr:=HV.out
    refine⟨v,by subst k4;rfl,?_,k1.mod.step hr.mod (fun k hk=>.inr (k1.own k hk)),fun k hk=>(hr.own k hk).elim (k1.own k) (fun h2=>Nat.le_trans k1.mod.size h2),k2.mod hr.mod (k2.not_sb k1.nv.zs (by decide))⟩
    rw[k3];exact hr.nv
end Go.Proofs.YtcpjclakdpjjfaaGreatDoor
namespace Go.Proofs.YtcpjclakdpjjfaaGreatDoor
open Go.RowKit Wd Dg
theorem int_fin2 {w2:World} {b:Nat} {s:Option Int} {x:Bool} {v0 v':Value} {N:Int} (hh:Hd w2 b (hty s) (hdr s x v0)) (nv:Nv w2 v' N.natAbs) (hb:b∉sb v') (lo:19≤b) (vlo:∀k,k∈sb v'→19≤k):
 IA ((w2.setCell ⟨b,1,none⟩ v').setCell ⟨b,0,none⟩ (.bool (decide (N<0)))) b s N v':=by
 have h1:=(hh.set 1 v').set 0 (.bool (decide (N<0)))
 rw[hdr_set1,hdr_set0] at h1
 have m2:Mod [b] w2 ((w2.setCell ⟨b,1,none⟩ v').setCell ⟨b,0,none⟩ (.bool (decide (N<0)))):=((Mod.refl [b] w2).setCell _ (.inl (by simp))).setCell _ (.inl (by simp))
 exact⟨h1,nv.mod m2 (fun j hj hb'=>hb (List.mem_singleton.1 hb'▸hj)),lo,vlo⟩
structure Numl (s:ByteArray) (i0:Nat) (g:Bool) (N:Int):Prop where
 pos:i0<s.size
 cap:s.size≤300
 bd:BD (tl s i0)
 hi0:i0=if (s[0]'(by omega))=45∨(s[0]'(by omega))=43 then 1 else 0
 hg:g=decide ((s[0]'(by omega))=45)
 hn:N=if g then -(bv (tl s i0):Int) else bv (tl s i0)
def IsRet (w:World) (bz b:Nat) (sz:Option Int) (N:Int) (s:ByteArray) (v0:Value) (e:Ending) (w':World):Prop:=
 e=.returned v0∧(∃v',IA w' bz sz N v'∧(∀k,k∈sb v'→w.heap.size≤k))∧Mod [bz,b] w w'∧Rd w' b s (s.size:Int) (-1)
theorem int_scan (bz b:Nat) (be:Addr) (i0:Nat) (sz:Option Int) (p:Int) (s:ByteArray) (g:Bool) (N:Int) (w:World) (hz:IA w bz sz 0 (.slice none 0 0)) (h:Rd w b s ((0:Nat):Int) p) (he:w.cell? ⟨3,0,none⟩=some (eofV be)) (hb:19≤b) (hN:Numl s i0 g N):
 Calls Tryz.prog 200 #[.pointer (some ⟨bz,0,none⟩),.iface 171 (.pointer (some ⟨b,0,none⟩)),.int .i64 10] w (IsRet w bz b sz N s (.tuple #[.pointer (some ⟨bz,0,none⟩),.int .i64 10,.nilIface])):=by
 have hne:bz≠b:=fun h1=>by
  subst h1
  have h2:=hz.hd.symm.trans h
  cases sz<;>simp[hty,hdr] at h2
 have hpos:=hN.pos
 have hcap:=hN.cap
 have SS:=scanSign_calls b 0 p s w h (by omega) (by omega)
 rw[←hN.hg,show (0+(if (s[0]'(by omega))=45∨(s[0]'(by omega))=43 then 1 else 0):Nat)=i0 by rw[Nat.zero_add];exact hN.hi0.symm] at SS
 have HS:=Lh SS
 have H0:=Lh (Aj hz (Aj he (Aj hb (Aj hN hne))))
 clear hz he hb hN h SS hne hpos hcap
 go_enter Tryz.func200,Tryz.ntmps200
 go_wp2_with fail
 refine HS.out.mono ?_
 rintro e w1 ⟨rfl,h1,m1⟩
 obtain⟨hz,he,hb,hN,hne⟩:=H0.out
 have hz1:=hz.mod m1 (by simp[hne]) (by simp[sb])
 have he1:w1.cell? ⟨3,0,none⟩=some (eofV be):=(m1.cell (p:=⟨3,0,none⟩) (World.block_lt_of_cell? w _ he) (by simp;omega)).trans he
 have SC:=Lh (scan_calls b i0 be (-1) s w1 h1 he1 hb hN.pos hN.cap hN.bd)
 have z1:=hz1.abs
 have HM1:=Lh (Aj m1 hz1)
 clear m1 hz1 he1 h1 hz he hb hN HS
 go_wp2_with fail
 refine SC.out.mono ?_
 rintro e w2 ⟨v,rfl,nv,m2,own,rd⟩
 obtain⟨a,l,c,rfl,hl,hlc,hl63⟩:=nv.len
 have hz1:=HM1.out.2
 have hh:=hz1.hd.mod m2 (by simp[hne])
 have hh1:=hh.set 1 (.slice a l c)
 have c1:=hh.cell (hdr_get1 _ _ _)
 have f1:=hh.free 1
 have c2:=hh1.cell (i:=1) (v:=.slice a l c) (by rw[hdr_set1];exact hdr_get1 _ _ _)
 have c0:=hh1.cell (i:=0) (v:=.bool (decide ((0:Int)<0))) (by rw[hdr_set1];exact hdr_get0 _ _ _)
 have f0:=hh1.free 0
 have M12:=HM1.out.1.trans m2
 have hlt:=hz1.lt
 have hnb:bz∉sb (.slice a l c):=fun hm=>by have:=own _ hm;omega
 have hN:=H0.out.2.2.2.1
 have hlo:=hz1.lo
 have FIN:∀(x:Bool),x=decide (N<0)→IsRet w bz b sz N s (.tuple #[.pointer (some ⟨bz,0,none⟩),.int .i64 10,.nilIface]) (.returned (.tuple #[.pointer (some ⟨bz,0,none⟩),.int .i64 10,.nilIface])) ((w2.setCell ⟨bz,1,none⟩ (.slice a l c)).setCell ⟨bz,0,none⟩ (.bool x)):=fun x hx=>by
  subst hx
  have hNn:N.natAbs=bv (tl s i0):=by rw[hN.hn];split<;>omega
  refine⟨rfl,⟨_,int_fin2 hh (by rw[hNn];exact nv) hnb hlo (fun k hk=>by have:=own k hk;omega),fun k hk=>Nat.le_trans HM1.out.1.size (own k hk)⟩,?_,?_⟩
  ·exact((M12.mono (fun x hx=>.inl (by simp at hx;simp[hx]))).setCell _ (.inl (by simp))).setCell _ (.inl (by simp))
  ·exact rd.mod (((Mod.refl [bz] w2).setCell _ (.inl (by simp))).setCell _ (.inl (by simp))) (by simp;exact fun h=>hne h.symm)
 rcases Nat.eq_zero_or_pos l with rfl|hl0
 ·have HF:=Lh (FIN false (by
   rw[hN.hn,hl.1 rfl];simp))
  clear FIN hh hh1 hz1 m2 nv own rd M12 hN hl hnb
  go_wp2_with fail
  go_ret3
  exact HF.out
 ·have t1:decide ((0:Int)<(l:Int))=true:=by simp;omega
  have t2:decide (0<l)=true:=by simp;omega
  have HF:=Lh (FIN g (by
   have:bv (tl s i0)≠0:=fun h=>by have:=hl.2 h;omega
   rw[hN.hn];cases g<;>simp<;>omega))
  clear FIN hh hh1 hz1 m2 nv own rd M12 hN hl hnb
  go_wp2_with fail
  go_ret3
  exact HF.out
theorem int_setFromScanner (bz b:Nat) (be:Addr) (i0:Nat) (sz:Option Int) (p:Int) (s:ByteArray) (g:Bool) (N:Int) (w:World) (hz:IA w bz sz 0 (.slice none 0 0)) (h:Rd w b s ((0:Nat):Int) p) (he:w.cell? ⟨3,0,none⟩=some (eofV be)) (hb:19≤b) (hN:Numl s i0 g N):
 Calls Tryz.prog 171 #[.pointer (some ⟨bz,0,none⟩),.iface 171 (.pointer (some ⟨b,0,none⟩)),.int .i64 10] w (IsRet w bz b sz N s (.tuple #[.pointer (some ⟨bz,0,none⟩),.bool true])):=by
 have m1:=meth_readByte b
 have m2:=eof_neq be
 have SC:=Lh (int_scan bz b be i0 sz p s g N w hz h he hb hN)
 have H0:=Lh (Aj hz (Aj he (Aj hb hN)))
 clear hz he hb hN h
 go_enter Tryz.func171,Tryz.ntmps171
 go_wp2_with fail
 refine SC.out.mono ?_
 rintro e w1 ⟨rfl,⟨v',ia,own⟩,M1,rd⟩
 obtain⟨hz,he,hb,hN⟩:=H0.out
 have hlo:=hz.lo
 have he1:w1.cell? ⟨3,0,none⟩=some (eofV be):=(M1.cell (p:=⟨3,0,none⟩) (World.block_lt_of_cell? w _ he) (by simp;omega)).trans he
 have RB:=Lh (readByte_end b s.size (-1) s _ w1 rd (Nat.le_refl _) he1 hb)
 have hne:b∉sb v':=rd.not_sb ia.nv.zs (by decide)
 have hne2:bz≠b:=fun h1=>by
  subst h1
  have h2:=ia.hd.symm.trans rd
  cases sz<;>simp[hty,hdr] at h2
 have HH:=Lh (Aj ia (Aj own (Aj M1 (Aj hne hne2))))
 have he3:∀w2,Mod [b] w1 w2→w2.cell? ⟨3,0,none⟩=some (eofV be):=fun w2 m=>(m.cell (p:=⟨3,0,none⟩) (World.block_lt_of_cell? w1 _ he1) (by simp;omega)).trans he1
 have HE:=Lh he3
 clear hz he hb hN ia own M1 rd he1 SC hne hne2 he3
 go_wp2_with fail
 refine RB.out.mono ?_
 rintro e w2 ⟨rfl,h3,h4⟩
 have he2:=HE.out w2 h4
 have H2:=Lh (Aj h3 h4)
 clear h3 h4
 unfold eofV at he2 m2 ⊢
 go_wp2_with fail
 go_ret2
 obtain⟨k1,k2,k3,k4,k5⟩:=HH.out
 exact⟨rfl,⟨v',k1.mod H2.out.2 (by simp[k5]) (fun k hk hb=>k4 (List.mem_singleton.1 hb▸hk)),k2⟩,k3.trans (H2.out.2.mono (fun x hx=>.inl (by simp at hx;simp[hx]))),H2.out.1⟩
theorem int_setString (bz:Nat) (be:Addr) (i0:Nat) (sz:Option Int) (s:ByteArray) (g:Bool) (N:Int) (w:World) (hw:19≤w.heap.size) (hz:IA w bz sz 0 (.slice none 0 0)) (he:w.cell? ⟨3,0,none⟩=some (eofV be)) (hN:Numl s i0 g N):
 Calls Tryz.prog 145 #[.pointer (some ⟨bz,0,none⟩),.string s,.int .i64 10] w fun e w'=>e=.returned (.tuple #[.pointer (some ⟨bz,0,none⟩),.bool true])∧∃v',IntRes w bz (.slice none 0 0) sz N v' w':=by
 have H0:=Lh (Aj hz (Aj he (Aj hw hN)))
 clear hz he hw hN
 go_enter Tryz.func145,Tryz.ntmps145
 go_wp2_with fail
 refine(newReader_calls s w).mono ?_
 rintro e w1 ⟨rfl,h1,m1⟩
 obtain⟨hz,he,hw,hN⟩:=H0.out
 have SF:=Lh (int_setFromScanner bz w.heap.size be i0 sz (-1) s g N w1 (hz.mod m1 (by simp) (by simp)) h1 ((m1.cell (p:=⟨3,0,none⟩) (World.block_lt_of_cell? w _ he) (by simp)).trans he) hw hN)
 have HM:=Lh (Aj m1 hz)
 clear h1 m1 hz he hw hN
 go_wp2_with fail
 refine SF.out.mono ?_
 rintro e w2 ⟨rfl,⟨v',ia,own⟩,M1,rd⟩
 have HF:=Lh (Aj ia (Aj own M1))
 clear ia own M1 rd
 go_wp2_with fail
 go_ret2
 obtain⟨k1,k2,k3⟩:=HF.out
 refine⟨rfl,v',k1,?_,fun k hk=>.inr (Nat.le_trans HM.out.1.size (k2 k hk))⟩
 exact(HM.out.1.mono (by simp)).step k3 (fun x hx=>by
  simp at hx
  rcases hx with rfl|rfl
  ·exact .inl (by simp)
  ·exact .inr (Nat.le_refl _))
end Go.Proofs.YtcpjclakdpjjfaaGreatDoor
namespace Go.Proofs.YtcpjclakdpjjfaaGreatDoor
open Go.RowKit Wd Dg
theorem decodeAscii (t:ByteArray) (x:UInt8) (w:World) (h0:0<t.size) (hx:t[0]'h0=x) (h:x.toNat<128):
 Calls Tryz.prog 146 #[.string t] w fun e w'=>e=.returned (.tuple #[.int .i32 (x.toNat:Int),.int .i64 1])∧w=w':=by
 have t1:t.toList.isEmpty=false:=by
  rw[ByteArray.toList_eq]
  cases hl:t.data.toList with
  |nil=>have:t.data.toList.length=0:=by rw[hl];rfl
        have h1:t.size=t.data.toList.length:=rfl
        omega
  |cons _ _=>rfl
 have t2:decide ((x.toNat:Int)<128)=true:=by simp;omega
 go_enter Tryz.func146,Tryz.ntmps146
 go_wp2_with fail
 go_ret2
 exact⟨rfl,rfl⟩
theorem extract_get {s:ByteArray} {i:Nat} (h:i<s.size):∃h0:0<(s.extract i s.size).size,(s.extract i s.size)[0]'h0=s[i]'h:=by
 have h0:0<(s.extract i s.size).size:=by rw[ByteArray.size_extract];omega
 refine⟨h0,?_⟩
 rw[ByteArray.getElem_extract]
 simp
theorem readRune_ok (b i:Nat) (p:Int) (s:ByteArray) (w:World) (h:Rd w b s i p) (hi:i<s.size) (hc:s.size≤1000000) (hx:(s[i]'hi).toNat<128):
 Calls Tryz.prog 107 #[.pointer (some ⟨b,0,none⟩)] w fun e w'=>e=.returned (.tuple #[.int .i32 ((s[i]'hi).toNat:Int),.int .i64 1,.nilIface])∧Rd w' b s ((i+1:Nat):Int) i∧Mod [b] w w':=by
 obtain⟨h0,hg⟩:=extract_get hi
 have DA:=Lh (fun w=>decodeAscii (s.extract i s.size) (s[i]'hi) w h0 hg hx)
 have c0:=h.cell (i:=0) (v:=.string s) rfl
 have c1:=h.cell (i:=1) (v:=.int .i64 i) rfl
 have c2:=h.cell (i:=2) (v:=.int .i64 p) rfl
 have fr:=h.free
 have t1:decide ((s.size:Int)≤(i:Int))=false:=by simp;omega
 have hx2:∀k,Rd ((w.drewN k).setCell ⟨b,2,none⟩ (.int .i64 i)) b s i i∧Mod [b] w ((w.drewN k).setCell ⟨b,2,none⟩ (.int .i64 i)):=fun k=>
  ⟨Hd.set (h.mod ((Mod.refl [] w).drewN k) (by simp)) 2 _,((Mod.refl [b] w).drewN k).setCell _ (.inl (by simp))⟩
 have HX:=Lh hx2
 generalize hxx:(s[i]'hi).toNat=x at*
 have hle:i≤s.size:=by omega
 clear h h0 hg hx2
 go_enter Tryz.func107,Tryz.ntmps107
 go_wp2_with fail
 go_quiet (fail)
 go_wp2_with fail
 obtain⟨h1,m1⟩:=HX.out nq
 clear c0 c1 c2 fr HX
 generalize (w.drewN nq).setCell ⟨b,2,none⟩ (.int .i64 i)=w1 at*
 have c0:=h1.cell (i:=0) (v:=.string s) rfl
 have c1:=h1.cell (i:=1) (v:=.int .i64 i) rfl
 have fr:=h1.free 1
 have H1:=Lh (Aj h1 m1)
 clear h1 m1
 go_region_law (first|(go_simp;go_at_call 146;refine(DA.out _).mono ?_;rintro e w2 ⟨rfl,rfl⟩))
 all_goals
  go_wp2_with fail
  go_ret3
  obtain⟨h1,m1⟩:=H1.out
  exact⟨rfl,Hd.set (h1.mod ((Mod.refl [] w1).drewN 1) (by simp)) 1 _,(m1.drewN 1).setCell _ (.inl (by simp))⟩
theorem readRune_end (b i:Nat) (p:Int) (s:ByteArray) (ev:Value) (w:World) (h:Rd w b s i p) (hi:s.size≤i) (he:w.cell? ⟨3,0,none⟩=some ev) (hb:19≤b):
 Calls Tryz.prog 107 #[.pointer (some ⟨b,0,none⟩)] w fun e w'=>e=.returned (.tuple #[.int .i32 0,.int .i64 0,ev])∧Rd w' b s i (-1)∧Mod [b] w w':=by
 have c0:=h.cell (i:=0) (v:=.string s) rfl
 have c1:=h.cell (i:=1) (v:=.int .i64 i) rfl
 have c2:=h.cell (i:=2) (v:=.int .i64 p) rfl
 have fr:=h.free
 have t1:decide ((s.size:Int)≤(i:Int))=true:=by simp;omega
 have hx2:∀k,Rd ((w.drewN k).setCell ⟨b,2,none⟩ (.int .i64 (-1))) b s i (-1)∧Mod [b] w ((w.drewN k).setCell ⟨b,2,none⟩ (.int .i64 (-1)))∧((w.drewN k).setCell ⟨b,2,none⟩ (.int .i64 (-1))).cell? ⟨3,0,none⟩=some ev:=fun k=>
  have m:Mod [b] w ((w.drewN k).setCell ⟨b,2,none⟩ (.int .i64 (-1))):=((Mod.refl [b] w).drewN k).setCell _ (.inl (by simp))
  ⟨Hd.set (h.mod ((Mod.refl [] w).drewN k) (by simp)) 2 _,m,(m.cell (p:=⟨3,0,none⟩) (World.block_lt_of_cell? w _ he) (by simp;omega)).trans he⟩
 have HX:=Lh hx2
 clear h hx2 he
 go_enter Tryz.func107,Tryz.ntmps107
 go_wp2_with fail
 go_quiet (fail)
 go_wp2_with fail
 obtain⟨h1,m1,e1⟩:=HX.out nq
 clear c0 c1 c2 fr HX
 generalize (w.drewN nq).setCell ⟨b,2,none⟩ (.int .i64 (-1))=w1 at*
 have H1:=Lh (Aj h1 m1)
 clear h1 m1
 go_quiet (fail)
 go_wp2_with fail
 go_ret3
 obtain⟨h1,m1⟩:=H1.out
 exact⟨rfl,h1.mod ((Mod.refl [] w1).drewN _) (by simp),m1.drewN _⟩
end Go.Proofs.YtcpjclakdpjjfaaGreatDoor
namespace Go.Proofs.YtcpjclakdpjjfaaGreatDoor
open Go.RowKit Wd Dg
structure DTx (s:ByteArray) (sg A D:List UInt8) (dot:Bool):Prop where
 tx:s.data.toList=sg++A++(if dot then 46::D else [])
 sg:sg=[]∨sg=[43]∨sg=[45]
 a:BD A
 d:BD D
 nd:dot=false→D=[]
 some:A++D≠[]
 cap:s.size≤250
def nop (l:List UInt8):List UInt8:=l.filter (· !=46)
theorem nop_app (l r:List UInt8):nop (l++r)=nop l++nop r:=List.filter_append ..
theorem nop_bd {l:List UInt8} (h:BD l):nop l=l:=List.filter_eq_self.2 fun c hc=>by
 have:=h c hc
 simp only[bne_iff_ne,ne_eq]
 rintro rfl
 have e:(46:UInt8).toNat=46:=rfl
 omega
theorem nop_sg {l:List UInt8} (h:l=[]∨l=[43]∨l=[45]):nop l=l:=by rcases h with rfl|rfl|rfl<;>rfl
theorem DTx.at {s:ByteArray} {sg A D:List UInt8} {dot:Bool} (h:DTx s sg A D dot) {i:Nat} (hi:i<s.size):
 (i=0∧((s[i]'hi)=43∨(s[i]'hi)=45))∨(48≤(s[i]'hi).toNat∧(s[i]'hi).toNat≤57)∨((s[i]'hi)=46∧46∉s.data.toList.take i):=by
 have hl:i<s.data.toList.length:=hi
 have e:s[i]'hi=s.data.toList[i]'hl:=rfl
 rw[e]
 have htx:=h.tx
 generalize s.data.toList=l at*
 subst htx
 rcases Nat.lt_or_ge i sg.length with h1|h1
 ·left
  rw[List.getElem_append_left (by rw[List.length_append];omega),List.getElem_append_left h1]
  rcases h.sg with h2|h2|h2
  ·simp[h2] at h1
  ·subst h2
   have:i=0:=by simpa using h1
   subst this;exact⟨rfl,.inl rfl⟩
  ·subst h2
   have:i=0:=by simpa using h1
   subst this;exact⟨rfl,.inr rfl⟩
 ·right
  rcases Nat.lt_or_ge i (sg++A).length with h3|h3
  ·left
   rw[List.getElem_append_left h3,List.getElem_append_right h1]
   exact h.a _ (List.getElem_mem _)
  ·rw[List.getElem_append_right h3]
   cases dot with
   |false=>simp at hl;rw[List.length_append] at h3;omega
   |true=>
    simp only[if_true]
    rcases Nat.eq_or_lt_of_le h3 with h4|h4
    ·right
     refine⟨by simp[←h4],?_⟩
     rw[←h4,List.take_left]
     intro hm
     rcases List.mem_append.1 hm with h5|h5
     ·rcases h.sg with h2|h2|h2<;>simp[h2] at h5
     ·have:=h.a _ h5
      have e:(46:UInt8).toNat=46:=rfl
      omega
    ·left
     rw[List.getElem_cons,dif_neg (by omega)]
     exact h.d _ (List.getElem_mem _)
theorem take_one {l:List UInt8} {i:Nat} (h:i<l.length):l.take (i+1)=l.take i++[l[i]]:=by
 rw[List.take_succ_eq_append_getElem h]
theorem split_dot {P Q P' Q':List UInt8} (h:P++46::Q=P'++46::Q') (h1:46∉P) (h2:46∉P'):P=P':=by
 have k:∀(X Y:List UInt8),46∉X→(X++46::Y).takeWhile (· !=46)=X:=by
  intro X Y hX
  induction X with
  |nil=>simp
  |cons c X ih=>
   have hc:c≠46:=fun e=>hX (by simp[e])
   simp[hc,ih (fun hm=>hX (List.mem_cons_of_mem _ hm))]
 rw[←k P Q h1,h,k P' Q' h2]
theorem DTx.no_dot {s:ByteArray} {sg A D:List UInt8} {dot:Bool} (h:DTx s sg A D dot):46∉sg++A:=by
 intro hm
 rcases List.mem_append.1 hm with h5|h5
 ·rcases h.sg with h2|h2|h2<;>simp[h2] at h5
 ·have:=h.a _ h5
  have e:(46:UInt8).toNat=46:=rfl
  omega
theorem DTx.nopAll {s:ByteArray} {sg A D:List UInt8} {dot:Bool} (h:DTx s sg A D dot):nop s.data.toList=sg++A++D:=by
 rw[h.tx,nop_app,nop_app,nop_sg h.sg,nop_bd h.a]
 cases dot with
 |false=>rw[h.nd rfl];rfl
 |true=>
  show _++Go.Proofs.YtcpjclakdpjjfaaGreatDoor.nop (46::D)=_
  have e:Go.Proofs.YtcpjclakdpjjfaaGreatDoor.nop (46::D)=Go.Proofs.YtcpjclakdpjjfaaGreatDoor.nop D:=rfl
  rw[e,nop_bd h.d]
structure DSc (w:World) (b base:Nat) (s:ByteArray) (i:Nat) (v:Value) (us:List UInt8) (dp dg:Int) (wr:World):Prop where
 mod:Mod [b] w wr
 rd:∃p,Rd wr b s (i:Int) p
 row:Bs wr base v us
 us:us=nop (s.data.toList.take i)
 dp:(dp=-1∧46∉s.data.toList.take i)∨∃P Q,s.data.toList.take i=P++46::Q∧46∉P∧dp=(P.length:Int)
 dg:(dg=-1∧∀c∈s.data.toList.take i,c=43∨c=45∨c=46)∨(0≤dg∧∃c∈s.data.toList.take i,48≤c.toNat)
 le:i≤s.size
 hb:w.heap.size≤base
 hb2:base≤wr.heap.size
theorem take_mem_succ {s:ByteArray} {i:Nat} (hi:i<s.size):s.data.toList.take (i+1)=s.data.toList.take i++[s[i]'hi]:=take_one (l:=s.data.toList) hi
theorem DSc.push {w:World} {b base i:Nat} {s:ByteArray} {v v':Value} {us:List UInt8} {dp dg dg':Int} {wr w2 w3:World} (h:DSc w b base s i v us dp dg wr) (hi:i<s.size) (hne:(s[i]'hi)≠46)
 (m:Mod [b] wr w2) (hrd:Rd w2 b s ((i+1:Nat):Int) i) (hrow:w3.ownsRow base 5 1 v' (us.length+1) (Lib.byteCells us++[.int .u8 ((s[i]'hi).toNat:Int)])) (hg:(w2.alloc (.cells #[.int .u8 ((s[i]'hi).toNat:Int)] 5)).grownBy w3 v.ownBlock) (hbb:b<base)
 (hdg:(dg'=-1∧dg=-1∧((s[i]'hi)=43∨(s[i]'hi)=45))∨(0≤dg'∧dg'=dg)∨(0≤dg'∧48≤(s[i]'hi).toNat)):DSc w b base s (i+1) v' (us++[s[i]'hi]) dp dg' w3:=by
 obtain⟨_,_,_,hown⟩:=h.row.form
 have mg:Mod v.ownBlock.toList (w2.alloc (.cells #[.int .u8 ((s[i]'hi).toNat:Int)] 5)) w3:=Mod.grown hg (fun k hk=>by rw[hk];simp)
 have hS:∀k,k∈v.ownBlock.toList→base≤k:=fun k hk=>(hown k (by simpa using hk)).1
 have ht:=take_mem_succ hi
 have hhb:=h.hb
 refine { mod:=((h.mod.trans m).alloc _).step mg (fun x hx=>.inr (by have:=hS x hx;omega)),rd:=⟨i,?_⟩,row:=?_,us:=?_,dp:=?_,dg:=?_,le:=hi,hb:=h.hb,hb2:=?_ }
 ·exact Hd.mod (Hd.mod hrd ((Mod.refl [] w2).alloc _) (by simp)) mg (fun hm=>by have:=hS b hm;omega)
 ·have:Bs w3 base v' (us++[s[i]'hi]):=by
   unfold Bs
   rw[List.length_append,Lib.byteCells_append]
   exact hrow
  exact this
 ·rw[ht,nop_app,←h.us]
  have:nop [s[i]'hi]=[s[i]'hi]:=by simp[nop,hne]
  rw[this]
 ·rw[ht]
  rcases h.dp with ⟨h1,h2⟩|⟨P,Q,h1,h2,h3⟩
  ·exact .inl ⟨h1,by simp[h2,hne.symm]⟩
  ·exact .inr ⟨P,Q++[s[i]'hi],by rw[h1];simp,h2,h3⟩
 ·rw[ht]
  rcases hdg with ⟨h1,h2,h3⟩|⟨h1,h2⟩|⟨h1,h2⟩
  ·rcases h.dg with ⟨h4,h5⟩|⟨h4,h5⟩
   ·exact .inl ⟨h1,fun c hc=>by
     rcases List.mem_append.1 hc with h6|h6
     ·exact h5 c h6
     ·simp at h6;subst h6;rcases h3 with h3|h3<;>simp[h3]⟩
   ·omega
  ·rcases h.dg with ⟨h4,h5⟩|⟨h4,c,h5,h6⟩
   ·omega
   ·exact .inr ⟨h1,c,List.mem_append_left _ h5,h6⟩
  ·exact .inr ⟨h1,_,by simp,h2⟩
 ·have h1:=m.size
  have h2:=mg.size
  have h3:=h.hb2
  simp at h2;omega
theorem DSc.dot {w:World} {b base i:Nat} {s:ByteArray} {v:Value} {us:List UInt8} {dg:Int} {wr w2:World} (h:DSc w b base s i v us (-1) dg wr) (hi:i<s.size) (he:(s[i]'hi)=46)
 (m:Mod [b] wr w2) (hrd:Rd w2 b s ((i+1:Nat):Int) i) (hbb:b<base) (hnd:46∉s.data.toList.take i):DSc w b base s (i+1) v us (us.length:Int) dg w2:=by
 have ht:=take_mem_succ hi
 have hU:=h.us
 have hu:nop (s.data.toList.take i)=s.data.toList.take i:=List.filter_eq_self.2 fun c hc=>by
  simp only[bne_iff_ne,ne_eq]
  rintro rfl;exact hnd hc
 refine { mod:=h.mod.trans m,rd:=⟨i,hrd⟩,row:=h.row.mod m (fun k hk=>by rw[List.mem_singleton.1 hk];exact hbb),us:=?_,dp:=?_,dg:=?_,le:=hi,hb:=h.hb,hb2:=Nat.le_trans h.hb2 m.size }
 ·rw[ht,nop_app,←hU,he]
  show us=us++[]
  simp
 ·refine .inr ⟨s.data.toList.take i,[],by rw[ht,he],hnd,?_⟩
  rw[hU,hu]
 ·rw[ht,he]
  rcases h.dg with ⟨h4,h5⟩|⟨h4,c,h5,h6⟩
  ·exact .inl ⟨h4,fun c hc=>by
    rcases List.mem_append.1 hc with h6|h6
    ·exact h5 c h6
    ·simp at h6;simp[h6]⟩
  ·exact .inr ⟨h4,c,List.mem_append_left _ h5,h6⟩
theorem DSc.fin {w:World} {b base i:Nat} {s:ByteArray} {v:Value} {us:List UInt8} {dp dg:Int} {wr:World} {sg A D:List UInt8} {dot:Bool} (h:DSc w b base s i v us dp dg wr) (ht:DTx s sg A D dot) (hi:s.size≤i):
 us=sg++A++D∧dg≠-1∧((dp=-1∧D=[])∨(0≤dp∧(us.length:Int)-dp=D.length)):=by
 have hle:=h.le
 have hall:s.data.toList.take i=s.data.toList:=List.take_of_length_le hi
 have hU:=h.us
 rw[hall,ht.nopAll] at hU
 refine⟨hU,?_,?_⟩
 ·intro hdg
  rcases h.dg with ⟨h1,h2⟩|⟨h1,-⟩
  ·rw[hall] at h2
   have hne:=ht.some
   obtain⟨c,hc⟩:∃c,c∈A++D:=List.exists_mem_of_ne_nil _ hne
   have hc1:c∈s.data.toList:=by
    have hc2:c∈nop s.data.toList:=by rw[ht.nopAll,List.append_assoc];exact List.mem_append_right _ hc
    exact(List.mem_filter.1 hc2).1
   have hd:48≤c.toNat:=by
    rcases List.mem_append.1 hc with h3|h3
    ·exact(ht.a c h3).1
    ·exact(ht.d c h3).1
   rcases h2 c hc1 with rfl|rfl|rfl
   ·exact absurd hd (by decide)
   ·exact absurd hd (by decide)
   ·exact absurd hd (by decide)
  ·omega
 ·rcases h.dp with ⟨h1,h2⟩|⟨P,Q,h1,h2,h3⟩
  ·left
   refine⟨h1,?_⟩
   cases dot with
   |false=>exact ht.nd rfl
   |true=>
    rw[hall,ht.tx] at h2
    simp at h2
  ·right
   rw[hall,ht.tx] at h1
   cases dot with
   |false=>
    exfalso
    have hm:(46:UInt8)∈sg++A++(if false=true then 46::D else []):=by rw[h1];simp
    simp only[Bool.false_eq_true,if_false,List.append_nil] at hm
    exact ht.no_dot hm
   |true=>
    have e:=split_dot h1.symm h2 ht.no_dot
    rw[h3,hU,e]
    refine⟨by omega,?_⟩
    simp only[List.length_append]
    omega
end Go.Proofs.YtcpjclakdpjjfaaGreatDoor
