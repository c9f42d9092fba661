/- A text taken as a quantity, by ten (resource/quantity. -/
import Derived.Test.YtcpjclakdpjjfaaGreatDoorC40
import Derived.Test.YtcpjclakdpjjfaaGreatDoorC09
import Derived.WalkMore
import Derived.Deep.CutRange
import Derived.Handy
set_option maxHeartbeats 16000000
set_option maxRecDepth 20000
namespace Go.Proofs.YtcpjclakdpjjfaaGreatDoor
open Go.RowKit Wd Dg
theorem parse_nought (w:World):Calls Tryz.prog 35 #[.string ⟨#[48]⟩] w (PqRet 2 0 w):=by
 go_enter Tryz.func35,Tryz.ntmps35
 go_wp2_with fail
 go_returns
 exact PqRet.short (bq:=w.heap.size) (Mod.refl [] w) (Nat.le_refl _) Fmt.d (.inl ⟨rfl,rfl,by unfold i64;omega,by decide,by decide,by simp⟩) (by decide) (((Mod.refl [] w).alloc _).mono (by simp))
theorem parse_dec (s:ByteArray) (fn:Nat) (hfn:fn≠1) (V:Int) (g A D S:List UInt8) (dot:Bool) (x:Int) (w:World) (he:Env2 w) (h:Prt s g A D S dot fn x) (hV:V=qV (decide (g=[45])) A D fn x) (hc:CanOk fn V) (h48:s.data.toList≠[48]):
 Calls Tryz.prog 35 #[.string s] w (PqRet fn V w):=by
 have t32:((s.size:Int)==0)=false:=by
  rw[beq_eq_false_iff_ne]
  intro h0
  have h1:s.data.toList.length=0:=by have:s.size=s.data.toList.length:=rfl;omega
  have h2:=h.tx
  rw[List.eq_nil_of_length_eq_zero h1] at h2
  have h3:=congrArg List.length h2
  have h4:=List.length_pos_iff.2 h.ne
  simp only[List.length_append,List.length_nil] at h3 h4
  cases hd:dot with
  |false=>rw[h.nd hd] at h4;simp at h4;omega
  |true=>rw[hd] at h3;simp at h3;omega
 have t36:(s.toList==[48])=false:=by rw[Lib.toList_data];exact beq_eq_false_iff_ne.2 h48
 have HPc:=Lh (fun(w1:World)=>pieces_calls s g A D S dot fn x h w1)
 have HH:=Lh (Aj h (Aj hV (Aj hc he)))
 have HF:=Lh hfn
 have hd:=Hd.new w 70 #[.int .i64 0,.int .i32 0,.pointer none,.string ⟨#[]⟩,.string ⟨#[]⟩]
 have m0:Mod [] w (w.alloc (.cells #[.int .i64 0,.int .i32 0,.pointer none,.string ⟨#[]⟩,.string ⟨#[]⟩] 70)):=(Mod.refl [] w).alloc _
 have HQ:=Lh (Aj hd m0)
 clear h hV hc he hfn h48 hd m0
 generalize decide (g=[45])=neg at*
 go_enter Tryz.func35,Tryz.ntmps35
 go_wp2_with fail
 generalize w.alloc (.cells #[.int .i64 0,.int .i32 0,.pointer none,.string ⟨#[]⟩,.string ⟨#[]⟩] 70)=W0 at*
 have C:=Lh (HPc.out W0)
 clear HPc
 refine C.out.mono ?_
 rintro e w1 ⟨⟨value,num,denom,sfx,rfl,hr⟩,m1⟩
 have HR:=Lh hr
 have M1:=Lh m1
 clear hr m1 C
 go_wp2_with fail
 refine(newSuffixer_calls w1).mono ?_
 rintro e w2 ⟨bs,rfl,hb⟩
 have HB:=Lh hb
 have I:=Lh (intp_calls hb sfx S fn x HR.out.sfx HH.out.1.s)
 have M2:=Lh (M1.out.trans hb.1)
 have mi:=meth_interp bs w2
 clear hb M1
 go_wp2_with fail
 refine I.out.mono ?_
 rintro e w3 ⟨fb,hf,hee,m3⟩
 rw[if_neg HF.out] at hee
 subst hee
 have HFm:=Lh hf
 have HFb:=Lh (fmt_dec hf HF.out).1
 have tB:=(fmt_dec hf HF.out).2
 have M3:=Lh (M2.out.trans m3)
 clear m3 hf I M2 mi
 have nl:num.size≤111:=by have:=HR.out.len;have:=HH.out.1.len;omega
 have dl:denom.size≤110:=by have:denom.size=denom.data.toList.length:=rfl;rw[HR.out.den] at this;have:=HH.out.1.len;omega
 have de:denom.size=D.length:=by have:denom.size=denom.data.toList.length:=rfl;rw[HR.out.den] at this;exact this
 have xb:=Lh (show -60≤x∧x≤60 from sfx_range HH.out.1.s)
 have DE:=Lh de
 clear de
 go_upto_block 0 with fail
 go_cut [14,15,16] from 65 to 100 (fun t14 t15 t16 wx=>∃p:Int,t14=.int .i32 p∧p=18-((num.size+denom.size:Nat):Int)∧t15=.int .i32 x∧t16=.int .i64 1∧w3=wx)
 case first=>
  rcases HFb.out with t1|⟨t1,t2⟩
  ·go_wp2_with fail
   go_meet
   case rel=>exact⟨18-((num.size+denom.size:Nat):Int),by go_num,rfl,rfl,rfl,rfl⟩
  ·go_wp2_with fail
   go_meet
   case rel=>exact⟨18-((num.size+denom.size:Nat):Int),by go_num,rfl,rfl,rfl,rfl⟩
 case rest=>
 obtain⟨p,rfl,hp,rfl,rfl,rfl⟩:=hcut
 have HP:=Lh hp
 clear hp
 go_upto_if 102 with fail
 go_cut [15,17,18,19,20,21] from 101 to 173 (fun _ _ _ _ _ _ wx=>Mod [] w3 wx)
 case first=>
  by_cases hp0:0≤p
  case neg=>
   have t1:decide (0≤p)=false:=decide_eq_false hp0
   go_wp2_with fail
   go_meet
   case rel=>exact Mod.refl _ _
  have t1:decide (0≤p)=true:=decide_eq_true hp0
  have hsm:num.size+denom.size≤18:=by have:=HP.out;omega
  obtain⟨c1,hc1⟩:∃c1:Int,c1=x-(denom.size:Int):=⟨_,rfl⟩
  have tc1:wrap32 (x-(denom.size:Int))=c1:=by have:=xb.out;unfold wrap32;omega
  have HC1:=Lh hc1
  have TC1:=Lh tc1
  clear hc1 tc1
  by_cases hc9:-9≤c1
  case neg=>
   have t2:decide (-9≤c1)=false:=decide_eq_false hc9
   have tc1:=TC1.out
   go_wp2_with fail
   go_meet
   case rel=>exact Mod.refl _ _
  have t2:decide (-9≤c1)=true:=decide_eq_true hc9
  have H9:=Lh hc9
  have hlim:¬9223372036854775807<num.size+denom.size:=by omega
  have hF:(num++denom).data.toList=num.data.toList++D:=by rw[ByteArray.data_append,Array.toList_append,HR.out.den]
  have hFs:(num++denom).size=num.size+denom.size:=ByteArray.size_append
  have hBD:BD (num.data.toList++D):=fun c hc=>(List.mem_append.1 hc).elim (HR.out.nm c) (HH.out.1.d c)
  have hbv:bv (A++D)<1000000000000000000:=by
   rw[←HR.out.eq]
   refine bv_small hBD ?_
   have:(num++denom).size=(num++denom).data.toList.length:=rfl
   rw[hF] at this
   omega
  obtain⟨N,hN⟩:∃N,N=bv (A++D):=⟨_,rfl⟩
  have hpi:Go.Lib.parseIntB 64 (num++denom).data.toList=.ok (N:Int):=by
   have e63:(2:Nat)^63=9223372036854775808:=by decide
   have:=parse_sg (g:=[]) (P:=num.data.toList++D) (.inl rfl) hBD (by simp[HR.out.ne]) (by rw[HR.out.eq];omega)
   rw[List.nil_append,if_neg (by decide),HR.out.eq,←hN] at this
   rw[hF];exact this
  obtain⟨F,hFF⟩:∃F,num++denom=F:=⟨_,rfl⟩
  rw[hFF] at hpi hFs
  have F0:0<F.size:=by
   have:=List.length_pos_iff.2 HR.out.ne
   have e:num.size=num.data.toList.length:=rfl
   omega
  have P:=Lh (fun w'=>Tryz.strconv_ParseInt_10_at64_ok F (by omega) N hpi w')
  rw[←hN] at hbv
  have MU:=Lh (fun w'=>int64Multiply_calls N 1 w' (by unfold i64;omega) (by unfold i64;omega))
  have HS3:=Lh (fun w'=>Tryz.strings_HasSuffix F ⟨#[48,48,48]⟩ w' (by omega))
  have HN:=Lh (Aj hN (Aj hbv hsm))
  clear hpi hFs hF hBD hbv hN hsm
  have tc1:=TC1.out
  go_upto_region 29 with fail
  rw[tc1]
  clear hFF tc1
  go_wp2_with fail
  refine(P.out _).mono ?_
  rintro e w4 ⟨rfl,hw⟩
  have M4:=Lh (show Mod [] w3 w4 by
   rcases hw with rfl|⟨t,rfl⟩
   ·exact Mod.refl _ _
   ·exact Mod.of_below (Lib.bytesWorld_below w3 5 t) (Nat.le_refl _))
  clear hw P
  go_wp2_with fail
  refine(MU.out _).mono ?_
  rintro e w5 ⟨c,ok,rfl,⟨m,rfl⟩,hok,hci⟩
  have M5:=Lh (M4.out.drewN m)
  clear hci MU
  cases ok
  ·clear hok
   go_wp2_with fail
   go_meet
   case rel=>exact M5.out
  obtain rfl:c=N:=by have:=hok rfl;omega
  clear hok
  have hQ5:Hd (w4.drewN m) w.heap.size 70 (qc 0 0 (.pointer none) (.string ⟨#[]⟩) (.string ⟨#[]⟩)):=(HQ.out.1.mod M3.out (by simp)).mod M5.out (by simp)
  have m5:Mod [] w (w4.drewN m):=(HQ.out.2.trans M3.out).trans M5.out
  generalize w4.drewN m=wE at*
  have FIN:=Lh (fun W5 st (md:Mod [w.heap.size] wE W5)=>(show PqRet fn V w (.returned (.tuple #[qv (sg neg*(N:Int)) c1 (.pointer none) (.string st) (.string fb),.nilIface])) W5 from
   PqRet.short m5 (Nat.le_refl _) HFm.out (by rw[HH.out.2.1];exact QOk.short HF.out (by rw[←HN.out.1];exact HN.out.2.1) (by rw[HN.out.1]) (by rw[HC1.out,DE.out]) (by have:=H9.out;omega) (by have:=HC1.out;have:=xb.out;omega)) (by have:=sg_natAbs neg N;have:=HN.out.2.1;omega) md))
  have P5:=Lh (fun st=>put5 hQ5 (.int .i64 (sg neg*(N:Int))) (.int .i32 c1) (.pointer none) (.string st) (.string fb))
  have q0:=hQ5.cell (i:=0) rfl
  have q1:=hQ5.cell (i:=1) rfl
  have q2:=hQ5.cell (i:=2) rfl
  have q3:=hQ5.cell (i:=3) rfl
  have q4:=hQ5.cell (i:=4) rfl
  have qf:=hQ5.free
  clear hQ5 m5 M5 M4
  have Nb:=HN.out.2.1
  go_upto_if 130 with fail
  go_cut [20] from 129 to 132 (fun t20 wx=>t20=.int .i64 (sg neg*(N:Int))∧wE=wx)
  case first=>
   cases neg
   ·go_wp2_with fail
    go_meet
    case rel=>exact⟨by simp[sg],rfl⟩
   ·go_wp2_with fail
    go_meet
    case rel=>exact⟨by simp[sg];try (unfold wrap64;omega),rfl⟩
  case rest=>
  obtain⟨rfl,rfl⟩:=hcut
  clear Nb
  generalize sg neg*(N:Int)=K at*
  obtain⟨hb,hhb⟩:∃hb,Go.Lib.hasSuffix F.data.toList [48,48,48]=hb:=⟨_,rfl⟩
  have HS4:=Lh (fun w'=>(HS3.out w').mono (R':=fun e w''=>e=.returned (.bool hb)∧w''=w') (fun e w'' ⟨h1,h2⟩=>⟨by rw[h1,←hhb],h2⟩))
  clear hhb HS3
  go_wp2_with fail
  all_goals try (refine(HS4.out _).mono ?_;rintro e w' ⟨rfl,rfl⟩;go_wp2_with fail)
  all_goals
   first
   |(obtain⟨W5,hW5,hd5,md5⟩:=P5.out s
     rw[hW5]
     refine bodyPost_ret (results35 _ W5 _ _ _ _ _ _ hd5 rfl rfl) rfl ?_
     exact FIN.out W5 _ md5)
   |(obtain⟨W5,hW5,hd5,md5⟩:=P5.out ⟨#[]⟩
     rw[hW5]
     refine bodyPost_ret (results35 _ W5 _ _ _ _ _ _ hd5 rfl rfl) rfl ?_
     exact FIN.out W5 _ md5)
 case rest=>
  have MX:=Lh hcut
  clear hcut
  have mz:Mod [] w wc:=(HQ.out.2.trans M3.out).trans MX.out
  have hez:Env2 wc:=HH.out.2.2.2.mod mz (by simp)
  have nd:=new_dec wc hez.env.big
  have st:PqS w w.heap.size wc.heap.size 0 0 (.slice none 0 0) (wc.alloc (.cells #[.bool false,.slice none 0 0,.int .i32 0] 123)):=
   ⟨mz.alloc _,hez.mod nd.mod (by simp),((HQ.out.1.mod M3.out (by simp)).mod MX.out (by simp)).mod nd.mod (by simp),Nat.le_refl _,nd.ia,by
    have h1:=(((HQ.out.1.mod M3.out (by simp)).mod MX.out (by simp))).lt
    simp[sb];omega,by intro k hk;simp[sb] at hk;rw[hk];exact mz.size⟩
  have ST:=Lh st
  have lt0:=HQ.out.1.lt
  clear mz hez nd st M3 MX HQ
  go_upto_region 45 with fail
  generalize wc.alloc (.cells #[.bool false,.slice none 0 0,.int .i32 0] 123)=W4 at*
  generalize wc.heap.size=ba at*
  obtain⟨g',A',dot',htx,hval⟩:=HR.out.val
  obtain⟨be,heof⟩:=ST.out.env.eof
  have SS:=Lh (dec_setString ba be value g' A' D dot' _ rfl denom.size DE.out W4 ST.out.env.env.big ST.out.ia heof htx)
  rw[hval] at SS
  obtain⟨n0,hn0⟩:∃n0:Int,n0=sg neg*(bv (A++D):Int):=⟨_,rfl⟩
  rw[←hn0] at SS
  have HN0:=Lh hn0
  clear htx hval heof hn0
  go_wp2_with fail
  refine SS.out.mono ?_
  rintro e w5 ⟨rfl,u5,r5⟩
  have S5:=Lh (ST.out.turn r5)
  clear r5 SS ST
  have SC:=Lh (dec_scale ba _ n0 u5 w5 S5.out.ia)
  have SI:=Lh (infScale_calls x w5 (by have:=xb.out;omega) (by have:=xb.out;omega))
  obtain⟨c0,hc0⟩:∃c0:Int,c0=(denom.size:Int)-x:=⟨_,rfl⟩
  have SX:=Lh (dec_setScale ba _ c0 n0 u5 w5 S5.out.ia)
  have tc0:wrap32 ((denom.size:Int)+-x)=c0:=by have:=xb.out;unfold wrap32;omega
  have HC0:=Lh hc0
  clear hc0
  go_wp2_with fail
  refine SC.out.mono ?_
  rintro e w6 ⟨rfl,rfl⟩
  go_wp2_with fail
  refine SI.out.mono ?_
  rintro e w6 ⟨rfl,rfl⟩
  go_wp2_with fail
  refine SX.out.mono ?_
  rintro e w6 ⟨rfl,u6,r6⟩
  have S6:=Lh (S5.out.turn r6)
  clear r6 SC SI SX S5 tc0
  have SG:=Lh (dec_sign ba _ n0 u6 w6 S6.out.ia)
  obtain⟨r,hr⟩:∃r:Int,sgnI n0=r:=⟨_,rfl⟩
  rw[hr] at SG
  have HRr:=Lh hr
  clear hr
  go_wp2_with fail
  refine SG.out.mono ?_
  rintro e w7 ⟨rfl,rfl⟩
  have hB:BD (A++D):=fun c hc=>(List.mem_append.1 hc).elim (HH.out.1.a c) (HH.out.1.d c)
  have hbig:n0.natAbs<B^6:=by
   rw[HN0.out,sg_natAbs]
   exact bv_big hB (by rw[List.length_append];exact HH.out.1.len)
  have hV0:dV n0 c0=V:=by rw[HH.out.2.1];exact dV_ten HF.out HN0.out (by rw[HC0.out,DE.out])
  have HB0:=Lh (Aj hbig hV0)
  clear hB hbig hV0
  go_upto_if 212 with fail
  go_cut [] from 211 to 215 (fun wx=>∃n1 u1,PqS w w.heap.size ba c0 n1 u1 wx∧n1=(n0.natAbs:Int))
  case first=>
   by_cases hneg:n0<0
   ·have t1:(r==-1)=true:=by rw[←HRr.out,sgnI_neg hneg];rfl
    have SN:=Lh (dec_neg ba c0 n0 u6 w6 S6.out.ia)
    have HG:=Lh hneg
    clear hneg
    go_wp2_with fail
    refine SN.out.mono ?_
    rintro e w8 ⟨rfl,u8,r8⟩
    have S8:=Lh (S6.out.turn r8)
    clear r8 SN
    go_wp2_with fail
    go_meet
    case rel=>exact⟨_,_,S8.out,by have:=HG.out;omega⟩
   ·have t1:(r==-1)=false:=by
     rw[beq_eq_false_iff_ne,←HRr.out]
     unfold sgnI
     rw[if_neg hneg]
     split<;>decide
    have HG:=Lh hneg
    clear hneg
    go_wp2_with fail
    go_meet
    case rel=>exact⟨n0,u6,S6.out,by have:=HG.out;omega⟩
  case rest=>
  obtain⟨n1,u1,hs,hn1⟩:=hcut
  have S7:=Lh hs
  have HC1:=Lh (show CanOk fn (dV n1 c0)∧0≤n1∧n1.natAbs<B^6∧-60≤c0∧c0≤170 from ⟨by
   rcases Int.lt_or_le n0 0 with hneg|hneg
   ·rw[show n1=-n0 by omega,dV_neg,HB0.out.2];exact CanOk.neg HH.out.2.2.1
   ·rw[show n1=n0 by omega,HB0.out.2];exact HH.out.2.2.1,by omega,by rw[hn1];exact HB0.out.1,by have:=HC0.out;have:=xb.out;omega,by have:=HC0.out;have:=xb.out;omega⟩)
  have HN1:=Lh hn1
  clear hs hn1 S6
  have hBig:n1.natAbs<Big:=Nat.lt_trans HC1.out.2.2.1 (by rw[Big_eq];exact Nat.pow_lt_pow_right B_one (by omega))
  have SU:=Lh (dec_unscaled ba c0 n1 u1 _ S7.out.env.env S7.out.ia hBig)
  clear hBig
  obtain⟨v,hv⟩:∃v,wrap64 n1=v:=⟨_,rfl⟩
  obtain⟨o,ho⟩:∃o,(cmpZI v n1==0)=o:=⟨_,rfl⟩
  unfold UnsRet at SU
  rw[hv,ho] at SU
  have HVO:=Lh (Aj hv ho)
  clear hv ho
  go_wp2_with fail
  refine SU.out.mono ?_
  rintro e w8 ⟨rfl,m8⟩
  have S8:=Lh (S7.out.still m8)
  clear m8 SU S7
  have HQq:=Lh (show ∃q:Bool,(q=true↔n1≠0)∧(((v !=0)=true∧q=true)∨((v !=0)=false∧o=!q)) from by
   by_cases hz:n1=0
   ·exact⟨false,by simp[hz],.inr ⟨by rw[←HVO.out.1,hz,wrap64_zero];rfl,by rw[←HVO.out.2,←HVO.out.1,hz,wrap64_zero];rfl⟩⟩
   ·refine⟨true,by simp[hz],?_⟩
    by_cases hv0:v=0
    ·exact .inr ⟨by rw[hv0];rfl,by rw[←HVO.out.2,hv0,cmpZI_beq];exact decide_eq_false fun e=>hz e.symm⟩
    ·exact .inl ⟨by simp[hv0],rfl⟩)
  obtain⟨q,hq1,hq2⟩:=HQq.out
  have HQ1:=Lh hq1
  have HQ2:=Lh hq2
  clear hq1 hq2 HQq
  go_upto_region 58 with fail
  go_cut [226] from 221 to 226 (fun t226 wx=>t226=.bool q∧w8=wx)
  case first=>
   rcases HQ2.out with ⟨t1,t2⟩|⟨t1,t2⟩
   ·subst t2
    go_wp2_with fail
    go_meet
    case rel=>exact⟨rfl,rfl⟩
   ·subst t2
    go_wp2_with fail
    go_meet
    case rel=>exact⟨by simp,rfl⟩
  case rest=>
  obtain⟨rfl,rfl⟩:=hcut
  go_upto_if 226 with fail
  go_cut [] from 221 to 231 (fun wx=>∃c2 n2 u2,PqS w w.heap.size ba c2 n2 u2 wx∧dV n2 c2=dV n1 c0∧DB n2 c2)
  case first=>
   cases q
   ·have HZ:=Lh (show n1=0 from Decidable.byContradiction fun hz=>absurd (HQ1.out.2 hz) (by simp))
    go_wp2_with fail
    go_meet
    case rel=>exact⟨c0,n1,u1,S8.out,rfl,⟨by rw[HZ.out];exact Nat.pow_pos B_pos,by have:=HC1.out;omega,by have:=HC1.out;omega⟩⟩
   ·have db0:DB n1 c0:=⟨Nat.lt_trans HC1.out.2.2.1 (Nat.pow_lt_pow_right B_one (by omega)),by have:=HC1.out;omega,by have:=HC1.out;omega⟩
    have RD:=Lh (dec_round ba ba c0 c0 9 n1 n1 u1 u1 w8 S8.out.env.env S8.out.ia S8.out.ia (by have:=HC1.out;omega) (by have:=HC1.out;omega) (by omega) (by omega) (by have:=HC1.out;omega) (by have:=HC1.out;omega) db0.big (fun k hk=>db0.pow (by have:=HC1.out;omega)) (db0.rnd (by omega)))
    have hv9:dV (rnd n1 c0 9) 9=dV n1 c0:=by
     obtain⟨m,hm⟩:=(can_vb HC1.out.1).fine
     have:=rnd_rup (n:=n1) (c0:=c0) (c:=-9) (by have:=HC1.out;omega) (by have:=HC1.out;omega) (by decide) (by decide)
     rw[show -(-9:Int)=9 from rfl] at this
     rw[this,rup_exact hm]
    have dbr:DB (rnd n1 c0 9) 9:=VB.db (by rw[hv9];exact can_vb HC1.out.1) (by decide) (by decide)
    have HE:=Lh (Aj hv9 dbr)
    have I9:=Lh (fun w'=>infScale_calls (-9) w' (by decide) (by decide))
    rw[show -(-9:Int)=9 from rfl] at I9
    generalize rnd n1 c0 9=nr at*
    clear db0 hv9 dbr
    go_wp2_with fail
    refine(I9.out _).mono ?_
    rintro e w9 ⟨rfl,rfl⟩
    go_wp2_with fail
    refine(roundUp_calls _).mono ?_
    rintro e w9 ⟨rfl,rfl⟩
    go_wp2_with fail
    refine RD.out.mono ?_
    rintro e w9 ⟨rfl,u9,r9⟩
    have S9:=Lh (S8.out.turn r9)
    clear r9 RD
    go_wp2_with fail
    go_meet
    case rel=>exact⟨9,nr,u9,S9.out,HE.out.1,HE.out.2⟩
  case rest=>
  obtain⟨c2,n2,u2,hs,hv2,hd2⟩:=hcut
  have S9:=Lh hs
  have HV2:=Lh (Aj hv2 hd2)
  clear hs hv2 hd2 S8
  by_cases hneg:n0<0
  ·have t1:(r==-1)=true:=by rw[←HRr.out,sgnI_neg hneg];rfl
   have HE:=Lh (show dV (-n2) c2=V∧DB (-n2) c2 from ⟨by rw[dV_neg,HV2.out.1,show n1=-n0 by have:=HN1.out;omega,dV_neg,HB0.out.2];omega,by rw[Int.natAbs_neg];exact HV2.out.2.n,HV2.out.2.lo,HV2.out.2.hi⟩)
   clear hneg
   have SN:=Lh (dec_neg ba c2 n2 u2 _ S9.out.ia)
   go_wp2_with fail
   refine SN.out.mono ?_
   rintro e wf ⟨rfl,uf,rf⟩
   have SF:=Lh (S9.out.turn rf)
   clear rf SN
   have q0:=SF.out.q.cell (i:=0) rfl
   have q1:=SF.out.q.cell (i:=1) rfl
   have q2:=SF.out.q.cell (i:=2) rfl
   have q3:=SF.out.q.cell (i:=3) rfl
   have q4:=SF.out.q.cell (i:=4) rfl
   have qf:=SF.out.q.free
   have P5:=Lh (put5 SF.out.q (.int .i64 0) (.int .i32 0) (.pointer (some ⟨ba,0,none⟩)) (.string ⟨#[]⟩) (.string fb))
   go_wp2_with fail
   obtain⟨W5,hW5,hd5,md5⟩:=P5.out
   rw[hW5]
   clear q0 q1 q2 q3 q4 qf hW5 P5
   refine bodyPost_ret (results35 _ W5 _ _ _ _ _ _ hd5 rfl rfl) rfl ?_
   exact PqS.fin SF.out HE.out.1 HE.out.2 HFm.out md5
  ·have t1:(r==-1)=false:=by
    rw[beq_eq_false_iff_ne,←HRr.out]
    unfold sgnI
    rw[if_neg hneg]
    split<;>decide
   have HE:=Lh (show dV n2 c2=V from by rw[HV2.out.1,show n1=n0 by have:=HN1.out;omega];exact HB0.out.2)
   clear hneg
   have q0:=S9.out.q.cell (i:=0) rfl
   have q1:=S9.out.q.cell (i:=1) rfl
   have q2:=S9.out.q.cell (i:=2) rfl
   have q3:=S9.out.q.cell (i:=3) rfl
   have q4:=S9.out.q.cell (i:=4) rfl
   have qf:=S9.out.q.free
   have P5:=Lh (put5 S9.out.q (.int .i64 0) (.int .i32 0) (.pointer (some ⟨ba,0,none⟩)) (.string ⟨#[]⟩) (.string fb))
   go_wp2_with fail
   obtain⟨W5,hW5,hd5,md5⟩:=P5.out
   rw[hW5]
   clear q0 q1 q2 q3 q4 qf hW5 P5
   refine bodyPost_ret (results35 _ W5 _ _ _ _ _ _ hd5 rfl rfl) rfl ?_
   exact PqS.fin S9.out HE.out HV2.out.2 HFm.out md5
end Go.Proofs.YtcpjclakdpjjfaaGreatDoor
