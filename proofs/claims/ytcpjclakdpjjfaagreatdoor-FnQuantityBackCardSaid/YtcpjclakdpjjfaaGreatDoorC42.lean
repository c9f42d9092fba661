/- A text taken as a quantity, by 1024 (resource/quantity. -/
import Derived.Test.YtcpjclakdpjjfaaGreatDoorC40
import Derived.Test.YtcpjclakdpjjfaaGreatDoorC09
import Derived.WalkMore
import Derived.Deep.CutRange
import Derived.Handy
set_option maxHeartbeats 16000000
set_option maxRecDepth 20000
namespace Go.Proofs.YtcpjclakdpjjfaaGreatDoor
open Go.RowKit Wd Dg
theorem fcv10 (w:World):(convert 21 112 (.int .i32 10)).run Tryz.prog w=.ok (.float .f32 1092616192) w:=by kernel_rfl
theorem fml10 (w:World):(binOp .mul 112 (.float .f32 1092616192) (.float .f32 1077936128)).run Tryz.prog w=.ok (.float .f32 1106247680) w:=by kernel_rfl
theorem fqu10 (w:World):(binOp .quo 112 (.float .f32 1106247680) (.float .f32 1092616192)).run Tryz.prog w=.ok (.float .f32 1077936128) w:=by kernel_rfl
theorem fci10 (w:World):(convert 112 21 (.float .f32 1077936128)).run Tryz.prog w=.ok (.int .i32 3) w:=by kernel_rfl
theorem fsh10 (w:World):(binOp .shl 2 (.int .i64 1) (.int .u64 10)).run Tryz.prog w=.ok (.int .i64 1024) w:=by kernel_rfl
theorem fcv20 (w:World):(convert 21 112 (.int .i32 20)).run Tryz.prog w=.ok (.float .f32 1101004800) w:=by kernel_rfl
theorem fml20 (w:World):(binOp .mul 112 (.float .f32 1101004800) (.float .f32 1077936128)).run Tryz.prog w=.ok (.float .f32 1114636288) w:=by kernel_rfl
theorem fqu20 (w:World):(binOp .quo 112 (.float .f32 1114636288) (.float .f32 1092616192)).run Tryz.prog w=.ok (.float .f32 1086324736) w:=by kernel_rfl
theorem fci20 (w:World):(convert 112 21 (.float .f32 1086324736)).run Tryz.prog w=.ok (.int .i32 6) w:=by kernel_rfl
theorem fsh20 (w:World):(binOp .shl 2 (.int .i64 1) (.int .u64 20)).run Tryz.prog w=.ok (.int .i64 1048576) w:=by kernel_rfl
theorem fcv30 (w:World):(convert 21 112 (.int .i32 30)).run Tryz.prog w=.ok (.float .f32 1106247680) w:=by kernel_rfl
theorem fml30 (w:World):(binOp .mul 112 (.float .f32 1106247680) (.float .f32 1077936128)).run Tryz.prog w=.ok (.float .f32 1119092736) w:=by kernel_rfl
theorem fqu30 (w:World):(binOp .quo 112 (.float .f32 1119092736) (.float .f32 1092616192)).run Tryz.prog w=.ok (.float .f32 1091567616) w:=by kernel_rfl
theorem fci30 (w:World):(convert 112 21 (.float .f32 1091567616)).run Tryz.prog w=.ok (.int .i32 9) w:=by kernel_rfl
theorem fsh30 (w:World):(binOp .shl 2 (.int .i64 1) (.int .u64 30)).run Tryz.prog w=.ok (.int .i64 1073741824) w:=by kernel_rfl
theorem fcv40 (w:World):(convert 21 112 (.int .i32 40)).run Tryz.prog w=.ok (.float .f32 1109393408) w:=by kernel_rfl
theorem fml40 (w:World):(binOp .mul 112 (.float .f32 1109393408) (.float .f32 1077936128)).run Tryz.prog w=.ok (.float .f32 1123024896) w:=by kernel_rfl
theorem fqu40 (w:World):(binOp .quo 112 (.float .f32 1123024896) (.float .f32 1092616192)).run Tryz.prog w=.ok (.float .f32 1094713344) w:=by kernel_rfl
theorem fci40 (w:World):(convert 112 21 (.float .f32 1094713344)).run Tryz.prog w=.ok (.int .i32 12) w:=by kernel_rfl
theorem fsh40 (w:World):(binOp .shl 2 (.int .i64 1) (.int .u64 40)).run Tryz.prog w=.ok (.int .i64 1099511627776) w:=by kernel_rfl
theorem fcv50 (w:World):(convert 21 112 (.int .i32 50)).run Tryz.prog w=.ok (.float .f32 1112014848) w:=by kernel_rfl
theorem fml50 (w:World):(binOp .mul 112 (.float .f32 1112014848) (.float .f32 1077936128)).run Tryz.prog w=.ok (.float .f32 1125515264) w:=by kernel_rfl
theorem fqu50 (w:World):(binOp .quo 112 (.float .f32 1125515264) (.float .f32 1092616192)).run Tryz.prog w=.ok (.float .f32 1097859072) w:=by kernel_rfl
theorem fci50 (w:World):(convert 112 21 (.float .f32 1097859072)).run Tryz.prog w=.ok (.int .i32 15) w:=by kernel_rfl
theorem fsh50 (w:World):(binOp .shl 2 (.int .i64 1) (.int .u64 50)).run Tryz.prog w=.ok (.int .i64 1125899906842624) w:=by kernel_rfl
theorem fcv60 (w:World):(convert 21 112 (.int .i32 60)).run Tryz.prog w=.ok (.float .f32 1114636288) w:=by kernel_rfl
theorem fml60 (w:World):(binOp .mul 112 (.float .f32 1114636288) (.float .f32 1077936128)).run Tryz.prog w=.ok (.float .f32 1127481344) w:=by kernel_rfl
theorem fqu60 (w:World):(binOp .quo 112 (.float .f32 1127481344) (.float .f32 1092616192)).run Tryz.prog w=.ok (.float .f32 1099956224) w:=by kernel_rfl
theorem fci60 (w:World):(convert 112 21 (.float .f32 1099956224)).run Tryz.prog w=.ok (.int .i32 18) w:=by kernel_rfl
theorem fsh60 (w:World):(binOp .shl 2 (.int .i64 1) (.int .u64 60)).run Tryz.prog w=.ok (.int .i64 1152921504606846976) w:=by kernel_rfl
theorem maxAllowed_calls (w:World) (hw:19≤w.heap.size):Calls Tryz.prog 79 #[] w fun e w'=>∃b v,e=.returned (.agg #[.pointer (some ⟨b,0,none⟩)])∧NewRes w (some 0) 9223372036854775807 b v w':=by
 have hd:=Hd.new w 67 #[.pointer none]
 have m0:Mod [] w (w.alloc (.cells #[.pointer none] 67)):=(Mod.refl [] w).alloc _
 have hs0:(w.alloc (.cells #[.pointer none] 67)).heap.size=w.heap.size+1:=by simp
 have N:=Lh (newDec_calls 9223372036854775807 0 (w.alloc (.cells #[.pointer none] 67)) (by simp;omega) (by decide) (by decide))
 have HH:=Lh (Aj hd (Aj m0 hs0))
 clear hd m0 hs0
 go_enter Tryz.func79,Tryz.ntmps79
 go_wp2_with fail
 refine N.out.mono ?_
 rintro e w1 ⟨b,v,rfl,hr⟩
 have hd1:=HH.out.1.mod hr.mod (by simp)
 have c0:=hd1.cell (i:=0) rfl
 have cf:=hd1.free
 have s1:=hd1.set 0 (.pointer (some ⟨b,0,none⟩))
 have ms:Mod [w.heap.size] w1 (w1.setCell ⟨w.heap.size,0,none⟩ (.pointer (some ⟨b,0,none⟩))):=(Mod.refl _ _).setCell _ (.inl (by simp))
 have HR:=Lh (Aj hr (Aj ms s1))
 clear hr hd1 s1 N ms
 go_wp2_with fail
 obtain⟨hr,ms,s1⟩:=HR.out
 clear c0 cf HR
 generalize w1.setCell ⟨w.heap.size,0,none⟩ (.pointer (some ⟨b,0,none⟩))=W2 at*
 have c0:=s1.cell (i:=0) (v:=.pointer (some ⟨b,0,none⟩)) rfl
 have HR:=Lh (Aj hr ms)
 clear hr ms s1
 refine bodyPost_ret (by simp[results,Tryz.results79,go_sem,c0];try rfl) rfl ?_
 obtain⟨hr,ms⟩:=HR.out
 have h1:=hr.own.1
 have h2:=hr.own.2
 rw[HH.out.2.2] at h1 h2
 refine⟨b,v,rfl,hr.ia.mod ms (by simp;omega) (fun k hk hm=>?_),(HH.out.2.1.trans hr.mod).step ms (fun k hk=>.inr (by rw[List.mem_singleton.1 hk];exact Nat.le_refl _)),by omega,fun k hk=>by have:=h2 k hk;omega⟩
 have:=h2 k hk
 have:=List.mem_singleton.1 hm
 omega
theorem PqS.near {w w5 wx w':World} {bq ba b1:Nat} {c n n':Int} {u v1 v':Value} {s':Option Int} (h5:PqS w bq ba c n u w5) (m:Mod [] w5 wx) (r:IntRes wx b1 v1 s' n' v' w') (hn:∀k,k∈b1::sb v1→w5.heap.size≤k):PqS w bq ba c n u w':=by
 have h:=h5.still m
 have l1:=h5.q.lt
 have l2:=h5.ia.lt
 refine⟨h.mod.step r.mod (fun x hx=>.inr (Nat.le_trans h5.mod.size (hn x hx))),h.env.mod r.mod (fun k hk=>Nat.le_trans h5.env.env.big (hn k hk)),h.q.mod r.mod (fun hm=>?_),h.qlo,h.ia.mod r.mod (fun hm=>?_) (fun k hk hm=>?_),h.off,h.own⟩
 ·have:=hn _ hm;omega
 ·have:=hn _ hm;omega
 ·have:=hn _ hm
  have:=h5.ia.nv.zs.lt k hk
  omega
theorem field67 (b:Nat) (w:World):(Instr.field 67 (.agg #[.pointer (some ⟨b,0,none⟩)]) 0).run Tryz.prog w=.ok (.pointer (some ⟨b,0,none⟩)) w:=by kernel_rfl
theorem fmt_bin {fb:ByteArray} (h:Fmt fb 1):(fb.toList==[68,101,99,105,109,97,108,69,120,112,111,110,101,110,116])=false∧(fb.toList==[68,101,99,105,109,97,108,83,73])=false∧(fb.toList==[66,105,110,97,114,121,83,73])=true:=by
 rw[Lib.toList_data]
 rcases h with ⟨-,h⟩|⟨rfl,-⟩|⟨-,h⟩
 ·cases h
 ·exact⟨rfl,rfl,rfl⟩
 ·cases h
theorem sfx_bin {S:List UInt8} {x:Int} (h:Sfx S 1 x):x=10∨x=20∨x=30∨x=40∨x=50∨x=60:=by
 rcases h with ⟨h,-⟩|⟨-,k,h1,h2,-,rfl⟩|⟨h,-⟩
 ·cases h
 ·omega
 ·cases h
theorem parse_bin (s:ByteArray) (V:Int) (g A D S:List UInt8) (dot:Bool) (x:Int) (w:World) (he:Env2 w) (h:Prt s g A D S dot 1 x) (hV:V=qV (decide (g=[45])) A D 1 x) (hc:CanOk 1 V) (h48:s.data.toList≠[48]):
 Calls Tryz.prog 35 #[.string s] w (PqRet 1 V w):=by
 have t32:((s.size:Int)==0)=false:=by
  rw[beq_eq_false_iff_ne]
  intro h0
  have h1:s.data.toList.length=0:=by have:s.size=s.data.toList.length:=rfl;omega
  have h2:=h.tx
  rw[List.eq_nil_of_length_eq_zero h1] at h2
  have h3:=congrArg List.length h2
  have h4:=List.length_pos_iff.2 h.ne
  simp only[List.length_append,List.length_nil] at h3 h4
  cases hd:dot with
  |false=>rw[h.nd hd] at h4;simp at h4;omega
  |true=>rw[hd] at h3;simp at h3;omega
 have t36:(s.toList==[48])=false:=by rw[Lib.toList_data];exact beq_eq_false_iff_ne.2 h48
 have HPc:=Lh (fun(w1:World)=>pieces_calls s g A D S dot 1 x h w1)
 have HH:=Lh (Aj h (Aj hV (Aj hc he)))
 have hd:=Hd.new w 70 #[.int .i64 0,.int .i32 0,.pointer none,.string ⟨#[]⟩,.string ⟨#[]⟩]
 have m0:Mod [] w (w.alloc (.cells #[.int .i64 0,.int .i32 0,.pointer none,.string ⟨#[]⟩,.string ⟨#[]⟩] 70)):=(Mod.refl [] w).alloc _
 have HQ:=Lh (Aj hd m0)
 clear h hV hc he h48 hd m0
 generalize decide (g=[45])=neg at*
 go_enter Tryz.func35,Tryz.ntmps35
 go_wp2_with fail
 generalize w.alloc (.cells #[.int .i64 0,.int .i32 0,.pointer none,.string ⟨#[]⟩,.string ⟨#[]⟩] 70)=W0 at*
 have C:=Lh (HPc.out W0)
 clear HPc
 refine C.out.mono ?_
 rintro e w1 ⟨⟨value,num,denom,sfx,rfl,hr⟩,m1⟩
 have HR:=Lh hr
 have M1:=Lh m1
 clear hr m1 C
 go_wp2_with fail
 refine(newSuffixer_calls w1).mono ?_
 rintro e w2 ⟨bs,rfl,hb⟩
 have HB:=Lh hb
 have I:=Lh (intp_calls hb sfx S 1 x HR.out.sfx HH.out.1.s)
 have M2:=Lh (M1.out.trans hb.1)
 have mi:=meth_interp bs w2
 clear hb M1
 go_wp2_with fail
 refine I.out.mono ?_
 rintro e w3 ⟨fb,hf,hee,m3⟩
 rw[if_pos rfl] at hee
 subst hee
 have HFm:=Lh hf
 obtain⟨tE,tD,tB⟩:=fmt_bin hf
 have M3:=Lh (M2.out.trans m3)
 clear m3 hf I M2 mi
 have nl:num.size≤111:=by have:=HR.out.len;have:=HH.out.1.len;omega
 have dl:denom.size≤110:=by have:denom.size=denom.data.toList.length:=rfl;rw[HR.out.den] at this;have:=HH.out.1.len;omega
 have de:denom.size=D.length:=by have:denom.size=denom.data.toList.length:=rfl;rw[HR.out.den] at this;exact this
 have hx6:=Lh (sfx_bin HH.out.1.s)
 have x0:0≤x:=by have:=hx6.out;omega
 have DE:=Lh de
 clear de
 go_upto_block 0 with fail
 go_cut [14,15,16] from 65 to 100 (fun t14 t15 t16 wx=>∃p m:Int,t14=.int .i32 p∧((denom.size=0∧m=((2^x.toNat:Nat):Int)∧p≤15-(num.size:Int)∧-150≤p)∨p=-1)∧t15=.int .i32 0∧t16=.int .i64 m∧w3=wx)
 case first=>
  rcases Nat.eq_zero_or_pos denom.size with hd0|hd0
  ·have t2:((denom.size:Int)==0)=true:=by rw[beq_iff_eq];omega
   have HD0:=Lh hd0
   clear hd0
   rcases hx6.out with rfl|rfl|rfl|rfl|rfl|rfl
   ·have f1:=fcv10 w3
    have f2:=fml10 w3
    have f3:=fqu10 w3
    have f4:=fci10 w3
    have f5:=fsh10 w3
    go_wp2_with fail
    go_meet
    case rel=>exact⟨15-(num.size:Int)-3-1,1024,by go_num,.inl ⟨HD0.out,by decide,by omega,by omega⟩,rfl,rfl,rfl⟩
   ·have f1:=fcv20 w3
    have f2:=fml20 w3
    have f3:=fqu20 w3
    have f4:=fci20 w3
    have f5:=fsh20 w3
    go_wp2_with fail
    go_meet
    case rel=>exact⟨15-(num.size:Int)-6-1,1048576,by go_num,.inl ⟨HD0.out,by decide,by omega,by omega⟩,rfl,rfl,rfl⟩
   ·have f1:=fcv30 w3
    have f2:=fml30 w3
    have f3:=fqu30 w3
    have f4:=fci30 w3
    have f5:=fsh30 w3
    go_wp2_with fail
    go_meet
    case rel=>exact⟨15-(num.size:Int)-9-1,1073741824,by go_num,.inl ⟨HD0.out,by decide,by omega,by omega⟩,rfl,rfl,rfl⟩
   ·have f1:=fcv40 w3
    have f2:=fml40 w3
    have f3:=fqu40 w3
    have f4:=fci40 w3
    have f5:=fsh40 w3
    go_wp2_with fail
    go_meet
    case rel=>exact⟨15-(num.size:Int)-12-1,1099511627776,by go_num,.inl ⟨HD0.out,by decide,by omega,by omega⟩,rfl,rfl,rfl⟩
   ·have f1:=fcv50 w3
    have f2:=fml50 w3
    have f3:=fqu50 w3
    have f4:=fci50 w3
    have f5:=fsh50 w3
    go_wp2_with fail
    go_meet
    case rel=>exact⟨15-(num.size:Int)-15-1,1125899906842624,by go_num,.inl ⟨HD0.out,by decide,by omega,by omega⟩,rfl,rfl,rfl⟩
   ·have f1:=fcv60 w3
    have f2:=fml60 w3
    have f3:=fqu60 w3
    have f4:=fci60 w3
    have f5:=fsh60 w3
    go_wp2_with fail
    go_meet
    case rel=>exact⟨15-(num.size:Int)-18-1,1152921504606846976,by go_num,.inl ⟨HD0.out,by decide,by omega,by omega⟩,rfl,rfl,rfl⟩
  ·have t2:((denom.size:Int)==0)=false:=by rw[beq_eq_false_iff_ne];omega
   go_wp2_with fail
   go_meet
   case rel=>exact⟨-1,1,rfl,.inr rfl,rfl,rfl,rfl⟩
 case rest=>
 obtain⟨p,m,rfl,hp,rfl,rfl,rfl⟩:=hcut
 have HP:=Lh hp
 clear hp
 go_upto_if 102 with fail
 go_cut [15,17,18,19,20,21] from 101 to 173 (fun _ _ _ _ _ _ wx=>Mod [] w3 wx)
 case first=>
  by_cases hp0:0≤p
  case neg=>
   have t1:decide (0≤p)=false:=decide_eq_false hp0
   go_wp2_with fail
   go_meet
   case rel=>exact Mod.refl _ _
  have t1:decide (0≤p)=true:=decide_eq_true hp0
  have hD0:denom.size=0:=by rcases HP.out with h|h<;>omega
  have hm:m=((2^x.toNat:Nat):Int):=HP.out.elim (fun h=>h.2.1) (fun h=>by omega)
  have hsm:num.size+denom.size≤18:=by rcases HP.out with h|h<;>omega
  have hDn:D=[]:=List.eq_nil_of_length_eq_zero (by rw[←DE.out];exact hD0)
  have HD0:=Lh hD0
  have HM:=Lh (Aj hm hDn)
  have hmi:i64 m:=by
   rw[hm]
   rcases hx6.out with rfl|rfl|rfl|rfl|rfl|rfl<;>(unfold i64;decide)
  clear hD0 hm hDn
  have hlim:¬9223372036854775807<num.size+denom.size:=by omega
  have hF:(num++denom).data.toList=num.data.toList++D:=by rw[ByteArray.data_append,Array.toList_append,HR.out.den]
  have hFs:(num++denom).size=num.size+denom.size:=ByteArray.size_append
  have hBD:BD (num.data.toList++D):=fun c hc=>(List.mem_append.1 hc).elim (HR.out.nm c) (HH.out.1.d c)
  have hbv:bv (A++D)<1000000000000000000:=by
   rw[←HR.out.eq]
   refine bv_small hBD ?_
   have:(num++denom).size=(num++denom).data.toList.length:=rfl
   rw[hF] at this
   omega
  obtain⟨N,hN⟩:∃N,N=bv (A++D):=⟨_,rfl⟩
  have hpi:Go.Lib.parseIntB 64 (num++denom).data.toList=.ok (N:Int):=by
   have e63:(2:Nat)^63=9223372036854775808:=by decide
   have:=parse_sg (g:=[]) (P:=num.data.toList++D) (.inl rfl) hBD (by simp[HR.out.ne]) (by rw[HR.out.eq];omega)
   rw[List.nil_append,if_neg (by decide),HR.out.eq,←hN] at this
   rw[hF];exact this
  obtain⟨F,hFF⟩:∃F,num++denom=F:=⟨_,rfl⟩
  rw[hFF] at hpi hFs
  have F0:0<F.size:=by
   have:=List.length_pos_iff.2 HR.out.ne
   have e:num.size=num.data.toList.length:=rfl
   omega
  have P:=Lh (fun w'=>Tryz.strconv_ParseInt_10_at64_ok F (by omega) N hpi w')
  rw[←hN] at hbv
  have MU:=Lh (fun w'=>int64Multiply_calls N m w' (by unfold i64;omega) hmi)
  have HN:=Lh (Aj hN (Aj hbv hsm))
  clear hpi hFs hF hBD hbv hN hsm
  have hd0:=HD0.out
  go_upto_region 29 with fail
  clear hFF hd0
  go_wp2_with fail
  refine(P.out _).mono ?_
  rintro e w4 ⟨rfl,hw⟩
  have M4:=Lh (show Mod [] w3 w4 by
   rcases hw with rfl|⟨t,rfl⟩
   ·exact Mod.refl _ _
   ·exact Mod.of_below (Lib.bytesWorld_below w3 5 t) (Nat.le_refl _))
  clear hw P
  go_wp2_with fail
  refine(MU.out _).mono ?_
  rintro e w5 ⟨c,ok,rfl,⟨dn,rfl⟩,hok,hci⟩
  have M5:=Lh (M4.out.drewN dn)
  have HCI:=Lh hci
  clear hci MU
  cases ok
  ·clear hok
   go_wp2_with fail
   go_meet
   case rel=>exact M5.out
  have hcN:c=((N*2^x.toNat:Nat):Int):=by rw[hok rfl,HM.out.1,Int.natCast_mul]
  have c0:0≤c:=by rw[hcN];exact Int.natCast_nonneg _
  have c63:c≤9223372036854775807:=HCI.out.2
  have HCN:=Lh hcN
  clear hok hcN
  have hQ5:Hd (w4.drewN dn) w.heap.size 70 (qc 0 0 (.pointer none) (.string ⟨#[]⟩) (.string ⟨#[]⟩)):=(HQ.out.1.mod M3.out (by simp)).mod M5.out (by simp)
  have m5:Mod [] w (w4.drewN dn):=(HQ.out.2.trans M3.out).trans M5.out
  generalize w4.drewN dn=wE at*
  have FIN:=Lh (fun W5 st (md:Mod [w.heap.size] wE W5)=>(show PqRet 1 V w (.returned (.tuple #[qv (sg neg*c) 0 (.pointer none) (.string st) (.string fb),.nilIface])) W5 from
   PqRet.short m5 (Nat.le_refl _) HFm.out (by rw[HH.out.2.1,HM.out.2];exact QOk.short2 (by rw[HCN.out,HN.out.1,HM.out.2,List.append_nil]) (by cases neg<;>simp[sg]<;>unfold i64<;>omega)) (by cases neg<;>simp[sg]<;>omega) md))
  have P5:=Lh (fun st=>put5 hQ5 (.int .i64 (sg neg*c)) (.int .i32 0) (.pointer none) (.string st) (.string fb))
  have q0:=hQ5.cell (i:=0) rfl
  have q1:=hQ5.cell (i:=1) rfl
  have q2:=hQ5.cell (i:=2) rfl
  have q3:=hQ5.cell (i:=3) rfl
  have q4:=hQ5.cell (i:=4) rfl
  have qf:=hQ5.free
  clear hQ5 m5 M5 M4
  have tx:(x.tmod 10==0)=true:=by rcases hx6.out with rfl|rfl|rfl|rfl|rfl|rfl<;>rfl
  go_upto_if 130 with fail
  go_cut [20] from 129 to 132 (fun t20 wx=>t20=.int .i64 (sg neg*c)∧wE=wx)
  case first=>
   cases neg
   ·go_wp2_with fail
    go_meet
    case rel=>exact⟨by simp[sg],rfl⟩
   ·go_wp2_with fail
    go_meet
    case rel=>exact⟨by simp[sg];try (unfold wrap64;omega),rfl⟩
  case rest=>
  obtain⟨rfl,rfl⟩:=hcut
  clear c0 c63
  generalize sg neg*c=K at*
  go_wp2_with fail
  all_goals
   first
   |(obtain⟨W5,hW5,hd5,md5⟩:=P5.out s
     rw[hW5]
     refine bodyPost_ret (results35 _ W5 _ _ _ _ _ _ hd5 rfl rfl) rfl ?_
     exact FIN.out W5 _ md5)
   |(obtain⟨W5,hW5,hd5,md5⟩:=P5.out ⟨#[]⟩
     rw[hW5]
     refine bodyPost_ret (results35 _ W5 _ _ _ _ _ _ hd5 rfl rfl) rfl ?_
     exact FIN.out W5 _ md5)
 case rest=>
  have MX:=Lh hcut
  clear hcut
  have mz:Mod [] w wc:=(HQ.out.2.trans M3.out).trans MX.out
  have hez:Env2 wc:=HH.out.2.2.2.mod mz (by simp)
  have nd:=new_dec wc hez.env.big
  have st:PqS w w.heap.size wc.heap.size 0 0 (.slice none 0 0) (wc.alloc (.cells #[.bool false,.slice none 0 0,.int .i32 0] 123)):=
   ⟨mz.alloc _,hez.mod nd.mod (by simp),((HQ.out.1.mod M3.out (by simp)).mod MX.out (by simp)).mod nd.mod (by simp),Nat.le_refl _,nd.ia,by
    have h1:=(((HQ.out.1.mod M3.out (by simp)).mod MX.out (by simp))).lt
    simp[sb];omega,by intro k hk;simp[sb] at hk;rw[hk];exact mz.size⟩
  have ST:=Lh st
  have lt0:=HQ.out.1.lt
  clear mz hez nd st M3 MX HQ
  go_upto_region 45 with fail
  generalize wc.alloc (.cells #[.bool false,.slice none 0 0,.int .i32 0] 123)=W4 at*
  generalize wc.heap.size=ba at*
  obtain⟨g',A',dot',htx,hval⟩:=HR.out.val
  obtain⟨be,heof⟩:=ST.out.env.eof
  have SS:=Lh (dec_setString ba be value g' A' D dot' _ rfl denom.size DE.out W4 ST.out.env.env.big ST.out.ia heof htx)
  rw[hval] at SS
  obtain⟨nn,hn0⟩:∃nn:Int,nn=sg neg*(bv (A++D):Int):=⟨_,rfl⟩
  rw[←hn0] at SS
  have HM0:=Lh hn0
  clear htx hval heof hn0
  go_wp2_with fail
  refine SS.out.mono ?_
  rintro e w5 ⟨rfl,u5,r5⟩
  have S5:=Lh (ST.out.turn r5)
  clear r5 SS ST
  have lt5:=S5.out.env.env.big
  have I1:=Lh (newInt_calls 1 w5 lt5 (by decide) (by decide))
  have HB7:nn.natAbs<B^6:=by
   rw[HM0.out,sg_natAbs]
   exact bv_big (fun c hc=>(List.mem_append.1 hc).elim (HH.out.1.a c) (HH.out.1.d c)) (by rw[List.length_append];exact HH.out.1.len)
  have HBB:=Lh HB7
  obtain⟨xn,hxn⟩:∃xn:Nat,x=xn:=⟨x.toNat,by omega⟩
  have hx60:0<xn∧xn≤60:=by have:=hx6.out;omega
  have HXN:=Lh (Aj hxn hx60)
  have tcx:IntKind.u64.wrap x=(xn:Int):=by rw[IntKind.wrap_u64];omega
  have TCX:=Lh tcx
  clear HB7 hxn hx60 tcx
  go_upto_region 51 with fail
  have tcx:=TCX.out
  go_wp2_with fail
  refine I1.out.mono ?_
  rintro e w6 ⟨b1,v1,rfl,r1⟩
  have I2:=Lh (newInt_calls 1 w6 (by have:=r1.mod.size;omega) (by decide) (by decide))
  have R1:=Lh r1
  clear r1 I1
  go_wp2_with fail
  refine I2.out.mono ?_
  rintro e w7 ⟨b2,v2,rfl,r2⟩
  obtain⟨hne12,hd12,ia1⟩:=r2.apart R1.out.ia
  have LS:=Lh (int_lsh b1 b2 none none 1 1 v1 v2 xn w7 ia1 r2.ia (by decide) hne12 (fun j hj hj2=>hd12 j hj2 hj) (by rw[Big_eq];exact Nat.one_lt_pow (by decide) B_one) HXN.out.2.1 (by have:=HXN.out.2.2;omega))
  rw[Int.one_mul] at LS
  have R2:=Lh r2
  clear r2 hne12 hd12 ia1 I2
  go_wp2_with fail
  refine LS.out.mono ?_
  rintro e w8 ⟨rfl,v3,r3⟩
  have S8:=Lh (S5.out.near (R1.out.mod.trans R2.out.mod) r3 (fun k hk=>by
   rcases List.mem_cons.1 hk with rfl|hk
   ·exact R1.out.own.1
   ·exact R1.out.own.2 k hk))
  have hnb:ba≠b1:=by have:=S5.out.ia.lt;have:=R1.out.own.1;omega
  have MU:=Lh (int_mul ba ba b1 _ _ _ nn nn ((2^xn:Nat):Int) u5 u5 v3 w8 S8.out.ia S8.out.ia r3.ia S8.out.env.env hnb (Nat.lt_trans HBB.out (by rw[Big_eq];exact Nat.pow_lt_pow_right B_one (by omega))) (by rw[Int.natAbs_natCast];exact Nat.lt_trans (two_B HXN.out.2.2) (Nat.lt_of_le_of_lt (Nat.le_of_eq (Nat.pow_one B).symm) (Nat.pow_lt_pow_right B_one (by omega)))))
  obtain⟨n0,hn0⟩:∃n0:Int,n0=nn*((2^xn:Nat):Int):=⟨_,rfl⟩
  rw[←hn0] at MU
  have HN0:=Lh hn0
  clear r3 hnb hn0 LS S5
  go_wp2_with fail
  refine(dec_unscaledBig ba w8).mono ?_
  rintro e w9 ⟨rfl,rfl⟩
  go_wp2_with fail
  refine MU.out.mono ?_
  rintro e w9 ⟨rfl,u9,r9⟩
  have S9:=Lh (S8.out.turn r9)
  clear r9 MU S8
  have SU:=Lh (dec_setUnscaledBig ba ba (some (denom.size:Int)) n0 u9 w9 ((int_set_same ba _ n0 u9 w9 S9.out.ia).mono fun _ _ ⟨h1,h2⟩=>⟨h1,u9,h2▸IntRes.refl S9.out.ia 0⟩))
  go_wp2_with fail
  refine SU.out.mono ?_
  rintro e w6 ⟨rfl,u6,r6⟩
  obtain⟨c0,hc0⟩:∃c0:Int,(denom.size:Int)=c0:=⟨_,rfl⟩
  have hS6:=S9.out.turn r6
  have hBB:n0.natAbs<B^7∧dV n0 c0=V:=by
   constructor
   ·rw[HN0.out,Int.natAbs_mul,Int.natAbs_natCast,Nat.pow_succ]
    exact Nat.mul_lt_mul'' HBB.out (two_B HXN.out.2.2)
   ·rw[HH.out.2.1]
    refine dV_two ?_ (by rw[←hc0,DE.out])
    rw[HN0.out,HM0.out,HXN.out.1,Int.toNat_natCast]
  have HB0:=Lh hBB
  have HCB:=Lh (show -60≤c0∧c0≤170 by omega)
  rw[hc0] at hS6
  have S6:=Lh hS6
  have SG:=Lh (dec_sign ba _ n0 u6 w6 hS6.ia)
  obtain⟨r,hr⟩:∃r:Int,sgnI n0=r:=⟨_,rfl⟩
  rw[hr] at SG
  have HRr:=Lh hr
  clear hr hS6 hBB r6 SU S9 hc0
  go_wp2_with fail
  refine SG.out.mono ?_
  rintro e w7 ⟨rfl,rfl⟩
  go_upto_if 212 with fail
  go_cut [] from 211 to 215 (fun wx=>∃n1 u1,PqS w w.heap.size ba c0 n1 u1 wx∧n1=(n0.natAbs:Int))
  case first=>
   by_cases hneg:n0<0
   ·have t1:(r==-1)=true:=by rw[←HRr.out,sgnI_neg hneg];rfl
    have SN:=Lh (dec_neg ba c0 n0 u6 w6 S6.out.ia)
    have HG:=Lh hneg
    clear hneg
    go_wp2_with fail
    refine SN.out.mono ?_
    rintro e w8 ⟨rfl,u8,r8⟩
    have S8:=Lh (S6.out.turn r8)
    clear r8 SN
    go_wp2_with fail
    go_meet
    case rel=>exact⟨_,_,S8.out,by have:=HG.out;omega⟩
   ·have t1:(r==-1)=false:=by
     rw[beq_eq_false_iff_ne,←HRr.out]
     unfold sgnI
     rw[if_neg hneg]
     split<;>decide
    have HG:=Lh hneg
    clear hneg
    go_wp2_with fail
    go_meet
    case rel=>exact⟨n0,u6,S6.out,by have:=HG.out;omega⟩
  case rest=>
  obtain⟨n1,u1,hs,hn1⟩:=hcut
  have S7:=Lh hs
  have HC1:=Lh (show CanOk 1 (dV n1 c0)∧0≤n1∧n1.natAbs<B^7∧-60≤c0∧c0≤170 from ⟨by
   rcases Int.lt_or_le n0 0 with hneg|hneg
   ·rw[show n1=-n0 by omega,dV_neg,HB0.out.2];exact CanOk.neg HH.out.2.2.1
   ·rw[show n1=n0 by omega,HB0.out.2];exact HH.out.2.2.1,by omega,by rw[hn1];exact HB0.out.1,by have:=HCB.out;omega,by have:=HCB.out;omega⟩)
  have HN1:=Lh hn1
  clear hs hn1 S6
  have hBig:n1.natAbs<Big:=Nat.lt_trans HC1.out.2.2.1 (by rw[Big_eq];exact Nat.pow_lt_pow_right B_one (by omega))
  have SU:=Lh (dec_unscaled ba c0 n1 u1 _ S7.out.env.env S7.out.ia hBig)
  clear hBig
  obtain⟨v,hv⟩:∃v,wrap64 n1=v:=⟨_,rfl⟩
  obtain⟨o,ho⟩:∃o,(cmpZI v n1==0)=o:=⟨_,rfl⟩
  unfold UnsRet at SU
  rw[hv,ho] at SU
  have HVO:=Lh (Aj hv ho)
  clear hv ho
  go_wp2_with fail
  refine SU.out.mono ?_
  rintro e w8 ⟨rfl,m8⟩
  have S8:=Lh (S7.out.still m8)
  clear m8 SU S7
  have HQq:=Lh (show ∃q:Bool,(q=true↔n1≠0)∧(((v !=0)=true∧q=true)∨((v !=0)=false∧o=!q)) from by
   by_cases hz:n1=0
   ·exact⟨false,by simp[hz],.inr ⟨by rw[←HVO.out.1,hz,wrap64_zero];rfl,by rw[←HVO.out.2,←HVO.out.1,hz,wrap64_zero];rfl⟩⟩
   ·refine⟨true,by simp[hz],?_⟩
    by_cases hv0:v=0
    ·exact .inr ⟨by rw[hv0];rfl,by rw[←HVO.out.2,hv0,cmpZI_beq];exact decide_eq_false fun e=>hz e.symm⟩
    ·exact .inl ⟨by simp[hv0],rfl⟩)
  obtain⟨q,hq1,hq2⟩:=HQq.out
  have HQ1:=Lh hq1
  have HQ2:=Lh hq2
  clear hq1 hq2 HQq
  go_upto_region 58 with fail
  go_cut [226] from 221 to 226 (fun t226 wx=>t226=.bool q∧w8=wx)
  case first=>
   rcases HQ2.out with ⟨t1,t2⟩|⟨t1,t2⟩
   ·subst t2
    go_wp2_with fail
    go_meet
    case rel=>exact⟨rfl,rfl⟩
   ·subst t2
    go_wp2_with fail
    go_meet
    case rel=>exact⟨by simp,rfl⟩
  case rest=>
  obtain⟨rfl,rfl⟩:=hcut
  go_upto_if 226 with fail
  go_cut [] from 221 to 231 (fun wx=>∃c2 n2 u2,PqS w w.heap.size ba c2 n2 u2 wx∧dV n2 c2=dV n1 c0∧DB n2 c2)
  case first=>
   cases q
   ·have HZ:=Lh (show n1=0 from Decidable.byContradiction fun hz=>absurd (HQ1.out.2 hz) (by simp))
    go_wp2_with fail
    go_meet
    case rel=>exact⟨c0,n1,u1,S8.out,rfl,⟨by rw[HZ.out];exact Nat.pow_pos B_pos,by have:=HC1.out;omega,by have:=HC1.out;omega⟩⟩
   ·have db0:DB n1 c0:=⟨Nat.lt_trans HC1.out.2.2.1 (Nat.pow_lt_pow_right B_one (by omega)),by have:=HC1.out;omega,by have:=HC1.out;omega⟩
    have RD:=Lh (dec_round ba ba c0 c0 9 n1 n1 u1 u1 w8 S8.out.env.env S8.out.ia S8.out.ia (by have:=HC1.out;omega) (by have:=HC1.out;omega) (by omega) (by omega) (by have:=HC1.out;omega) (by have:=HC1.out;omega) db0.big (fun k hk=>db0.pow (by have:=HC1.out;omega)) (db0.rnd (by omega)))
    have hv9:dV (rnd n1 c0 9) 9=dV n1 c0:=by
     obtain⟨m,hm⟩:=(can_vb HC1.out.1).fine
     have:=rnd_rup (n:=n1) (c0:=c0) (c:=-9) (by have:=HC1.out;omega) (by have:=HC1.out;omega) (by decide) (by decide)
     rw[show -(-9:Int)=9 from rfl] at this
     rw[this,rup_exact hm]
    have dbr:DB (rnd n1 c0 9) 9:=VB.db (by rw[hv9];exact can_vb HC1.out.1) (by decide) (by decide)
    have HE:=Lh (Aj hv9 dbr)
    have I9:=Lh (fun w'=>infScale_calls (-9) w' (by decide) (by decide))
    rw[show -(-9:Int)=9 from rfl] at I9
    generalize rnd n1 c0 9=nr at*
    clear db0 hv9 dbr
    go_wp2_with fail
    refine(I9.out _).mono ?_
    rintro e w9 ⟨rfl,rfl⟩
    go_wp2_with fail
    refine(roundUp_calls _).mono ?_
    rintro e w9 ⟨rfl,rfl⟩
    go_wp2_with fail
    refine RD.out.mono ?_
    rintro e w9 ⟨rfl,u9,r9⟩
    have S9:=Lh (S8.out.turn r9)
    clear r9 RD
    go_wp2_with fail
    go_meet
    case rel=>exact⟨9,nr,u9,S9.out,HE.out.1,HE.out.2⟩
  case rest=>
  obtain⟨c2,n2,u2,hs,hv2,hd2⟩:=hcut
  have S9:=Lh hs
  have HV2:=Lh (Aj hv2 hd2)
  clear hs hv2 hd2 S8
  have MA:=Lh (maxAllowed_calls _ S9.out.env.env.big)
  go_wp2_with fail
  refine MA.out.mono ?_
  rintro e wa ⟨bm,vm,rfl,ra⟩
  have SA:=Lh (S9.out.still ra.mod)
  have apa:=ra.apart S9.out.ia
  have db2:=HV2.out.2
  have b63:DB 9223372036854775807 0:=⟨by rw[B_eq];decide+kernel,by decide,by decide⟩
  have db1:DB 1 0:=⟨by rw[B_eq];decide+kernel,by decide,by decide⟩
  have db0:DB 0 0:=⟨by rw[B_eq];decide+kernel,by decide,by decide⟩
  have DBS:=Lh (Aj db2 (Aj b63 (Aj db1 db0)))
  have CM:=Lh (dec_cmp ba bm c2 0 n2 9223372036854775807 u2 vm wa SA.out.env.env SA.out.ia ra.ia apa.1 (by have:=db2.lo;omega) (by have:=db2.hi;omega) (by decide) (by decide) (by have:=db2.hi;omega) (by have:=db2.lo;omega) db2.big b63.big (fun k hk=>db2.pow (by have:=db2.lo;omega)) (fun k hk=>b63.pow (by have:=db2.hi;omega)))
  obtain⟨r3,hr3⟩:∃r3,cmpZI (dV n2 c2) (dV 9223372036854775807 0)=r3:=⟨_,rfl⟩
  rw[hr3] at CM
  have t3:¬0<r3:=by
   rw[←hr3,HV2.out.1]
   have:=can_cmpMax HC1.out.1
   omega
  have HR3:=Lh t3
  have f67:=field67 bm wa
  clear ra apa db2 b63 db1 db0 hr3 MA t3
  go_wp2_with fail
  refine CM.out.mono ?_
  rintro e wb ⟨rfl,mb⟩
  have SB:=Lh (SA.out.still mb)
  clear mb CM SA
  have t3:¬0<r3:=by have:=HR3.out;omega
  have t3':decide (0<r3)=false:=decide_eq_false t3
  go_upto_region 62 with fail
  clear t3 t3'
  go_cut [258] from 236 to 258 (fun t258 wx=>t258=.bool false∧Mod [] wb wx)
  case first=>
   have ND:=Lh (newDec_calls 1 0 wb SB.out.env.env.big (by decide) (by decide))
   go_wp2_with fail
   refine ND.out.mono ?_
   rintro e wd ⟨b3,v3,rfl,r3'⟩
   have SD:=Lh (SB.out.still r3'.mod)
   have apd:=r3'.apart SB.out.ia
   obtain⟨db2,b63,db1,db0⟩:=DBS.out
   have CM:=Lh (dec_cmp ba b3 c2 0 n2 1 u2 v3 wd SD.out.env.env SD.out.ia r3'.ia apd.1 (by have:=db2.lo;omega) (by have:=db2.hi;omega) (by decide) (by decide) (by have:=db2.hi;omega) (by have:=db2.lo;omega) db2.big db1.big (fun k hk=>db2.pow (by have:=db2.lo;omega)) (fun k hk=>db1.pow (by have:=db2.hi;omega)))
   obtain⟨r4,hr4⟩:∃r4,cmpZI (dV n2 c2) (dV 1 0)=r4:=⟨_,rfl⟩
   obtain⟨r5,hr5⟩:∃r5,cmpZI (dV n2 c2) (dV 0 0)=r5:=⟨_,rfl⟩
   rw[hr4] at CM
   have h45:(r4=-1∧r5=0)∨0≤r4:=by
    rw[←hr4,←hr5,HV2.out.1]
    have hnn:0≤dV n1 c0:=Int.mul_nonneg HC1.out.2.1 (Int.natCast_nonneg _)
    rcases can_cmpOne HC1.out.1 hnn with ⟨-,h1,h2⟩|h
    ·exact .inl ⟨h1,h2⟩
    ·exact .inr h
   have H45:=Lh h45
   have HR5:=Lh hr5
   have MD:=Lh r3'.mod
   clear r3' apd db2 b63 db1 db0 hr4 hr5 h45 ND SB
   go_wp2_with fail
   refine CM.out.mono ?_
   rintro e we ⟨rfl,me⟩
   have SE:=Lh (SD.out.still me)
   have ME:=Lh (MD.out.trans me)
   clear me CM SD MD
   rcases H45.out with ⟨rfl,rfl⟩|h4
   ·have NE:=Lh (newDec_calls 0 0 we SE.out.env.env.big (by decide) (by decide))
    go_wp2_with fail
    refine NE.out.mono ?_
    rintro e wf ⟨b4,v4,rfl,r4'⟩
    have SF:=Lh (SE.out.still r4'.mod)
    have apd:=r4'.apart SE.out.ia
    obtain⟨db2,b63,db1,db0⟩:=DBS.out
    have CM:=Lh (dec_cmp ba b4 c2 0 n2 0 u2 v4 wf SF.out.env.env SF.out.ia r4'.ia apd.1 (by have:=db2.lo;omega) (by have:=db2.hi;omega) (by decide) (by decide) (by have:=db2.hi;omega) (by have:=db2.lo;omega) db2.big db0.big (fun k hk=>db2.pow (by have:=db2.lo;omega)) (fun k hk=>db0.pow (by have:=db2.hi;omega)))
    rw[HR5.out] at CM
    have MF:=Lh (ME.out.trans r4'.mod)
    clear r4' apd db2 b63 db1 db0 NE SE
    go_wp2_with fail
    refine CM.out.mono ?_
    rintro e wg ⟨rfl,mg⟩
    have MG:=Lh (MF.out.trans mg)
    clear mg CM
    go_wp2_with fail
    go_meet
    case rel=>exact⟨rfl,MG.out⟩
   ·have t4:¬r4<0:=by omega
    have t4':decide (r4<0)=false:=decide_eq_false t4
    go_wp2_with fail
    go_meet
    case rel=>exact⟨rfl,ME.out⟩
  case rest=>
  obtain⟨rfl,mx⟩:=hcut
  have SX:=Lh (SB.out.still mx)
  clear mx SB S9
  by_cases hneg:n0<0
  ·have t1:(r==-1)=true:=by rw[←HRr.out,sgnI_neg hneg];rfl
   have HE:=Lh (show dV (-n2) c2=V∧DB (-n2) c2 from ⟨by rw[dV_neg,HV2.out.1,show n1=-n0 by have:=HN1.out;omega,dV_neg,HB0.out.2];omega,by rw[Int.natAbs_neg];exact HV2.out.2.n,HV2.out.2.lo,HV2.out.2.hi⟩)
   clear hneg
   have SN:=Lh (dec_neg ba c2 n2 u2 _ SX.out.ia)
   go_wp2_with fail
   refine SN.out.mono ?_
   rintro e wf ⟨rfl,uf,rf⟩
   have SF:=Lh (SX.out.turn rf)
   clear rf SN
   have q0:=SF.out.q.cell (i:=0) rfl
   have q1:=SF.out.q.cell (i:=1) rfl
   have q2:=SF.out.q.cell (i:=2) rfl
   have q3:=SF.out.q.cell (i:=3) rfl
   have q4:=SF.out.q.cell (i:=4) rfl
   have qf:=SF.out.q.free
   have P5:=Lh (put5 SF.out.q (.int .i64 0) (.int .i32 0) (.pointer (some ⟨ba,0,none⟩)) (.string ⟨#[]⟩) (.string fb))
   go_wp2_with fail
   obtain⟨W5,hW5,hd5,md5⟩:=P5.out
   rw[hW5]
   clear q0 q1 q2 q3 q4 qf hW5 P5
   refine bodyPost_ret (results35 _ W5 _ _ _ _ _ _ hd5 rfl rfl) rfl ?_
   exact PqS.fin SF.out HE.out.1 HE.out.2 HFm.out md5
  ·have t1:(r==-1)=false:=by
    rw[beq_eq_false_iff_ne,←HRr.out]
    unfold sgnI
    rw[if_neg hneg]
    split<;>decide
   have HE:=Lh (show dV n2 c2=V from by rw[HV2.out.1,show n1=n0 by have:=HN1.out;omega];exact HB0.out.2)
   clear hneg
   have q0:=SX.out.q.cell (i:=0) rfl
   have q1:=SX.out.q.cell (i:=1) rfl
   have q2:=SX.out.q.cell (i:=2) rfl
   have q3:=SX.out.q.cell (i:=3) rfl
   have q4:=SX.out.q.cell (i:=4) rfl
   have qf:=SX.out.q.free
   have P5:=Lh (put5 SX.out.q (.int .i64 0) (.int .i32 0) (.pointer (some ⟨ba,0,none⟩)) (.string ⟨#[]⟩) (.string fb))
   go_wp2_with fail
   obtain⟨W5,hW5,hd5,md5⟩:=P5.out
   rw[hW5]
   clear q0 q1 q2 q3 q4 qf hW5 P5
   refine bodyPost_ret (results35 _ W5 _ _ _ _ _ _ hd5 rfl rfl) rfl ?_
   exact PqS.fin SX.out HE.out HV2.out.2 HFm.out md5
end Go.Proofs.YtcpjclakdpjjfaaGreatDoor
