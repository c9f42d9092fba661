/- What a suffix is taken as (resource/suffix. -/
import Derived.Test.YtcpjclakdpjjfaaGreatDoorC29
import Derived.Test.YtcpjclakdpjjfaaGreatDoorC10
import Derived.Test.YtcpjclakdpjjfaaGreatDoorC35
import Derived.Test.YtcpjclakdpjjfaaGreatDoorC34
namespace Go.Proofs.YtcpjclakdpjjfaaGreatDoor
open Go.RowKit Wd Dg
theorem look_none {α β:Type} [DecidableEq α] {L:List (α×β)} {x:α} (h:∀p,p∈L→x≠p.1):look L x=none:=by
 induction L with
 |nil=>rfl
 |cons p r ih=>
  obtain⟨k,v⟩:=p
  rw[look,if_neg (h (k,v) (by simp))]
  exact ih fun q hq=>h q (by simp[hq])
structure Xp (s:ByteArray) (c:UInt8) (r:List UInt8) (v:Int):Prop where
 tx:s.data.toList=c::r
 c:c=69∨c=101
 ne:r≠[]
 b1:r≠[105]
 big:s.size≤10
 pv:Go.Lib.parseIntB 64 r=.ok v
 lo:-60≤v
 hi:v≤60
theorem Xp.dec {s:ByteArray} {c:UInt8} {r:List UInt8} {v:Int} (h:Xp s c r v):look decL1 s=none:=by
 refine look_none fun p hp he=>?_
 have h1:∀p,p∈decL1→p.1.data.toList.length≤1:=by decide
 have h2:=h1 p hp
 rw[←he,h.tx] at h2
 have h3:=List.length_pos_iff.2 h.ne
 simp at h2
 exact h.ne h2
theorem Xp.bin {s:ByteArray} {c:UInt8} {r:List UInt8} {v:Int} (h:Xp s c r v):look binL1 s=none:=by
 refine look_none fun p hp he=>?_
 have h1:∀p,p∈binL1→p.1.data.toList.length=2∧p.1.data.toList.getD 1 0=105:=by decide
 obtain⟨h2,h3⟩:=h1 p hp
 rw[←he,h.tx] at h2 h3
 apply h.b1
 match r,h2,h3 with
 | [x],_,h3=>simp at h3;rw[h3]
theorem sfx_xp {S:List UInt8} {fn:Nat} {x:Int} (h:Sfx S fn x) (hn:fn=0):∃c r,Xp ⟨S.toArray⟩ c r x:=by
 rcases h with ⟨h,-⟩|⟨h,-⟩|⟨-,c,g,P,rfl,hc,hg,hP,hP0,hPl,hx,h1,h2⟩
 ·omega
 ·omega
 ·have hlg:g.length≤1:=by rcases hg with rfl|rfl|rfl<;>decide
  refine⟨c,g++P,rfl,hc,by simp[hP0],?_,?_,?_,h1,h2⟩
  ·intro he
   have hm:(105:UInt8)∈g++P:=by rw[he];simp
   rcases List.mem_append.1 hm with hm|hm
   ·rcases hg with rfl|rfl|rfl<;>simp at hm
   ·have:=hP _ hm
    revert this;decide
  ·show (c::(g++P)).toArray.size≤10
   simp
   omega
  ·rw[hx]
   refine parse_sg hg hP hP0 ?_
   have hb:=bv_lt hP
   have:bv P<10^3:=Nat.lt_of_lt_of_le hb (Nat.pow_le_pow_right (by decide) hPl)
   have e:(2:Nat)^63=9223372036854775808:=by decide
   omega
def IntpRet (fn:Nat) (x:Int) (w:World) (e:Ending) (w':World):Prop:=∃fb,Fmt fb fn∧e=.returned (.tuple #[.int .i32 (if fn=1 then 2 else 10),.int .i32 x,.string fb,.bool true])∧Mod [] w w'
theorem LS.still {w w':World} {b o:Nat} {cs:Array Value} {R:List Nat} {L1:TL1} {L3:TL3} (h:LS w b o cs R L1 L3) (m:Mod [] w w'):LS w' b o cs R L1 L3:=h.mod m (by simp) (fun _ _=>rfl)
theorem PB.mod {w0 w w1:World} {b:Nat} {L1:TL1} {L3:TL3} {D1:TL1} {D3:TL3} (h:PB w0 w b L1 L3 D1 D3) (m:Mod [] w w1):PB w0 w1 b L1 L3 D1 D3:=by
 obtain⟨m0,hb,cs,R,R',h1,h2,h3,h6,h4,h5⟩:=h
 exact⟨m0.trans m,hb,cs,R,R',h1.mod m (by simp),h2,h3,h6,h4.still m,h5.still m⟩
theorem Fmt.d:Fmt ⟨#[68,101,99,105,109,97,108,83,73]⟩ 2:=.inr (.inr ⟨rfl,rfl⟩)
theorem Fmt.b:Fmt ⟨#[66,105,110,97,114,121,83,73]⟩ 1:=.inr (.inl ⟨rfl,rfl⟩)
theorem Fmt.e:Fmt ⟨#[68,101,99,105,109,97,108,69,120,112,111,110,101,110,116]⟩ 0:=.inl ⟨rfl,rfl⟩
theorem interp_dec {w0 w:World} {b:Nat} (h:PB w0 w b binL1 binL3 decL1 decL3) (s:ByteArray) (hs:s.size≤10) (x:Int) (hl:look decL1 s=some (10,x)):
 Calls Tryz.prog 331 #[.pointer (some ⟨b,0,none⟩),.string s] w (IntpRet 2 x w):=by
 obtain⟨m0,hb,cs,R,R',h1,h2,h3,h6,h4,h5⟩:=h
 have C:=Lh (ls_lookup h5 h1 s (Nat.le_trans hs (by decide)))
 rw[hl] at C
 clear m0 hb h1 h2 h3 h6 h4 h5 hl
 go_enter Tryz.func331,Tryz.ntmps331
 go_wp2_with fail
 refine C.out.mono ?_
 rintro e w1 ⟨rfl,m⟩
 have M:=Lh m
 clear m C
 go_wp2_with fail
 refine bodyPost_ret (results_tmp4 rfl _ _ _) rfl ?_
 exact⟨_,Fmt.d,rfl,M.out⟩
theorem interp_bin {w0 w:World} {b:Nat} (h:PB w0 w b binL1 binL3 decL1 decL3) (s:ByteArray) (hs:s.size≤10) (x:Int) (hd:look decL1 s=none) (hl:look binL1 s=some (2,x)):
 Calls Tryz.prog 331 #[.pointer (some ⟨b,0,none⟩),.string s] w (IntpRet 1 x w):=by
 obtain⟨m0,hb,cs,R,R',h1,h2,h3,h6,h4,h5⟩:=h
 have C:=Lh (ls_lookup h5 h1 s (Nat.le_trans hs (by decide)))
 rw[hd] at C
 have D:=Lh (fun(w1:World) (m:Mod [] w w1)=>ls_lookup (h4.still m) (h1.mod m (by simp)) s (Nat.le_trans hs (by decide)))
 rw[hl] at D
 clear m0 hb h1 h2 h3 h6 h4 h5 hl
 go_enter Tryz.func331,Tryz.ntmps331
 go_wp2_with fail
 refine C.out.mono ?_
 rintro e w1 ⟨rfl,m⟩
 have D':=Lh (D.out w1 m)
 have M:=Lh m
 clear m C D
 go_wp2_with fail
 refine D'.out.mono ?_
 rintro e w2 ⟨rfl,m⟩
 have M2:=Lh (M.out.trans m)
 clear m M D'
 go_wp2_with fail
 refine bodyPost_ret (results_tmp4 rfl _ _ _) rfl ?_
 exact⟨_,Fmt.b,rfl,M2.out⟩
theorem interp_exp {w0 w:World} {b:Nat} (h:PB w0 w b binL1 binL3 decL1 decL3) (s:ByteArray) (c:UInt8) (r:List UInt8) (x:Int) (hx:Xp s c r x):
 Calls Tryz.prog 331 #[.pointer (some ⟨b,0,none⟩),.string s] w (IntpRet 0 x w):=by
 obtain⟨m0,hb,cs,R,R',h1,h2,h3,h6,h4,h5⟩:=h
 have C:=Lh (ls_lookup h5 h1 s (Nat.le_trans hx.big (by decide)))
 rw[hx.dec] at C
 have D:=Lh (fun(w1:World) (m:Mod [] w w1)=>ls_lookup (h4.still m) (h1.mod m (by simp)) s (Nat.le_trans hx.big (by decide)))
 rw[hx.bin] at D
 have hsz:s.size=r.length+1:=by
  have:s.size=s.data.toList.length:=rfl
  rw[this,hx.tx];rfl
 have h0:0<s.size:=by omega
 have hr0:=List.length_pos_iff.2 hx.ne
 have hg:s[0]'h0=c:=by
  have e:s[0]'h0=s.data.toList[0]'h0:=rfl
  rw[e,List.getElem_of_eq hx.tx];rfl
 have hc:((s[0]'h0).toNat:Int)=69∨((s[0]'h0).toNat:Int)=101:=by
  rw[hg]
  rcases hx.c with e|e<;>rw[e]
  ·exact .inl rfl
  ·exact .inr rfl
 have ht:(s.extract 1 s.size).data.toList=r:=by
  have t:s.data.toList=[c]++(r++[]):=by rw[hx.tx];simp
  exact ext_mid t rfl (by rw[hsz];simp;omega)
 have P:=Lh (fun(w1:World)=>Tryz.strconv_ParseInt_10_at64_ok (s.extract 1 s.size) (by rw[ByteArray.size_extract];have:=hx.big;omega) x (by rw[ht];exact hx.pv) w1)
 have s1:decide ((1:Int)<(s.size:Int))=true:=by simp;omega
 have s2:1≤s.size:=by omega
 have w32:=Lh (show IntKind.i32.wrap x=x by rw[IntKind.wrap_i32];have:=hx.lo;have:=hx.hi;omega)
 have s3:s.size≤10:=hx.big
 clear m0 hb h1 h2 h3 h6 h4 h5 hx hg ht hsz hr0
 go_enter Tryz.func331,Tryz.ntmps331
 go_wp2_with fail
 refine C.out.mono ?_
 rintro e w1 ⟨rfl,m⟩
 have D':=Lh (D.out w1 m)
 have M:=Lh m
 clear m C D
 go_wp2_with fail
 refine D'.out.mono ?_
 rintro e w2 ⟨rfl,m⟩
 have M2:=Lh (M.out.trans m)
 have P':=Lh (P.out w2)
 clear m M D' P
 rcases hc with hc|hc
 all_goals
  have w33:=w32.out
  go_wp2_with fail
  refine P'.out.mono ?_
  rintro e w3 ⟨rfl,hw⟩
  have M3:=Lh (show Mod [] w w3 by
   rcases hw with rfl|⟨t,rfl⟩
   ·exact M2.out
   ·exact M2.out.trans (Mod.of_below (Lib.bytesWorld_below w2 5 t) (Nat.le_refl _)))
  clear hw
  go_wp2_with fail
  refine bodyPost_ret (results_tmp4 rfl _ _ _) rfl ?_
  exact⟨_,Fmt.e,rfl,M3.out⟩
theorem interp_on (b:Nat) (s:ByteArray) (fn:Nat) (x:Int) (w:World) (h:∀l:List UInt8,l∈[[],[110],[117],[109],[107],[77],[71]]→s.data.toList≠l) (k:∀w1,Mod [] w w1→Calls Tryz.prog 331 #[.pointer (some ⟨b,0,none⟩),.string s] w1 (IntpRet fn x w1)):
 Calls Tryz.prog 334 #[.agg #[.pointer (some ⟨b,0,none⟩)],.string s] w (IntpRet fn x w):=by
 have ne:∀l:List UInt8,l∈[[],[110],[117],[109],[107],[77],[71]]→(s.toList==l)=false:=fun l hl=>by
  rw[Lib.toList_data];exact beq_eq_false_iff_ne.2 (h l hl)
 have a0:s.toList.isEmpty=false:=by
  have h1:=h [] (by simp)
  rw[Lib.toList_data]
  cases hl:s.data.toList with
  |nil=>exact(h1 hl).elim
  |cons _ _=>rfl
 have a1:=ne [110] (by simp)
 have a2:=ne [117] (by simp)
 have a3:=ne [109] (by simp)
 have a4:=ne [107] (by simp)
 have a5:=ne [77] (by simp)
 have a6:=ne [71] (by simp)
 have K:=Lh k
 clear h ne k
 go_enter Tryz.func334,Tryz.ntmps334
 go_wp2_with fail
 refine(K.out _ ((Mod.refl _ _).alloc _)).mono ?_
 rintro e w1 ⟨fb,hf,rfl,m⟩
 have HF:=Lh hf
 have M:=Lh (((Mod.refl [] w).alloc _).trans m)
 clear hf m K
 obtain⟨bs,hbs⟩:∃bs:Int,bs=(if fn=1 then 2 else 10):=⟨_,rfl⟩
 rw[←hbs]
 have HB:=Lh hbs
 clear hbs
 go_wp2_with fail
 refine bodyPost_ret (results_tmp4 rfl _ _ _) rfl ?_
 exact⟨fb,HF.out,by rw[HB.out];rfl,M.out⟩
theorem interp_7 (b:Nat) (p:List UInt8×Int) (hp:p∈[([],0),([109],-3),([107],3),([77],6),([71],9)]) (w:World):Calls Tryz.prog 334 #[.agg #[.pointer (some ⟨b,0,none⟩)],.string ⟨p.1.toArray⟩] w (IntpRet 2 p.2 w):=by
 simp only[List.mem_cons,List.not_mem_nil,or_false] at hp
 rcases hp with rfl|rfl|rfl|rfl|rfl
 all_goals
  go_enter Tryz.func334,Tryz.ntmps334
  go_wp2_with fail
  refine bodyPost_ret (results_tmp4 rfl _ _ _) rfl ?_
  exact⟨_,Fmt.d,rfl,(Mod.refl _ _).alloc _⟩
end Go.Proofs.YtcpjclakdpjjfaaGreatDoor
