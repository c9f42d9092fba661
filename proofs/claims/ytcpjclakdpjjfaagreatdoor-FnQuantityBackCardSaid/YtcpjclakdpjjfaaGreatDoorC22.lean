/- Whole numbers read (bigall/natconv. -/
import Derived.Test.YtcpjclakdpjjfaaGreatDoorC21
import Derived.Test.YtcpjclakdpjjfaaGreatDoorC17
import Derived.Test.YtcpjclakdpjjfaaGreatDoorC07
import Derived.Test.YtcpjclakdpjjfaaGreatDoorC09
import Derived.Test.YtcpjclakdpjjfaaGreatDoorC15
import Derived.Handy
import Derived.LaidEql
set_option maxHeartbeats 1600000
namespace Go.Proofs.YtcpjclakdpjjfaaGreatDoor
open Go.RowKit Wd
theorem meth_readByte (b:Nat) (w:World):(method 524 171 (.pointer (some ⟨b,0,none⟩)) "ReadByte").run Tryz.prog w=.ok (336,.pointer (some ⟨b,0,none⟩)) w:=by kernel_rfl
theorem meth_unreadByte (b:Nat) (w:World):(method 524 171 (.pointer (some ⟨b,0,none⟩)) "UnreadByte").run Tryz.prog w=.ok (337,.pointer (some ⟨b,0,none⟩)) w:=by kernel_rfl
theorem pow_odd {p x n N:Nat} (h:p*x^n%B=N%B) (ho:n%2=1):(p*x%B)*(x*x%B)^(n/2)%B=N%B:=by
 have e:n=2*(n/2)+1:=by omega
 rw[←h,Nat.mul_mod,Nat.pow_mod,Nat.mod_mod,Nat.mod_mod,←Nat.pow_mod,←Nat.mul_mod]
 conv=>rhs;rw[e,Nat.pow_succ,Nat.pow_mul]
 rw[show x^2=x*x from Nat.pow_two x]
 congr 1
 rw[Nat.mul_assoc,Nat.mul_comm x]
theorem pow_even {p x n N:Nat} (h:p*x^n%B=N%B) (ho:n%2=0):p*(x*x%B)^(n/2)%B=N%B:=by
 have e:n=2*(n/2):=by omega
 rw[←h,Nat.mul_mod,Nat.pow_mod,Nat.mod_mod,←Nat.pow_mod,←Nat.mul_mod]
 conv=>rhs;rw[e,Nat.pow_mul]
 rw[show x^2=x*x from Nat.pow_two x]
theorem u64_mul (x y:Nat):IntKind.u64.wrap ((x:Int)*(y:Int))=((x*y%B:Nat):Int):=by
 rw[u64_wrap];push_cast;rfl
theorem and_one (n:Nat) (h:n≤100):bits BinOp.and IntKind.i64 (n:Int) 1=((n%2:Nat):Int):=by
 have:∀n:Nat,n<101→bits BinOp.and IntKind.i64 (n:Int) 1=((n%2:Nat):Int):=by decide+kernel
 exact this n (by omega)
theorem pow_calls (N:Nat) (w:World) (hN:N≤19):Calls Tryz.prog 251 #[.int .u64 10,.int .i64 N] w fun e w'=>e=.returned (.int .u64 ((10^N:Nat):Int))∧w=w':=by
 have hB:10^N<B:=by
  rw[B_eq];exact Nat.lt_of_le_of_lt (Nat.pow_le_pow_right (by decide) hN) (by decide)
 have hN0:(10:Nat)^N=10^N:=rfl
 generalize hT:(10:Nat)^N=T at*
 have HB:=Lh (Aj hB hT)
 clear hB hT hN0
 go_enter Tryz.func251,Tryz.ntmps251
 go_wp2_with fail
 go_loop [0,1,4] (fun t0 t1 t4=>∃x n p:Nat,t0=.int .u64 x∧t1=.int .i64 n∧t4=.int .u64 p∧n≤19∧p<B∧p*x^n%B=T%B) (fun _ t1 _=>(intOf t1).toNat)
 case atStart=>exact⟨10,N,1,rfl,rfl,rfl,hN,by rw[B_eq];decide,by rw[Nat.one_mul,HB.out.2]⟩
 case round=>
  obtain⟨x,n,p,rfl,rfl,rfl,hn,hp,hrel⟩:=hrel
  rcases Nat.eq_zero_or_pos n with rfl|h0
  ·have e:p=T:=by rw[Nat.pow_zero,Nat.mul_one,Nat.mod_eq_of_lt hp,Nat.mod_eq_of_lt HB.out.1] at hrel;exact hrel
   have HE:=Lh e
   clear hrel e hp
   go_wp2_with fail
   go_ret
   exact⟨by rw[←HE.out];rfl,rfl⟩
  ·have t1:decide ((0:Int)<(n:Int))=true:=by simp;omega
   have a1:=and_one n (by omega)
   have m1:=u64_mul p x
   have m2:=u64_mul x x
   have hxB:p*x%B<B:=Nat.mod_lt _ B_pos
   rcases Nat.mod_two_eq_zero_or_one n with hz|hz
   ·rw[hz] at a1
    have HR:=Lh (Aj (pow_even hrel hz) (Aj hp h0))
    generalize x*x%B=y at*
    clear hrel hp hz hxB m1
    go_wp2_with fail
    go_round
    case rel=>exact⟨y,n/2,p,rfl,by first|rfl|go_num,rfl,by omega,HR.out.2.1,HR.out.1⟩
    case measure=>have:=HR.out.2.2;simp[intOf];omega
   ·rw[hz] at a1
    have HR:=Lh (Aj (pow_odd hrel hz) (Aj hxB h0))
    generalize x*x%B=y at*
    generalize p*x%B=q at*
    clear hrel hp hz hxB
    go_wp2_with fail
    go_round
    case rel=>exact⟨y,n/2,q,rfl,by first|rfl|go_num,rfl,by omega,HR.out.2.1,HR.out.1⟩
    case measure=>have:=HR.out.2.2;simp[intOf];omega
end Go.Proofs.YtcpjclakdpjjfaaGreatDoor
namespace Go.Proofs.YtcpjclakdpjjfaaGreatDoor
open Go.RowKit Wd Dg
theorem scanSign_calls (b i:Nat) (p:Int) (s:ByteArray) (w:World) (h:Rd w b s i p) (hi:i<s.size) (hc:s.size≤1000000):
 Calls Tryz.prog 227 #[.iface 171 (.pointer (some ⟨b,0,none⟩))] w fun e w'=>e=.returned (.tuple #[.bool (decide ((s[i]'hi)=45)),.nilIface])∧Rd w' b s ((i+(if (s[i]'hi)=45∨(s[i]'hi)=43 then 1 else 0):Nat):Int) (-1)∧Mod [b] w w':=by
 have m1:=meth_readByte b
 have m2:=meth_unreadByte b
 have RB:=Lh (readByte_ok b i p s w h hi hc)
 generalize hx:s[i]'hi=x at*
 clear h hx
 go_enter Tryz.func227,Tryz.ntmps227
 go_wp2_with fail
 refine RB.out.mono ?_
 rintro e w1 ⟨rfl,h1,hm1⟩
 have H1:=Lh (Aj h1 hm1)
 have UB:=Lh (unreadByte_calls b i (-1) s w1 h1 (by omega))
 clear h1 hm1
 by_cases h45:x=45
 ·subst h45
  go_wp2_with fail
  go_ret2
  exact⟨rfl,by simpa using H1.out.1,H1.out.2⟩
 ·have t1:((x.toNat:Int)==45)=false:=by
   simp only[beq_eq_false_iff_ne,ne_eq]
   intro h
   exact h45 (UInt8.toNat_inj.1 (by have:x.toNat=45:=by omega
                                    simpa using this))
  by_cases h43:x=43
  ·subst h43
   go_wp2_with fail
   go_ret2
   exact⟨rfl,by simpa using H1.out.1,H1.out.2⟩
  ·have t2:((x.toNat:Int)==43)=false:=by
    simp only[beq_eq_false_iff_ne,ne_eq]
    intro h
    exact h43 (UInt8.toNat_inj.1 (by have:x.toNat=43:=by omega
                                     simpa using this))
   go_wp2_with fail
   refine UB.out.mono ?_
   rintro e w2 ⟨rfl,h2,hm2⟩
   have H2:=Lh (Aj h2 hm2)
   clear h2 hm2
   go_wp2_with fail
   all_goals
    go_ret2
    exact⟨by simp,by simpa [h45,h43] using H2.out.1,H1.out.2.trans H2.out.2⟩
end Go.Proofs.YtcpjclakdpjjfaaGreatDoor
namespace Go.Proofs.YtcpjclakdpjjfaaGreatDoor
open Go.RowKit Wd Dg
def amt (v s:Int):Value:=.agg #[.int .i64 v,.int .i32 s]
theorem amtAsDec (v s:Int) (w:World) (hw:19≤w.heap.size) (hv:i64 v) (h1:-100000≤s) (h2:s≤100000):Calls Tryz.prog 129 #[amt v s] w (NewRet w (some (-s)) v):=by
 unfold amt
 have hsz:(w.alloc (.cells #[.int .i64 v,.int .i32 s] 64)).heap.size=w.heap.size+1:=by simp
 have ma:Mod [] w (w.alloc (.cells #[.int .i64 v,.int .i32 s] 64)):=(Mod.refl [] w).alloc _
 have hbx:=Hd.new w 64 #[.int .i64 v,.int .i32 s]
 have nd:=new_dec (w.alloc (.cells #[.int .i64 v,.int .i32 s] 64)) (by rw[hsz];omega)
 rw[hsz] at nd
 have hbx2:=hbx.mod nd.mod (by simp)
 have SU:=Lh (dec_setUnscaled _ (some 0) 0 _ v _ nd.ia hv.1 hv.2)
 obtain⟨ns,hns⟩:∃ns,ns=-s:=⟨_,rfl⟩
 have tneg:wrap32 (-s)=ns:=by rw[hns];unfold wrap32;omega
 have H0:=Lh (Aj ma (Aj hbx2 (Aj nd hns)))
 clear ma hbx hbx2 nd hns hv h1 h2 hsz
 go_enter Tryz.func129,Tryz.ntmps129
 go_wp2_with fail
 refine SU.out.mono ?_
 rintro e w2 ⟨rfl,v',hr⟩
 have c1:=(H0.out.2.1.mod hr.mod (by simp[sb])).cell (i:=1) (v:=.int .i32 s) rfl
 have SS:=Lh (dec_setScale _ _ ns v v' w2 hr.ia)
 have HR:=Lh hr
 clear hr SU
 go_wp2_with fail
 refine SS.out.mono ?_
 rintro e w3 ⟨rfl,v'',hr2⟩
 have HR2:=Lh hr2
 clear hr2 SS
 go_wp2_with fail
 go_ret
 obtain⟨k1,k2,k3,k4⟩:=H0.out
 have hh:=(k3.step HR.out).step HR2.out
 rw[k4] at hh
 exact⟨_,_,rfl,hh.ia,k1.trans hh.mod,by have:=hh.own.1;simp at this;omega,fun k hk=>by have:=hh.own.2 k hk;simp at this;omega⟩
def AsScRet (v s c:Int) (w:World) (e:Ending) (w':World):Prop:=
 Mod [] w w'∧((c≤s∧e=.returned (.tuple #[amt v s,.bool true]))∨∃k:Nat,c=s+k∧0<k∧e=.returned (.tuple #[amt (up v (10^k)) c,.bool (!nsF v k)]))
theorem amtAsScale (v s c:Int) (w:World) (hv:i64 v) (h1:-10000≤s) (h2:s≤10000) (h3:-10000≤c) (h4:c≤10000):Calls Tryz.prog 87 #[amt v s,.int .i32 c] w (AsScRet v s c w):=by
 have ma:∀o o',Mod [] w ((w.alloc o).alloc o'):=fun o o'=>((Mod.refl [] w).alloc o).alloc o'
 have HM:=Lh ma
 clear ma
 unfold amt
 by_cases hle:c≤s
 ·have t1:decide (c≤s)=true:=by simpa using hle
  go_enter Tryz.func87,Tryz.ntmps87
  go_wp2_with fail
  go_returns
  refine⟨?_,.inl ⟨hle,rfl⟩⟩
  first|exact HM.out _ _|exact(HM.out _ _).setCell _ (.inr (by simp))|exact((HM.out _ _).setCell _ (.inr (by simp))).setCell _ (.inr (by simp))
 ·have t1:decide (c≤s)=false:=by simpa using hle
  obtain⟨k,hk⟩:∃k:Nat,c=s+k:=⟨(c-s).toNat,by omega⟩
  have tk:wrap32 (c-s)=(k:Int):=by unfold wrap32;omega
  have NS:=Lh (fun w=>negativeScale_calls v k w hv (by omega))
  have HK:=Lh (Aj hk (show 0<k by omega))
  clear hv h1 h2 h3 h4 hk hle
  go_enter Tryz.func87,Tryz.ntmps87
  go_wp2_with fail
  refine(NS.out _).mono ?_
  rintro e w2 ⟨rfl,rfl⟩
  have HU:=Lh (fun w' (m:Mod [] w w')=>(show AsScRet v s c w (.returned (.tuple #[.agg #[.int .i64 (up v (10^k)),.int .i32 c],.bool (!nsF v k)])) w' from ⟨m,.inr ⟨k,HK.out.1,HK.out.2,rfl⟩⟩))
  generalize up v (10^k)=U at*
  generalize (!nsF v k)=F at*
  go_wp2_with fail
  go_returns
  refine HU.out _ ?_
  first|exact HM.out _ _|exact(HM.out _ _).setCell _ (.inr (by simp))|exact((HM.out _ _).setCell _ (.inr (by simp))).setCell _ (.inr (by simp))
end Go.Proofs.YtcpjclakdpjjfaaGreatDoor
namespace Go.Proofs.YtcpjclakdpjjfaaGreatDoor
open Go.RowKit Wd Dg
theorem info260:(Tryz.prog.info? 260).map (·.comparable)=some true:=by kernel_rfl
theorem info262:(Tryz.prog.info? 262).isSome=true:=by kernel_rfl
def eofV (be:Addr):Value:=.iface 260 (.pointer (some be))
theorem eof_nil (be:Addr) (w:World):(binOp .eql 72 (eofV be) .nilIface).run Tryz.prog w=.ok (.bool false) w:=by unfold eofV;kernel_rfl
theorem eof_eql (be:Addr) (w:World):(binOp .eql 72 (eofV be) (eofV be)).run Tryz.prog w=.ok (.bool true) w:=by
 obtain⟨i,hi,hc⟩:=Option.map_eq_some_iff.1 info260
 obtain⟨j,hj⟩:=Option.isSome_iff_exists.1 info262
 exact run_eql_iface_ptr_same w _ Tryz.underlying72 Tryz.underlying260 hi hc hj
theorem eof_neq (be:Addr) (w:World):(binOp .neq 72 (eofV be) (eofV be)).run Tryz.prog w=.ok (.bool false) w:=by
 obtain⟨i,hi,hc⟩:=Option.map_eq_some_iff.1 info260
 obtain⟨j,hj⟩:=Option.isSome_iff_exists.1 info262
 simp only[binOp,eofV]
 simp[Op.equal,Op.maxDepth,run_equalIn_iface_ptr_same w 9998 _ Tryz.underlying72 Tryz.underlying260 hi hc hj]
def RdSt (b:Nat) (s:ByteArray) (be:Addr) (i:Nat) (err:Value) (ch:Int) (wr:World):Prop:=
 (∃h:i<s.size,err=.nilIface∧ch=((s[i]'h).toNat:Int)∧Rd wr b s ((i+1:Nat):Int) (-1))∨(s.size≤i∧err=eofV be∧Rd wr b s (i:Int) (-1))
theorem readByte_any (b i:Nat) (be:Addr) (p:Int) (s:ByteArray) (w:World) (h:Rd w b s i p) (he:w.cell? ⟨3,0,none⟩=some (eofV be)) (hb:19≤b) (hc:s.size≤1000000):
 Calls Tryz.prog 336 #[.pointer (some ⟨b,0,none⟩)] w fun e w'=>∃(ch:Int) (err:Value),e=.returned (.tuple #[.int .u8 ch,err])∧RdSt b s be i err ch w'∧Mod [b] w w':=by
 rcases Nat.lt_or_ge i s.size with hi|hi
 ·exact(readByte_ok b i p s w h hi hc).mono fun e w' ⟨h1,h2,h3⟩=>⟨_,_,h1,.inl ⟨hi,rfl,rfl,h2⟩,h3⟩
 ·exact(readByte_end b i p s _ w h hi he hb).mono fun e w' ⟨h1,h2,h3⟩=>⟨_,_,h1,.inr ⟨hi,rfl,h2⟩,h3⟩
def tl (s:ByteArray) (i:Nat):List UInt8:=s.data.toList.drop i
structure SR (w:World) (b i0 i:Nat) (s:ByteArray) (be:Addr) (j wv X:Nat) (z err:Value) (ch:Int) (wr:World):Prop where
 mod:Mod [b] w wr
 nv:Nv wr z X
 own:∀q,q∈sb z→w.heap.size≤q
 val:bv ((tl s i0).take (i-i0))=X*10^j+wv
 wlt:wv<10^j
 jlt:j<19
 ge:i0≤i
 le:i≤s.size
 st:RdSt b s be i err ch wr
theorem tl_succ {s:ByteArray} {i0 i:Nat} (h0:i0≤i) (h:i<s.size):(tl s i0).take (i+1-i0)=(tl s i0).take (i-i0)++[s[i]'h]:=by
 unfold tl
 have hl:s.data.toList.length=s.size:=rfl
 rw[show i+1-i0=(i-i0)+1 by omega,List.take_succ_eq_append_getElem (by rw[List.length_drop,hl];omega)]
 congr 2
 rw[List.getElem_drop]
 show s.data.toList[i0+(i-i0)]=s.data[i]
 simp[show i0+(i-i0)=i by omega]
theorem tl_bd {s:ByteArray} {i0 i:Nat} (hB:BD (tl s i0)) (h0:i0≤i) (h:i<s.size):48≤(s[i]'h).toNat∧(s[i]'h).toNat≤57:=by
 refine hB _ (List.mem_of_mem_take (i:=i+1-i0) ?_)
 rw[tl_succ h0 h];simp
theorem SR.digit {w:World} {b i0 i:Nat} {s:ByteArray} {be:Addr} {j wv X:Nat} {z err:Value} {ch:Int} {wr:World} (h:SR w b i0 i s be j wv X z err ch wr) (hi:i<s.size) {d:Nat} (hd:d=(s[i]'hi).toNat-48):
 bv ((tl s i0).take (i+1-i0))=X*10^(j+1)+(wv*10+d):=by
 rw[tl_succ h.ge hi,bv_snoc,h.val,←hd,Nat.pow_succ,Nat.mul_add,←Nat.mul_assoc]
 have:10*X*10^j=X*(10^j*10):=by rw[Nat.mul_comm 10 X,Nat.mul_assoc,Nat.mul_comm 10]
 omega
end Go.Proofs.YtcpjclakdpjjfaaGreatDoor
namespace Go.Proofs.YtcpjclakdpjjfaaGreatDoor
open Go.RowKit Wd Dg
structure Env2 (w:World):Prop where
 env:Env w
 tab:Lib.TabIs Tryz.prog w "internal/strconv.uint64pow10" .u64 Lib.pow10Tab
 eof:∃be,w.cell? ⟨3,0,none⟩=some (eofV be)
theorem glob_tab:∃g,Tryz.prog.globalNamed "internal/strconv.uint64pow10"=some g∧g<19:=⟨13,by kernel_rfl,by decide⟩
theorem Env2.mod {S:List Nat} {w w':World} (h:Env2 w) (m:Mod S w w') (hs:∀k,k∈S→19≤k):Env2 w':=by
 refine⟨h.env.mod m hs,?_,?_⟩
 ·obtain⟨g,hg,hlt⟩:=glob_tab
  have ht:=h.tab
  unfold Lib.TabIs World.var? at*
  rw[hg] at ht ⊢
  have hb:=h.env.big
  have e:=m.block g (by omega) (fun hm=>by have:=hs g hm;omega)
  simp only[Option.bind_some] at ht ⊢
  rw[e];exact ht
 ·obtain⟨be,hbe⟩:=h.eof
  exact⟨be,(m.cell (p:=⟨3,0,none⟩) (World.block_lt_of_cell? w _ hbe) (fun hm=>by have:=hs _ hm;simp at this)).trans hbe⟩
theorem Env2.drewN {w:World} (h:Env2 w) (n:Nat):Env2 (w.drewN n):=h.mod ((Mod.refl [] w).drewN n) (by simp)
theorem Env2.new {w w':World} (h:Env2 w) (m:Mod [] w w'):Env2 w':=h.mod m (by simp)
theorem appendInt_calls (i:Int) (w:World) (he:Env2 w) (hi:i64 i) (o:Value) (ho:o=.slice none 0 0):
 Calls Tryz.prog 131 #[o,.int .i64 i,.int .i64 10] w fun e w'=>∃v',e=.returned v'∧Bs w' w.heap.size v' (Lib.itoa i)∧Mod [] w w':=by
 subst ho
 refine(Tryz.strconv_AppendInt_10 w.heap.size 0 i hi.1 hi.2 _ [] w (World.ownsRow_nil w _ 5 1) (Nat.le_refl _) (by omega) (Lib.tabBelow_of_tabIs he.tab)).mono ?_
 rintro e w' ⟨v',rfl,h1,h2,-⟩
 refine⟨v',rfl,?_,Mod.of_below h2 (Nat.le_refl _)⟩
 rw[Nat.zero_add,List.nil_append] at h1
 exact h1
end Go.Proofs.YtcpjclakdpjjfaaGreatDoor
