/- Decimals read (inf/dec. -/
import Derived.Test.YtcpjclakdpjjfaaGreatDoorC34
import Derived.Test.YtcpjclakdpjjfaaGreatDoorC17
import Derived.Test.YtcpjclakdpjjfaaGreatDoorC20
import Derived.WalkMore
set_option maxHeartbeats 40000000
set_option maxRecDepth 20000
namespace Go.Proofs.YtcpjclakdpjjfaaGreatDoor
open Go.RowKit Wd Dg
theorem meth_readRune (b:Nat) (w:World):(method 524 171 (.pointer (some ⟨b,0,none⟩)) "ReadRune").run Tryz.prog w=.ok (107,.pointer (some ⟨b,0,none⟩)) w:=by kernel_rfl
theorem eof_nil' (be:Addr) (w:World):(binOp .eql 72 .nilIface (eofV be)).run Tryz.prog w=.ok (.bool false) w:=by unfold eofV;kernel_rfl
theorem make_256 (w:World):
 ∃w1,(Instr.makeSlice 79 (.int .i64 0) (.int .i64 256)).run Tryz.prog w=.ok (.slice (some ⟨w.heap.size,0,none⟩) 0 256) w1∧Bs w1 w.heap.size (.slice (some ⟨w.heap.size,0,none⟩) 0 256) []∧Mod [] w w1:=by
 obtain⟨i,hi,hz⟩:=Option.map_eq_some_iff.1 info5
 simp only[Prod.mk.injEq] at hz
 obtain⟨h1,h2,h3⟩:=hz
 have key:=run_make w 79 5 i (.int .u8 0) Tryz.underlying79 hi h1 .i64 .i64 0 256 (by omega) (by omega) (by rw[h3];omega) (by omega)
 refine⟨_,key,World.ownsRow_made w _ 256 (Nat.le_refl _) (by decide) ?_,(Mod.refl [] w).alloc _⟩
 rw[h2];simp[madeCells,Value.cells]
def posOf (w:World) (b:Nat):Nat:=match w.cell? ⟨b,1,none⟩ with
 |some (.int _ x)=>x.toNat
 |_=>0
theorem posOf_rd {w:World} {b i:Nat} {s:ByteArray} {p:Int} (h:Rd w b s (i:Int) p):posOf w b=i:=by
 unfold posOf
 rw[Hd.cell h (i:=1) (v:=.int .i64 (i:Int)) rfl]
 simp
theorem u8_byte (c:UInt8):IntKind.u8.wrap (c.toNat:Int)=(c.toNat:Int):=by
 have:=c.toNat_lt
 rw[IntKind.wrap_u8];omega
def DsRet (w:World) (bz b:Nat) (s:ByteArray) (N:Int) (k:Nat) (e:Ending) (w':World):Prop:=
 e=.returned (.tuple #[.pointer (some ⟨bz,0,none⟩),.nilIface])∧(∃v',IA w' bz (some (k:Int)) N v'∧(∀q,q∈sb v'→w.heap.size≤q))∧Mod [bz,b] w w'∧∃p,Rd w' b s (s.size:Int) p
theorem DSc.push' {w:World} {b base i x:Nat} {s:ByteArray} {v v':Value} {us:List UInt8} {dp dg dg':Int} {wr w2 w3:World} (h:DSc w b base s i v us dp dg wr) (hi:i<s.size) (hx:x=(s[i]'hi).toNat) (hne:(s[i]'hi)≠46)
 (m:Mod [b] wr w2) (hrd:Rd w2 b s ((i+1:Nat):Int) i) (hrow:w3.ownsRow base 5 1 v' (us.length+1) (Lib.byteCells us++[.int .u8 (x:Int)])) (hg:(w2.alloc (.cells #[.int .u8 (x:Int)] 5)).grownBy w3 v.ownBlock) (hbb:b<base)
 (hdg:(dg'=-1∧dg=-1∧((s[i]'hi)=43∨(s[i]'hi)=45))∨(0≤dg'∧dg'=dg)∨(0≤dg'∧48≤(s[i]'hi).toNat)):DSc w b base s (i+1) v' (us++[s[i]'hi]) dp dg' w3:=by
 subst hx
 exact h.push hi hne m hrd hrow hg hbb hdg
theorem news_one {w:World} {g x:Nat} (h:w.cell? ⟨g,0,none⟩=some (.int .u8 (x:Int))):∀j u,([.int .u8 (x:Int)]:List Value)[j]?=some u→w.cell? ((⟨g,0,none⟩:Addr).add j)=some u:=by
 intro j u hj
 rcases Nat.eq_zero_or_pos j with rfl|h0
 ·simp at hj;subst hj;exact h
 ·rw[List.getElem?_eq_none (by simp;omega)] at hj;cases hj
def DsEnd (w:World) (bz b:Nat) (s:ByteArray) (N:Int) (k:Nat) (u:Value) (us:List UInt8) (w3:World):Prop:=
 ∀n,(convert 79 9 u).run Tryz.prog (w3.drewN n)=.ok (.string ⟨us.toArray⟩) (w3.drewN n)∧
  Calls Tryz.prog 145 #[.pointer (some ⟨bz,0,none⟩),.string ⟨us.toArray⟩,.int .i64 10] (w3.drewN n) fun e w'=>e=.returned (.tuple #[.pointer (some ⟨bz,0,none⟩),.bool true])∧DsRet w bz b s N k (.returned (.tuple #[.pointer (some ⟨bz,0,none⟩),.nilIface])) w'
theorem DTx.numl {s:ByteArray} {sg A D:List UInt8} {dot:Bool} (h:DTx s sg A D dot):Numl ⟨(sg++A++D).toArray⟩ sg.length (decide (sg=[45])) (if sg=[45] then -(bv (A++D):Int) else bv (A++D)):=by
 have hs:(⟨(sg++A++D).toArray⟩:ByteArray).size=sg.length+(A++D).length:=by
  show (sg++A++D).toArray.size=_
  simp[List.length_append];try omega
 have h0:0<(A++D).length:=List.length_pos_iff.2 h.some
 have hc:(A++D).length≤250:=by
  have h1:=h.cap
  have h2:(nop s.data.toList).length≤s.data.toList.length:=List.length_filter_le _ _
  rw[h.nopAll] at h2
  have h3:s.data.toList.length=s.size:=rfl
  simp only[List.length_append] at*;omega
 have hsg:sg.length≤1:=by rcases h.sg with h|h|h<;>simp[h]
 have htl:tl ⟨(sg++A++D).toArray⟩ sg.length=A++D:=by
  unfold tl;simp
 have hbd:BD (A++D):=fun c hc=>(List.mem_append.1 hc).elim (h.a c) (h.d c)
 have hget:∀h0:0<(⟨(sg++A++D).toArray⟩:ByteArray).size,(⟨(sg++A++D).toArray⟩:ByteArray)[0]'h0=(sg++(A++D))[0]'(by simp only[List.length_append] at*;omega):=fun _=>by
  show (sg++A++D).toArray[0]=_
  simp
 have hdig:∀c,c∈A++D→c≠45∧c≠43:=fun c hc=>by
  have:=hbd c hc
  constructor
  ·rintro rfl;exact absurd this.1 (by decide)
  ·rintro rfl;exact absurd this.1 (by decide)
 refine { pos:=by omega,cap:=by omega,bd:=by rw[htl];exact hbd,hi0:=?_,hg:=?_,hn:=?_ }
 ·rw[hget]
  rcases h.sg with h|h|h
  ·subst h
   have:=hdig _ (List.getElem_mem (l:=A++D) (n:=0) h0)
   simp only[List.nil_append,List.length_nil]
   rw[if_neg (by rintro(h1|h1);exact this.1 h1;exact this.2 h1)]
  ·subst h;simp
  ·subst h;simp
 ·rw[hget]
  rcases h.sg with h|h|h
  ·subst h
   have:=hdig _ (List.getElem_mem (l:=A++D) (n:=0) h0)
   simp only[List.nil_append]
   simp[this.1]
  ·subst h;simp
  ·subst h;simp
 ·rw[htl];simp
theorem dec_scan (bz b:Nat) (be:Addr) (p:Int) (s:ByteArray) (sg A D:List UInt8) (dot:Bool) (N:Int) (hN:N=if sg=[45] then -(bv (A++D):Int) else bv (A++D)) (k:Nat) (hk:k=D.length) (w:World) (hw:19≤w.heap.size) (hz:IA w bz (some 0) 0 (.slice none 0 0)) (h:Rd w b s ((0:Nat):Int) p) (he:w.cell? ⟨3,0,none⟩=some (eofV be)) (hb:19≤b) (ht:DTx s sg A D dot):
 Calls Tryz.prog 106 #[.pointer (some ⟨bz,0,none⟩),.iface 171 (.pointer (some ⟨b,0,none⟩))] w (DsRet w bz b s N k):=by
 have m1:=meth_readRune b
 have m2:=eof_nil be
 have m3:=eof_eql be
 have m4:=eof_nil' be
 obtain⟨i5,hi5,hz5⟩:=Option.map_eq_some_iff.1 info5
 simp only[Prod.mk.injEq] at hz5
 have H5:=Lh (Aj hi5 hz5)
 clear hi5 hz5
 obtain⟨w1,hrun,hrow,hm1⟩:=make_256 w
 have hbb:b<w.heap.size:=Hd.lt h
 have hD0:DSc w b w.heap.size s 0 (.slice (some ⟨w.heap.size,0,none⟩) 0 256) [] (-1) (-1) w1:=
  { mod:=hm1.mono (by simp),rd:=⟨p,Hd.mod h hm1 (by simp)⟩,row:=hrow,us:=by simp;rfl,dp:=.inl ⟨rfl,by simp⟩,dg:=.inl ⟨rfl,by simp⟩,le:=by omega,hb:=Nat.le_refl _,hb2:=hm1.size }
 have HD0:=Lh hD0
 have hne:bz≠b:=fun h1=>by
  subst h1
  have h2:=hz.hd.symm.trans h
  simp[hty,hdr] at h2
 have H0:=Lh (Aj hw (Aj hz (Aj he (Aj hb (Aj ht (Aj hbb (Aj hne (Aj hN hk))))))))
 have hcap:=ht.cap
 clear hk hN hw hz h he hb ht hbb hrow hm1 hD0 hne
 go_enter Tryz.func106,Tryz.ntmps106
 go_wp2_with fail
 go_step3
 go_wp2_with fail
 go_step3
 go_wp2_with fail
 go_loopw [6,7,8] (fun t6 t7 t8 wr=>∃(i:Nat) (v:Value) (us:List UInt8) (dp dg:Int),v=t6∧t7=.int .i64 dp∧t8=.int .i64 dg∧DSc w b w.heap.size s i v us dp dg wr) (fun _ _ _ wr=>1000-posOf wr b)
 case atStart=>exact⟨0,_,[],-1,-1,rfl,rfl,rfl,HD0.out⟩
 case round=>
  obtain⟨i,v,us,dp,dg,rfl,rfl,rfl,hD⟩:=hrel
  obtain⟨q,hrd⟩:=hD.rd
  obtain⟨a,c,hv,hvo⟩:=hD.row.form
  have hpos:=posOf_rd hrd
  have hmod:=hD.mod
  have he3:wr.cell? ⟨3,0,none⟩=some (eofV be):=(hmod.cell (p:=⟨3,0,none⟩) (World.block_lt_of_cell? w _ H0.out.2.2.1) (by have:=H0.out.2.2.2.1;simp;omega)).trans H0.out.2.2.1
  have hm3:∀w2,Mod [b] wr w2→w2.cell? ⟨3,0,none⟩=some (eofV be):=fun w2 m=>(m.cell (p:=⟨3,0,none⟩) (World.block_lt_of_cell? wr _ he3) (by have:=H0.out.2.2.2.1;simp;omega)).trans he3
  have HE:=Lh hm3
  rcases Nat.lt_or_ge i s.size with hi|hi
  ·have hcs:=H0.out.2.2.2.2.1.at hi
   have hlt:(s[i]'hi).toNat<128:=by
    rcases hcs with ⟨-,h|h⟩|h|⟨h,-⟩
    ·rw[h];decide
    ·rw[h];decide
    ·omega
    ·rw[h];decide
   have RR:=Lh (readRune_ok b i q s wr hrd hi (by omega) hlt)
   obtain⟨x,hx⟩:∃x,x=(s[i]'hi).toNat:=⟨_,rfl⟩
   rw[←hx] at RR
   have hbb:=H0.out.2.2.2.2.2.1
   have hulen:us.length≤i:=by
    rw[hD.us];exact Nat.le_trans (List.length_filter_le _ _) (by rw[List.length_take];omega)
   have hx8:IntKind.u8.wrap (x:Int)=(x:Int):=by rw[hx];exact u8_byte _
   have hsz1:=hmod.size
   have hhb2:=hD.hb2
   subst hv
   have HD:=Lh (Aj hD (Aj hx (Aj hbb (Aj hulen (Aj hhb2 hpos)))))
   have hcs2:=hcs
   have hdp:=hD.dp
   have hus:=hD.us
   have hdg:=hD.dg
   clear hD hrd hmod he3 hm3 hvo hlt hcs hpos hulen hsz1 hhb2 hbb hx
   have HC:=Lh (Aj hcs2 (Aj hdp (Aj hus hdg)))
   clear hcs2 hdp hus hdg
   have INF:=H5.out
   have HW2:∀w2,Mod [b] wr w2→(w2.alloc (.cells #[.int .u8 (x:Int)] 5)).ownsRow w.heap.size 5 1 (.slice a us.length c) us.length (Lib.byteCells us)∧(w2.alloc (.cells #[.int .u8 (x:Int)] 5)).cell? ⟨w2.heap.size,0,none⟩=some (.int .u8 (x:Int))∧w.heap.size≤(w2.alloc (.cells #[.int .u8 (x:Int)] 5)).heap.size:=fun w2 m=>
    ⟨World.ownsRow.alloc (HD.out.1.row.mod m (fun k hk=>by rw[List.mem_singleton.1 hk];exact HD.out.2.2.1)) _,Hd.cell (Hd.new w2 5 _) rfl,by have:=m.size;have:=HD.out.2.2.2.2.1;simp;omega⟩
   have HWW:=Lh HW2
   clear HW2
   rcases HC.out.1 with ⟨h0,h1⟩|⟨h1,h2⟩|⟨h1,h2⟩
   ·subst h0
    have hus0:us=[]:=by rw[HC.out.2.2.1];rfl
    have u1:decide ((0:Int)<(us.length:Int))=false:=by rw[hus0];rfl
    have u2:decide (0<us.length)=false:=by rw[hus0];rfl
    clear hus0
    obtain rfl:dp=-1:=by
     rcases HC.out.2.1 with ⟨h2,-⟩|⟨P,Q,h2,-⟩
     ·exact h2
     ·simp at h2
    obtain rfl:dg=-1:=by
     rcases HC.out.2.2.2 with ⟨h2,-⟩|⟨-,c,h2,-⟩
     ·exact h2
     ·simp at h2
    have h46:(s[0]'hi)≠46:=by rcases h1 with h1|h1<;>(rw[h1];decide)
    have H1:=Lh (Aj h1 h46)
    rcases h1 with h1|h1
    ·have hx43:x=43:=by rw[HD.out.2.1,h1];rfl
     have e1:((x:Int)==43)=true:=by rw[hx43];rfl
     clear h1 h46 hx43
     go_wp2_with fail
     refine RR.out.mono ?_
     rintro e w2 ⟨rfl,h3,h4⟩
     have he3:=HE.out w2 h4
     have HOW:=Lh (HWW.out w2 h4)
     have PU:=Lh (fun(v':Value) (w3:World) a1 a2=>HD.out.1.push' hi HD.out.2.1 H1.out.2 h4 h3 a1 a2 HD.out.2.2.1 (v':=v') (w3:=w3) (dg':=(-1)) (.inl ⟨rfl,rfl,H1.out.1⟩))
     clear h3 h4
     unfold eofV at he3 m2 m3 m4
     go_wp2_with (at_builtin;refine wpList_append_own _ rfl _ _ 79 rfl w.heap.size 5 i5 (.int .u8 0) 1 1 Tryz.underlying79 INF.1 INF.2.1 INF.2.2.1 INF.2.2.2 rfl (by decide) _ us.length (Lib.byteCells us) rfl HOW.out.1 ⟨w2.heap.size,0,none⟩ 1 1 [.int .u8 (x:Int)] rfl rfl (news_one HOW.out.2.1) (by intro u hu;rw[List.mem_singleton.1 hu];rfl) (by have:=HD.out.2.2.2.1;unfold maxLen;omega) (by have:=HD.out.2.2.2.1;omega) HOW.out.2.2 ?_;intro v' w3 hown hgr hnil)
     have PW:=Lh (PU.out v' w3 hown hgr)
     clear hown hgr hnil
     go_wp2_with fail
     go_roundw
     case rel=>exact⟨0+1,v',us++[s[0]'hi],(-1),(-1),rfl,rfl,rfl,PW.out⟩
     case measure=>
      obtain⟨q',hq'⟩:=PW.out.rd
      rw[posOf_rd hq',HD.out.2.2.2.2.2];omega
    ·have hx45:x=45:=by rw[HD.out.2.1,h1];rfl
     have e1:((x:Int)==43)=false:=by rw[hx45];rfl
     have e2:((x:Int)==45)=true:=by rw[hx45];rfl
     clear h1 h46 hx45
     go_wp2_with fail
     refine RR.out.mono ?_
     rintro e w2 ⟨rfl,h3,h4⟩
     have he3:=HE.out w2 h4
     have HOW:=Lh (HWW.out w2 h4)
     have PU:=Lh (fun(v':Value) (w3:World) a1 a2=>HD.out.1.push' hi HD.out.2.1 H1.out.2 h4 h3 a1 a2 HD.out.2.2.1 (v':=v') (w3:=w3) (dg':=(-1)) (.inl ⟨rfl,rfl,H1.out.1⟩))
     clear h3 h4
     unfold eofV at he3 m2 m3 m4
     go_wp2_with (at_builtin;refine wpList_append_own _ rfl _ _ 79 rfl w.heap.size 5 i5 (.int .u8 0) 1 1 Tryz.underlying79 INF.1 INF.2.1 INF.2.2.1 INF.2.2.2 rfl (by decide) _ us.length (Lib.byteCells us) rfl HOW.out.1 ⟨w2.heap.size,0,none⟩ 1 1 [.int .u8 (x:Int)] rfl rfl (news_one HOW.out.2.1) (by intro u hu;rw[List.mem_singleton.1 hu];rfl) (by have:=HD.out.2.2.2.1;unfold maxLen;omega) (by have:=HD.out.2.2.2.1;omega) HOW.out.2.2 ?_;intro v' w3 hown hgr hnil)
     have PW:=Lh (PU.out v' w3 hown hgr)
     clear hown hgr hnil
     go_wp2_with fail
     go_roundw
     case rel=>exact⟨0+1,v',us++[s[0]'hi],(-1),(-1),rfl,rfl,rfl,PW.out⟩
     case measure=>
      obtain⟨q',hq'⟩:=PW.out.rd
      rw[posOf_rd hq',HD.out.2.2.2.2.2];omega
   ·have hxx:=HD.out.2.1
    have d1:((x:Int)==43)=false:=by simp;omega
    have d2:((x:Int)==45)=false:=by simp;omega
    have d3:((x:Int)==46)=false:=by simp;omega
    have d4:decide ((48:Int)≤(x:Int))=true:=by simp;omega
    have d5:decide ((x:Int)≤57)=true:=by simp;omega
    have h46:(s[i]'hi)≠46:=fun h=>by rw[h] at h1;exact absurd h1 (by decide)
    have H1:=Lh (Aj h1 h46)
    clear h1 h2 h46 hxx
    by_cases hg1:dg=-1
    ·subst hg1
     go_wp2_with fail
     refine RR.out.mono ?_
     rintro e w2 ⟨rfl,h3,h4⟩
     have he3:=HE.out w2 h4
     have HOW:=Lh (HWW.out w2 h4)
     have PU:=Lh (fun(v':Value) (w3:World) a1 a2=>HD.out.1.push' hi HD.out.2.1 H1.out.2 h4 h3 a1 a2 HD.out.2.2.1 (v':=v') (w3:=w3) (dg':=(us.length:Int)) (.inr (.inr ⟨by omega,H1.out.1⟩)))
     clear h3 h4
     unfold eofV at he3 m2 m3 m4
     go_wp2_with (at_builtin;refine wpList_append_own _ rfl _ _ 79 rfl w.heap.size 5 i5 (.int .u8 0) 1 1 Tryz.underlying79 INF.1 INF.2.1 INF.2.2.1 INF.2.2.2 rfl (by decide) _ (us).length (Lib.byteCells us) rfl HOW.out.1 ⟨w2.heap.size,0,none⟩ 1 1 [.int .u8 (x:Int)] rfl rfl (news_one HOW.out.2.1) (by intro u hu;rw[List.mem_singleton.1 hu];rfl) (by have:=HD.out.2.2.2.1;unfold maxLen;omega) (by have:=HD.out.2.2.2.1;omega) HOW.out.2.2 ?_;intro v' w3 hown hgr hnil)
     have PW:=Lh (PU.out v' w3 hown hgr)
     clear hown hgr hnil
     go_wp2_with fail
     go_roundw
     case rel=>exact⟨i+1,v',us++[s[i]'hi],dp,(us.length:Int),rfl,rfl,rfl,PW.out⟩
     case measure=>
      obtain⟨q',hq'⟩:=PW.out.rd
      rw[posOf_rd hq',HD.out.2.2.2.2.2];omega
    ·have hg2:(dg==-1)=false:=by simpa using hg1
     have HG:=Lh (show 0≤dg by rcases HC.out.2.2.2 with ⟨h,-⟩|⟨h,-⟩;exact absurd h hg1;exact h)
     clear hg1
     go_wp2_with fail
     refine RR.out.mono ?_
     rintro e w2 ⟨rfl,h3,h4⟩
     have he3:=HE.out w2 h4
     have HOW:=Lh (HWW.out w2 h4)
     have PU:=Lh (fun(v':Value) (w3:World) a1 a2=>HD.out.1.push' hi HD.out.2.1 H1.out.2 h4 h3 a1 a2 HD.out.2.2.1 (v':=v') (w3:=w3) (dg':=dg) (.inr (.inl ⟨HG.out,rfl⟩)))
     clear h3 h4
     unfold eofV at he3 m2 m3 m4
     go_wp2_with (at_builtin;refine wpList_append_own _ rfl _ _ 79 rfl w.heap.size 5 i5 (.int .u8 0) 1 1 Tryz.underlying79 INF.1 INF.2.1 INF.2.2.1 INF.2.2.2 rfl (by decide) _ (us).length (Lib.byteCells us) rfl HOW.out.1 ⟨w2.heap.size,0,none⟩ 1 1 [.int .u8 (x:Int)] rfl rfl (news_one HOW.out.2.1) (by intro u hu;rw[List.mem_singleton.1 hu];rfl) (by have:=HD.out.2.2.2.1;unfold maxLen;omega) (by have:=HD.out.2.2.2.1;omega) HOW.out.2.2 ?_;intro v' w3 hown hgr hnil)
     have PW:=Lh (PU.out v' w3 hown hgr)
     clear hown hgr hnil
     go_wp2_with fail
     go_roundw
     case rel=>exact⟨i+1,v',us++[s[i]'hi],dp,dg,rfl,rfl,rfl,PW.out⟩
     case measure=>
      obtain⟨q',hq'⟩:=PW.out.rd
      rw[posOf_rd hq',HD.out.2.2.2.2.2];omega
   ·obtain rfl:x=46:=by rw[HD.out.2.1,h1];rfl
    obtain rfl:dp=-1:=by
     rcases HC.out.2.1 with ⟨h3,-⟩|⟨P,Q,h3,-⟩
     ·exact h3
     ·rw[h3] at h2;simp at h2
    have H1:=Lh (Aj h1 h2)
    clear h1 h2
    go_wp2_with fail
    refine RR.out.mono ?_
    rintro e w2 ⟨rfl,h3,h4⟩
    have he3:=HE.out w2 h4
    have PW:=Lh (HD.out.1.dot hi H1.out.1 h4 h3 HD.out.2.2.1 H1.out.2)
    clear h3 h4
    unfold eofV at he3 m2 m3 m4
    go_wp2_with fail
    go_roundw
    case rel=>exact⟨i+1,_,us,us.length,dg,rfl,rfl,rfl,PW.out⟩
    case measure=>
     obtain⟨q',hq'⟩:=PW.out.rd
     rw[posOf_rd hq',HD.out.2.2.2.2.2];omega
  ·have hfin:=hD.fin H0.out.2.2.2.2.1 hi
   have RR:=Lh (readRune_end b i q s _ wr hrd hi he3 H0.out.2.2.2.1)
   have hbb:=H0.out.2.2.2.2.2.1
   have hne:=H0.out.2.2.2.2.2.2.1
   have hz2:∀w2,Mod [b] wr w2→IA w2 bz (some 0) 0 (.slice none 0 0):=fun w2 m=>H0.out.2.1.mod (hmod.trans m) (by simp[hne]) (by simp[sb])
   subst hv
   obtain⟨e1,e2,e3⟩:=hfin
   have tdg:(dg==-1)=false:=by simpa using e2
   have hDl:=H0.out.2.2.2.2.2.2.2.2
   have hk250:k≤250:=by
    have h1:=hD.us
    have h2:(nop (s.data.toList.take i)).length≤_:=List.length_filter_le _ _
    rw[←h1,List.length_take,e1] at h2
    have h3:s.data.toList.length=s.size:=rfl
    simp only[List.length_append] at h2;omega
   have HD:=Lh (Aj hD (Aj hz2 (Aj e1 (Aj hbb hne))))
   have FIN:∀w2,Mod [b] wr w2→Rd w2 b s (i:Int) (-1)→DsEnd w bz b s N k (.slice a us.length c) us (w2.setCell ⟨bz,2,none⟩ (.int .i32 (k:Int))):=fun w2 m hr n=>by
    refine⟨?_,?_⟩
    ·have h1:=HD.out.1.row.mod m (fun k hk=>by rw[List.mem_singleton.1 hk];exact hbb)
     have hzl:=H0.out.2.1.lt
     have h2:=h1.mod ((Mod.refl [bz] w2).setCell (p:=⟨bz,2,none⟩) (.int .i32 (k:Int)) (.inl (by simp))) (fun k hk=>by rw[List.mem_singleton.1 hk];exact hzl)
     exact(h2.drewN n).conv
    ·have hi3:=(HD.out.2.1 w2 m).setScale (k:Int)
     have hm4:Mod [bz,b] w ((w2.setCell ⟨bz,2,none⟩ (.int .i32 (k:Int))).drewN n):=(((HD.out.1.mod.trans m).mono (fun x hx=>.inl (by simp at hx;simp[hx]))).setCell _ (.inl (by simp))).drewN n
     have hn:=H0.out.2.2.2.2.1.numl
     rw[←e1,←H0.out.2.2.2.2.2.2.2.1] at hn
     have h3:=H0.out.2.2.2.1
     have h4:=H0.out.2.1.lo
     have hhw:=H0.out.1
     refine(int_setString bz be sg.length (some (k:Int)) ⟨us.toArray⟩ _ N _ (Nat.le_trans hhw hm4.size) (hi3.ia.drewN n) ((hm4.cell (p:=⟨3,0,none⟩) (World.block_lt_of_cell? w _ H0.out.2.2.1) (by simp;omega)).trans H0.out.2.2.1) hn).mono ?_
     rintro e w4 ⟨rfl,v',hr4⟩
     have hzs:∀q,q∈sb (.slice none 0 0)→False:=by simp[sb]
     refine⟨rfl,rfl,⟨v',hr4.ia,fun q hq=>(hr4.own q hq).elim (fun h=>(hzs q h).elim) (fun h=>Nat.le_trans hm4.size h)⟩,hm4.trans (hr4.mod.mono (fun x hx=>.inl (by simp[sb] at hx;simp[hx]))),-1,?_⟩
     have hle:=HD.out.1.le
     obtain rfl:i=s.size:=by omega
     exact Hd.mod (Hd.mod (Hd.mod hr ((Mod.refl [bz] w2).setCell (p:=⟨bz,2,none⟩) (.int .i32 (k:Int)) (.inl (by simp))) (by simp[hne.symm])) ((Mod.refl [] _).drewN n) (by simp)) hr4.mod (by simp[sb,hne.symm])
   have HF:=Lh FIN
   have HE3:=Lh e3
   clear hD hrd hmod he3 hm3 hvo hz2 e1 e2 e3 FIN hbb hne
   go_wp2_with fail
   refine RR.out.mono ?_
   rintro e w2 ⟨rfl,h3,h4⟩
   have he3:=HE.out w2 h4
   have HS:=Lh (dec_setScale' bz 0 k 0 _ w2 (HD.out.2.1 w2 h4))
   have HF2:=Lh (HF.out w2 h4 h3)
   clear h3 h4 HF
   unfold eofV at he3 m2 m3 m4 ⊢
   rcases HE3.out with ⟨rfl,hD0⟩|⟨hdp,hlen⟩
   ·obtain rfl:k=0:=by rw[hDl,hD0];rfl
    clear hDl hD0
    go_wp2_with fail
    refine HS.out.mono ?_
    rintro e w3 ⟨rfl,hw3⟩
    have HF3:=HF2.out
    rw[hw3] at HF3
    have hcv:=fun n=>(HF3 n).1
    have hc1:(convert 79 9 (.slice a us.length c)).run Tryz.prog w3.drew=.ok (.string ⟨us.toArray⟩) w3.drew:=hcv 1
    have CL:=Lh (fun n=>(HF3 n).2)
    clear HF3 hw3 HF2
    go_wp2_with fail
    go_region_law (first|(go_simp;go_at_call 70;refine(dec_unscaledBig bz _).mono ?_;rintro e w4 ⟨rfl,rfl⟩)|(go_simp;go_at_call 145;refine(CL.out _).mono ?_;rintro e w5 ⟨rfl,hr⟩;have HV:=Lh hr;clear hr))
    all_goals
     go_wp2_with fail
     go_ret2
     exact HV.out
   ·have tdp:decide ((0:Int)≤dp)=true:=by simpa using hdp
    have T1:=Lh<| show wrap64 ((us.length:Int)-dp)=(k:Int) from wrap64_eq (by omega) (by omega) (by omega)
    have T2:=Lh<| show wrap32 (k:Int)=(k:Int) by unfold wrap32;omega
    clear hlen hdp hDl hk250
    have t1:=T1.out
    have t2:=T2.out
    go_wp2_with fail
    refine HS.out.mono ?_
    rintro e w3 ⟨rfl,hw3⟩
    have HF3:=HF2.out
    rw[hw3] at HF3
    have hcv:=fun n=>(HF3 n).1
    have hc1:(convert 79 9 (.slice a us.length c)).run Tryz.prog w3.drew=.ok (.string ⟨us.toArray⟩) w3.drew:=hcv 1
    have CL:=Lh (fun n=>(HF3 n).2)
    clear HF3 hw3 HF2
    go_wp2_with fail
    go_region_law (first|(go_simp;go_at_call 70;refine(dec_unscaledBig bz _).mono ?_;rintro e w4 ⟨rfl,rfl⟩)|(go_simp;go_at_call 145;refine(CL.out _).mono ?_;rintro e w5 ⟨rfl,hr⟩;have HV:=Lh hr;clear hr))
    all_goals
     go_wp2_with fail
     go_ret2
     exact HV.out
end Go.Proofs.YtcpjclakdpjjfaaGreatDoor
