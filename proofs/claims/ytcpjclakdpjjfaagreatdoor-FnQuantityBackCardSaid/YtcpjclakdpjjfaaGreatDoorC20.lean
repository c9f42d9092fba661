/- Whole numbers written (bigall/nat. -/
import Derived.Test.YtcpjclakdpjjfaaGreatDoorC17
import Derived.Test.YtcpjclakdpjjfaaGreatDoorC09
import Derived.Test.YtcpjclakdpjjfaaGreatDoorC07
import Derived.Test.YtcpjclakdpjjfaaGreatDoorC06
import Derived.Laws.FloatArith
set_option maxHeartbeats 4000000
set_option maxRecDepth 20000
namespace Go.Proofs.YtcpjclakdpjjfaaGreatDoor
open Go.RowKit Wd
theorem or_up {x z:Nat} (hx:x<B) (hz:z≤x):∃y:Nat,bits BinOp.or IntKind.u64 (x:Int) (z:Int)=(y:Int)∧x≤y∧y<B:=by
 refine⟨x |||z,?_,Nat.left_le_or,?_⟩
 ·have h1:x<2^64:=by rw[B_eq] at hx;exact hx
  have h2:z<2^64:=by omega
  exact bits_or_u64_nat _ _ h1 h2
 ·have h1:x<2^64:=by rw[B_eq] at hx;exact hx
  have h2:z<2^64:=by omega
  rw[B_eq]
  exact Nat.or_lt_two_pow h1 h2
theorem or_dn {x:Nat} (d:Nat) (hx:x<B):∃y:Nat,bits BinOp.or IntKind.u64 (x:Int) ((x:Int)/(d:Int))=(y:Int)∧x≤y∧y<B:=by
 have h:=or_up hx (Nat.div_le_self x d)
 rwa [Int.natCast_ediv] at h
theorem or_dn2 {x:Nat} (d:Nat) (hx:x<B):∃y:Nat,bits BinOp.or IntKind.u64 (x:Int) ((x:Int)/(d:Int)/(d:Int))=(y:Int)∧x≤y∧y<B:=by
 have h:=or_up hx (Nat.le_trans (Nat.div_le_self (x/d) d) (Nat.div_le_self x d))
 rwa [Int.natCast_ediv,Int.natCast_ediv] at h
theorem lt_bitLen {x y:Nat} (hy:y<B) (h:x≤y):x<2^Lib.bitLen y∧Lib.bitLen y≤64:=by
 rcases Nat.eq_zero_or_pos y with rfl|h0
 ·have:x=0:=by omega
  subst this
  decide
 ·rw[bitLen_log2 (by omega) hy]
  have h1:Nat.log2 y<64:=(Nat.log2_lt (by omega)).2 (by rw[B_eq] at hy;exact hy)
  have h2:y<2^(Nat.log2 y+1):=Nat.lt_log2_self
  omega
def BlRet (n l:Nat) (w:World) (e:Ending) (w':World):Prop:=∃r:Nat,e=.returned (.int .i64 r)∧w=w'∧n<2^r∧r≤64*l
theorem bitLen_pos (b l c:Nat) (ws:List Nat) (w:World) (hb:Blk w b ws) (h0:0<l) (hl:l≤ws.length) (h8:l≤1000):
 Calls Tryz.prog 216 #[.slice (some ⟨b,0,none⟩) l c] w (BlRet (val (ws.take l)) l w):=by
 obtain⟨k,rfl⟩:∃k,l=k+1:=⟨l-1,by omega⟩
 have hv:=val_take_succ ws k (by omega)
 have hlow:=val_lt (xs:=ws.take k) (fun x hx=>hb.wl x (List.mem_of_mem_take hx))
 rw[List.length_take,Nat.min_eq_left (by omega)] at hlow
 have r1:=hb.cell (i:=k) (by omega)
 have hxe:ws[k]'(by omega)=wat ws k:=by simp[wat,List.getD_eq_getElem?_getD,List.getElem?_eq_getElem (show k<ws.length by omega)]
 have hx0:=hb.wl _ (List.getElem_mem (show k<ws.length by omega))
 rw[hxe] at hv hx0
 generalize hx:wat ws k=x at*
 obtain⟨y1,e1,l1,b1⟩:∃y:Nat,bits BinOp.or IntKind.u64 (x:Int) ((x:Int)/2)=(y:Int)∧x≤y∧y<B:=or_dn 2 hx0
 obtain⟨y2,e2,l2,b2⟩:∃y:Nat,bits BinOp.or IntKind.u64 (y1:Int) ((y1:Int)/4)=(y:Int)∧y1≤y∧y<B:=or_dn 4 b1
 obtain⟨y3,e3,l3,b3⟩:∃y:Nat,bits BinOp.or IntKind.u64 (y2:Int) ((y2:Int)/16)=(y:Int)∧y2≤y∧y<B:=or_dn 16 b2
 obtain⟨y4,e4,l4,b4⟩:∃y:Nat,bits BinOp.or IntKind.u64 (y3:Int) ((y3:Int)/256)=(y:Int)∧y3≤y∧y<B:=or_dn 256 b3
 obtain⟨y5,e5,l5,b5⟩:∃y:Nat,bits BinOp.or IntKind.u64 (y4:Int) ((y4:Int)/65536)=(y:Int)∧y4≤y∧y<B:=or_dn 65536 b4
 obtain⟨y6,e6,l6,b6⟩:∃y:Nat,bits BinOp.or IntKind.u64 (y5:Int) ((y5:Int)/65536/65536)=(y:Int)∧y5≤y∧y<B:=or_dn2 65536 b5
 obtain⟨hb1,hb2⟩:=lt_bitLen b6 (show x≤y6 by omega)
 obtain⟨L,hL⟩:∃L,Lib.bitLen y6=L:=⟨_,rfl⟩
 have L1:=Tryz.bits_Len (y6:Int) w (by omega) (by rw[B_eq] at b6;omega)
 rw[Int.toNat_natCast,hL] at L1
 rw[hL] at hb1 hb2
 have L1:=Lh L1
 have HN:=Lh (Aj hv (Aj hlow (Aj hb1 hb2)))
 have hb3:(L:Int)≤64:=by omega
 have hb4:(0:Int)≤L:=by omega
 clear hL hv hlow hb1 hb2 l1 l2 l3 l4 l5 l6 b1 b2 b3 b4 b5 b6 hx0 hx hxe
 go_enter Tryz.func216,Tryz.ntmps216
 go_wp2_with fail
 refine L1.out.mono ?_
 rintro e w' ⟨rfl,hw⟩
 subst hw
 go_wp2_with fail
 go_ret
 obtain⟨hv,hlow,hb1,hb2⟩:=HN.out
 refine⟨k*64+L,by go_num,rfl,?_,by omega⟩
 rw[hv,Nat.pow_add]
 have hB:B^k=2^(k*64):=by rw[show B=2^64 by rw[B_eq],←Nat.pow_mul,Nat.mul_comm]
 rw[←hB]
 calc val (ws.take k)+B^k*x<B^k+B^k*x:=by omega
  _=B^k*(x+1):=by rw[Nat.mul_succ,Nat.add_comm]
  _≤B^k*2^L:=Nat.mul_le_mul_left _ hb1
theorem divisors_calls (s m:Nat) (w:World) (he:Env w) (hm:m≤8):Calls Tryz.prog 220 #[.pointer (some ⟨s,0,none⟩),.int .i64 m,.int .u64 10,.int .i64 19,.int .u64 10000000000000000000] w fun e w'=>e=.returned (.slice none 0 0)∧w=w':=by
 have g:=he.g12
 have t:decide ((m:Int)≤8)=true:=by simp;omega
 go_enter Tryz.func220,Tryz.ntmps220
 go_wp2_with fail
 go_ret
 exact⟨rfl,rfl⟩
end Go.Proofs.YtcpjclakdpjjfaaGreatDoor
namespace Go.Proofs.YtcpjclakdpjjfaaGreatDoor
open Go.RowKit Wd Dg
def bc (ds:List Nat):Array Value:=(ds.map fun n:Nat=>Value.int .u8 (n:Int)).toArray
structure Byt (w:World) (b:Nat) (ds:List Nat):Prop where
 heap:w.heap[b]?=some (.cells (bc ds) 5 (0,0))
 bl:∀x,x∈ds→x<256
 cap:ds.length≤1000000
theorem Byt.lt {w:World} {b:Nat} {ds:List Nat} (h:Byt w b ds):b<w.heap.size:=lt_of_block h.heap
theorem Byt.mod {S:List Nat} {w w':World} {b:Nat} {ds:List Nat} (h:Byt w b ds) (m:Mod S w w') (hb:b∉S):Byt w' b ds:=
 ⟨(m.block b h.lt hb).trans h.heap,h.bl,h.cap⟩
theorem Byt.cell {w:World} {b:Nat} {ds:List Nat} (h:Byt w b ds) {i:Nat} (hi:i<ds.length):w.cell? ⟨b,i,none⟩=some (.int .u8 (wat ds i:Nat)):=by
 simp[World.cell?,h.heap,bc,wat,List.getD_eq_getElem?_getD,List.getElem?_eq_getElem hi]
theorem Byt.free {w:World} {b:Nat} {ds:List Nat} (h:Byt w b ds) (i:Nat):w.frozen? ⟨b,i,none⟩=false:=by
 simp[World.frozen?,h.heap]
theorem Byt.set {w:World} {b:Nat} {ds:List Nat} (h:Byt w b ds) (i:Nat) {x:Nat} (hx:x<256):Byt (w.setCell ⟨b,i,none⟩ (.int .u8 (x:Int))) b (ds.set i x):=by
 refine⟨?_,fun y hy=>?_,by rw[List.length_set];exact h.cap⟩
 ·rw[heap_setCell_same h.heap]
  simp[bc,List.map_set]
 ·rcases List.mem_or_eq_of_mem_set hy with h1|h1
  ·exact h.bl y h1
  ·rw[h1];exact hx
theorem Byt.ne_blk {w:World} {b c:Nat} {ds ws:List Nat} (h:Byt w b ds) (k:Blk w c ws):b≠c:=fun e=>by
 subst e
 have:=h.heap.symm.trans k.heap
 simp at this
theorem Byt.not_sb {w:World} {b:Nat} {ds:List Nat} {v:Value} (h:Byt w b ds) (hv:Zs w v):b∉sb v:=by
 rcases hv with rfl|⟨c,l,ws,rfl,k,_⟩
 ·simp[sb]
 ·simp only[sb,List.mem_singleton];exact h.ne_blk k
def pd:Nat→Nat→List Nat
 |0,_=>[]
 |c+1,n=>(48+n/10^c%10)::pd c n
theorem drop_set {l:List Nat} {k:Nat} (h:k<l.length) (x:Nat):(l.set k x).drop k=x::l.drop (k+1):=by
 rw[List.drop_eq_getElem_cons (by simpa using h),List.getElem_set_self,List.drop_set_of_lt (by omega)]
structure CW (w0:World) (n i bs:Nat) (p c:Nat) (wr:World):Prop where
 mod:Mod [bs] w0 wr
 row:∃ds,Byt wr bs ds∧ds.length=i∧ds.drop p=pd c n
 le:p+c=i
theorem CW.put {w0:World} {n i bs p c:Nat} {wr:World} (h:CW w0 n i bs (p+1) c wr) {x:Nat} (hx:x=48+n/10^c%10):CW w0 n i bs p (c+1) (wr.setCell ⟨bs,p,none⟩ (.int .u8 (x:Int))):=by
 obtain⟨ds,h1,h2,h3⟩:=h.row
 have hle:=h.le
 refine⟨h.mod.setCell _ (.inl (by simp)),⟨ds.set p x,h1.set p (by omega),by rw[List.length_set];exact h2,?_⟩,by omega⟩
 rw[drop_set (by omega),h3,hx];rfl
theorem CW.step {w0:World} {n i bs p c:Nat} {wr w':World} {v:Value} {m:Nat} (h:CW w0 n i bs p c wr) {q:Value} (hq:Zs wr q) (hf:∀k,k∈sb q→w0.heap.size≤k) (r:NRes wr q m v w'):CW w0 n i bs p c w'∧(∀k,k∈sb v→w0.heap.size≤k):=by
 obtain⟨ds,h1,h2,h3⟩:=h.row
 refine⟨⟨h.mod.step r.mod (fun k hk=>.inr (hf k hk)),⟨ds,h1.mod r.mod (h1.not_sb hq),h2,h3⟩,h.le⟩,fun k hk=>?_⟩
 rcases r.own k hk with h4|h4
 ·exact hf k h4
 ·exact Nat.le_trans h.mod.size h4
theorem dig_step (n c j:Nat) (hj:j<19):n/10^c%10^19/10^j%10=n/10^(c+j)%10:=by
 have e:(10:Nat)^19=10^j*10^(19-j):=by rw[←Nat.pow_add];congr 1;omega
 rw[e,Nat.mod_mul_right_div_self,Nat.mod_mod_of_dvd,Nat.div_div_eq_div_mul,←Nat.pow_add]
 exact Nat.dvd_trans (by decide) (Nat.pow_dvd_pow 10 (show 1≤19-j by omega))
theorem convert_calls (w0:World) (n i bs ci s:Nat) (q:Value) (w:World) (hm:Mod [bs] w0 w) (hq:Nv w q n) (hqf:∀k,k∈sb q→w0.heap.size≤k) (hrow:∃ds,Byt w bs ds∧ds.length=i) (hn:n<10^i) (hnB:n<Big) (hi:i≤100000) (hci:i≤ci):
 Calls Tryz.prog 221 #[q,.pointer (some ⟨s,0,none⟩),.slice (some ⟨bs,0,none⟩) i ci,.int .u64 10,.int .i64 19,.int .u64 10000000000000000000,.slice none 0 0] w fun e w'=>e=.returned (.tuple #[])∧CW w0 n i bs 0 i w':=by
 have h0:CW w0 n i bs i 0 w:=by
  obtain⟨ds,h1,h2⟩:=hrow
  exact⟨hm,⟨ds,h1,h2,by rw[←h2,List.drop_length];rfl⟩,by omega⟩
 have H0:=Lh (Aj h0 (Aj hq (Aj hqf (Aj hn hnB))))
 clear hm hq hqf hrow h0 hn hnB
 go_enter Tryz.func221,Tryz.ntmps221
 go_upto_block 4 with fail
 go_wp2_with fail
 go_loopw [0,19] (fun q0 t19 wr=>∃(q:Value) (p c:Nat),q=q0∧t19=.int .i64 p∧CW w0 n i bs p c wr∧Nv wr q (n/10^c)∧(∀k,k∈sb q→w0.heap.size≤k)) (fun _ t19 _=>(intOf t19).toNat)
 case atStart=>exact⟨_,i,0,rfl,rfl,H0.out.1,by simpa using H0.out.2.1,H0.out.2.2.1⟩
 case round=>
  obtain⟨q,p,c,rfl,rfl,hcw,hq,hqf⟩:=hrel
  obtain⟨a,l,cc,rfl,hl,hlc,hlm⟩:=hq.len
  by_cases hz:n/10^c=0
  ·have t1:decide ((0:Int)<(l:Int))=false:=by simp;omega
   have t1':decide (0<l)=false:=by simp;omega
   have HC:=Lh (Aj hcw hz)
   clear hcw hq hqf hl hz
   go_wp2_with fail
   go_loopw [19] (fun t19 wr=>∃p c:Nat,t19=.int .i64 p∧CW w0 n i bs p c wr∧n/10^c=0) (fun t19 _=>(intOf t19).toNat)
   case atStart=>exact⟨p,c,rfl,HC.out.1,HC.out.2⟩
   case round=>
    obtain⟨p,c,rfl,hcw,hz⟩:=hrel
    rcases Nat.eq_zero_or_pos p with rfl|hp
    ·have F:=Lh hcw
     clear hcw hz
     go_wp2_with fail
     refine bodyPost_end (results_none rfl _ _ _) rfl ?_
     have hF:=F.out
     have:c=i:=by have:=hF.le;omega
     subst this
     exact⟨rfl,hF⟩
    ·obtain⟨p,rfl⟩:∃p',p=p'+1:=⟨p-1,by omega⟩
     have hle:=hcw.le
     have tp:decide ((0:Int)<((p+1:Nat):Int))=true:=by simp
     obtain⟨ds,h1,h2,h3⟩:=hcw.row
     have fr:=h1.free p
     have cl:=h1.cell (i:=p) (by omega)
     have HC2:=Lh (Aj hcw hz)
     have u1:(p:Int)<i:=by omega
     clear hcw hz h1 h2 h3
     go_wp2_with fail
     go_roundw
     case rel=>
      refine⟨p,c+1,by go_num,?_,?_⟩
      ·have:=HC2.out.1.put (x:=48) (by rw[HC2.out.2])
       exact this
      ·rw[Nat.pow_succ,←Nat.div_div_eq_div_mul,HC2.out.2,Nat.zero_div]
     case measure=>simp[intOf]<;>omega
  ·have t1:decide ((0:Int)<(l:Int))=true:=by simp;omega
   have t1':decide (0<l)=true:=by simp;omega
   have hp0:0<p:=Nat.pos_of_ne_zero (fun h=>hz (by
    have:=hcw.le
    rw[h,Nat.zero_add] at this
    rw[this];exact Nat.div_eq_of_lt H0.out.2.2.2.1))
   have D:=Lh (divW_calls (.slice a l cc) (.slice a l cc) (n/10^c) 10000000000000000000 wr hq.zs hq (Nat.lt_of_le_of_lt (Nat.div_le_self _ _) H0.out.2.2.2.2) (by rw[B_eq];decide) (by decide))
   have HC:=Lh (Aj hcw (Aj hq.zs hqf))
   clear hcw hq hqf hl hz
   go_wp2_with fail
   refine D.out.mono ?_
   rintro e w1 ⟨v,rfl,hr⟩
   have hcs:=HC.out.1.step HC.out.2.1 HC.out.2.2 hr
   have HR:=Lh (Aj hr.nv hcs)
   clear hr hcs D
   go_wp2_with fail
   go_loopw [19,20,21] (fun t19 t20 t21 wr=>∃p' j x:Nat,t19=.int .i64 p'∧t21=.int .i64 j∧t20=.int .u64 x∧x=n/10^c%10^19/10^j∧j≤19∧p'+j=p∧CW w0 n i bs p' (c+j) wr∧Nv wr v (n/10^c/10000000000000000000)) (fun t19 _ _ _=>(intOf t19).toNat)
   case atStart=>exact⟨p,0,_,rfl,rfl,rfl,by simp,by decide,rfl,HR.out.2.1,HR.out.1⟩
   case round=>
    obtain⟨p',j,x,rfl,rfl,rfl,hx,hj,hpj,hcw,hnv⟩:=hrel
    have hfin:(j=19∨p'=0)→n/10^c/10000000000000000000=n/10^(c+j):=fun h=>by
     rcases h with rfl|rfl
     ·rw[Nat.div_div_eq_div_mul,Nat.pow_add]
     ·have hci:=hcw.le
      rw[Nat.zero_add] at hci
      rw[hci,Nat.div_eq_of_lt H0.out.2.2.2.1,Nat.div_div_eq_div_mul]
      refine Nat.div_eq_of_lt (Nat.lt_of_lt_of_le H0.out.2.2.2.1 ?_)
      rw[←hci,Nat.pow_add]
      exact Nat.mul_le_mul_left _ (Nat.pow_le_pow_right (by decide) hj)
    rcases Nat.lt_or_ge j 19 with hj19|hj19
    ·have tj:decide ((j:Int)<19)=true:=by simp;omega
     rcases Nat.eq_zero_or_pos p' with rfl|hp
     ·have F:=Lh (Aj hcw (Aj (hfin (.inr rfl)) hnv))
      clear hcw hnv hfin hx
      go_wp2_with fail
      go_roundw
      case rel=>exact⟨v,0,c+j,rfl,rfl,F.out.1,by rw[←F.out.2.1];exact F.out.2.2,HR.out.2.2⟩
      case measure=>simp[intOf]<;>omega
     ·obtain⟨p',rfl⟩:∃p2,p'=p2+1:=⟨p'-1,by omega⟩
      have hle:=hcw.le
      have tp:decide ((0:Int)<((p'+1:Nat):Int))=true:=by simp
      obtain⟨ds,h1,h2,h3⟩:=hcw.row
      have fr:=h1.free p'
      have cl:=h1.cell (i:=p') (by omega)
      have hxl:x<B:=by
       rw[hx,B_eq]
       exact Nat.lt_of_le_of_lt (Nat.div_le_self _ _) (Nat.lt_trans (Nat.mod_lt _ (by decide)) (by decide))
      obtain⟨qx,hqx⟩:∃qx,x/10=qx:=⟨_,rfl⟩
      obtain⟨d,hd⟩:∃d,x%10=d:=⟨_,rfl⟩
      have hxd:x=10*qx+d:=by omega
      have hd9:d≤9:=by omega
      rw[B_eq] at hxl
      have f0:(x:Int)/10=(qx:Int):=by omega
      have f1:IntKind.u64.wrap ((qx:Int)*10)=(((qx*10:Nat)):Int):=by rw[←u64_nat (n:=qx*10) (by rw[B_eq];omega)];rfl
      have f2:IntKind.u64.wrap ((x:Int)-((qx*10:Nat):Int))=(d:Int):=by rw[show (x:Int)-((qx*10:Nat):Int)=(d:Int) by omega];exact u64_nat (by rw[B_eq];omega)
      have f3:IntKind.u8.wrap (d:Int)=(d:Int):=by rw[IntKind.wrap_u8];omega
      have f4:IntKind.u8.wrap (48+(d:Int))=((48+d:Nat):Int):=by rw[IntKind.wrap_u8];omega
      have HC2:=Lh (Aj hcw (Aj hnv (Aj (Aj hqx hd) hx)))
      have HB:=Lh (Aj h1 h2)
      have HX:=Lh hxd
      have u1:(p':Int)<i:=by omega
      have u2:(p':Int)+1≤i:=by omega
      have f5:=u64_nat (n:=qx) (by rw[B_eq];omega)
      clear hcw hnv h1 h2 h3 hfin hx hxd hqx hd hle hxl
      go_wp2_with fail
      go_roundw
      case rel=>
       obtain⟨k1,k2,⟨k3,k4⟩,k5⟩:=HC2.out
       refine⟨p',j+1,qx,by go_num,by go_num,rfl,?_,by omega,by omega,?_,?_⟩
       ·rw[←k3,k5,Nat.div_div_eq_div_mul,←Nat.pow_succ]
       ·have h8:=k1.put (x:=48+d) (by rw[←k4,k5,dig_step n c j hj19])
        have e8:(48:Int)+((x:Int)-(qx:Int)*10)=((48+d:Nat):Int):=by have:=HX.out;omega
        rw[e8]
        exact h8
       ·exact k2.mod (((Mod.refl [bs] wr).setCell _ (.inl (by simp)))) (fun k hk h=>by
         rw[List.mem_singleton.1 h] at hk
         exact HB.out.1.not_sb k2.zs hk)
      case measure=>simp[intOf]<;>omega
    ·obtain rfl:j=19:=by omega
     have F:=Lh (Aj hcw (Aj (hfin (.inl rfl)) hnv))
     clear hcw hnv hfin hx
     go_wp2_with fail
     go_roundw
     case rel=>exact⟨v,p',c+19,rfl,rfl,F.out.1,by rw[←F.out.2.1];exact F.out.2.2,HR.out.2.2⟩
     case measure=>simp[intOf]<;>omega
end Go.Proofs.YtcpjclakdpjjfaaGreatDoor
namespace Go.Proofs.YtcpjclakdpjjfaaGreatDoor
open Go.RowKit Wd Dg
theorem info5z:(Tryz.prog.info? 5).map (fun i=>(i.zero,i.size,i.bytes))=some (some (.int .u8 0),1,1):=by kernel_rfl
theorem make_bytes (w:World) (l:Nat) (hl:l≤1000000):
 ∃w1,(Instr.makeSlice 79 (.int .i64 (l:Int)) (.int .i64 (l:Int))).run Tryz.prog w=.ok (.slice (some ⟨w.heap.size,0,none⟩) l l) w1∧Byt w1 w.heap.size (List.replicate l 0)∧Mod [] w w1:=by
 obtain⟨i,hi,hz⟩:=Option.map_eq_some_iff.1 info5z
 simp only[Prod.mk.injEq] at hz
 obtain⟨h1,h2,h3⟩:=hz
 have key:=run_make w 79 5 i (.int .u8 0) Tryz.underlying79 hi h1 .i64 .i64 l l (by omega) (by omega) (by rw[h3];omega) (by omega)
 simp only[Int.toNat_natCast,h2,Nat.mul_one] at key
 have e:madeCells (Value.int .u8 0).cells l=bc (List.replicate l 0):=by
  apply Array.ext
  ·simp[madeCells,bc]
  ·intro i h1 h2
   simp[madeCells,bc,Value.cells,Nat.mod_one]
 rw[e] at key
 refine⟨_,key,⟨?_,fun x hx=>by rw[List.eq_of_mem_replicate hx];decide,by rw[List.length_replicate];exact hl⟩,(Mod.refl [] w).alloc _⟩
 show (w.heap.push _)[w.heap.size]?=_
 simp
def szOk (r:Nat):Bool:=match floatBits .quo .f64 (floatOfInt .f64 (r:Int)) 4614662735865160561 with
 |some y=>match floatToIntVal .f64 y .i64 with
  |some n=>decide (0≤n) && decide (n≤200) && decide (2^r≤10^(n.toNat+1))
  |none=>false
 |none=>false
theorem szOk_all:(List.range 513).all szOk=true:=by decide+kernel
theorem sz_of (r:Nat) (hr:r≤512):∃y n:Nat,floatBits .quo .f64 (floatOfInt .f64 (r:Int)) 4614662735865160561=some y∧floatToIntVal .f64 y .i64=some (n:Int)∧n≤200∧2^r≤10^(n+1):=by
 have h:=List.all_eq_true.1 szOk_all r (List.mem_range.2 (by omega))
 unfold szOk at h
 split at h
 ·rename_i y hy
  split at h
  ·rename_i n hn
   simp only[Bool.and_eq_true,decide_eq_true_eq] at h
   obtain⟨m,rfl⟩:=Int.eq_ofNat_of_zero_le h.1.1
   exact⟨y,m,hy,hn,by omega,by simpa using h.2⟩
  ·cases h
 ·cases h
theorem cv10 (w:World):(convert 3 311 (.int .i64 10)).run Tryz.prog w=.ok (.float .f64 4621819117588971520) w:=by kernel_rfl
theorem pd_eq (i n:Nat):pd i n=(pd i n).map id∧∃l:List Nat,pd i n=l.map (48+·)∧AD l∧l.length=i∧dv l=n%10^i:=by
 refine⟨by simp,?_⟩
 induction i with
 |zero=>exact⟨[],rfl,AD.nil,rfl,by simp[dv_nil,Nat.mod_one]⟩
 |succ c ih=>
  obtain⟨l,h1,h2,h3,h4⟩:=ih
  refine⟨n/10^c%10::l,by simp[pd,h1],h2.cons (by omega),by simp[h3],?_⟩
  rw[dv_cons,h3,h4,Nat.pow_succ,Nat.mod_mul,Nat.add_comm,Nat.mul_comm]
theorem pd_split {i n:Nat} (h:n<10^i) (h0:n≠0):∃z,z+(dg n).length=i∧pd i n=List.replicate z 48++(dg n).map (48+·):=by
 have hi:0<i:=Nat.pos_of_ne_zero (fun e=>by subst e;simp at h;exact h0 h)
 have hl:=dg_length_le hi h
 refine⟨i-(dg n).length,by omega,?_⟩
 obtain⟨-,l,h1,h2,h3,h4⟩:=pd_eq i n
 have e:l=List.replicate (i-(dg n).length) 0++dg n:=dv_inj h2 ((AD.zeros _).append (dg_AD n)) (by simp;omega) (by rw[h4,dv_strip,dv_dg,Nat.mod_eq_of_lt h])
 rw[h1,e];simp
def itx (neg:Bool) (n:Nat):List Nat:=(if neg then [45] else [])++(dg n).map (48+·)
def ItRet (neg:Bool) (n:Nat) (w:World) (e:Ending) (w':World):Prop:=
 ∃(bs o l c:Nat) (ds:List Nat),e=.returned (.slice (some ⟨bs,o,none⟩) l c)∧Byt w' bs ds∧ds.drop o=itx neg n∧o+l=ds.length∧l≤c∧Mod [] w w'
theorem wat_rep {z k x:Nat} {r:List Nat} (h:k<z):wat (List.replicate z x++r) k=x:=by
 simp[wat,List.getD_eq_getElem?_getD,List.getElem?_append_left (show k<(List.replicate z x).length by simpa using h),h]
theorem wat_at {z x d:Nat} {r:List Nat}:wat (List.replicate z x++d::r) z=d:=by
 simp[wat,List.getD_eq_getElem?_getD]
theorem itoa_pos (b l:Nat) (ws:List Nat) (neg:Bool) (w:World) (he:Env w) (hb:Blk w b ws) (h0:0<l) (hl:l≤ws.length) (h8:l≤8) (hv0:val (ws.take l)≠0) (hnv:Nv w (.slice (some ⟨b,0,none⟩) l ws.length) (val (ws.take l))) (hvB:val (ws.take l)<Big):
 Calls Tryz.prog 197 #[.slice (some ⟨b,0,none⟩) l ws.length,.bool neg,.int .i64 10] w (ItRet neg (val (ws.take l)) w):=by
 have t0:((l:Int)==0)=false:=by simp;omega
 have BL:=Lh (bitLen_pos b l ws.length ws w hb h0 hl (by omega))
 have L2:=Lh log2_calls
 have H0:=Lh (Aj he (Aj hv0 (Aj hnv hvB)))
 generalize hn:val (ws.take l)=n at*
 clear he hv0 hnv hvB hn hb
 go_enter_defers Tryz.func197,Tryz.ntmps197
 go_wp2_with fail
 refine BL.out.mono ?_
 rintro e w1 ⟨r,rfl,rfl,hr1,hr2⟩
 have hr3:(r:Int)≤512:=by omega
 obtain⟨y,n1,hy1,hy2,hy3,hy4⟩:=sz_of r (by omega)
 have hq:∀w,(binOp .quo 311 (.float .f64 (floatOfInt .f64 (r:Int))) (.float .f64 4614662735865160561)).run Tryz.prog w=.ok (.float .f64 y) w:=fun w=>run_float_arith w .quo 311 .f64 _ _ y hy1
 have hc:∀w,(convert 311 3 (.float .f64 y)).run Tryz.prog w=.ok (.int .i64 (n1:Int)) w:=fun w=>run_convert_float_int w 311 3 .f64 .i64 y n1 (by rw[Tryz.underlying311];rfl) Tryz.underlying3 hy2
 have hn10:=Nat.lt_of_lt_of_le hr1 hy4
 have HN:=Lh hn10
 have cv:=cv10
 clear BL hr1 hr2 hr3 hy1 hy2 hy4 hn10
 go_wp2_with fail
 refine(L2.out _).mono ?_
 rintro e w2 ⟨rfl,rfl⟩
 clear cv
 obtain⟨i,hi⟩:∃i:Nat,i=n1+1+(if neg then 1 else 0):=⟨_,rfl⟩
 go_upto_if 41 with fail
 go_cut [7] from 42 to 43 (fun t7 wx=>t7=.int .i64 (i:Int)∧w=wx)
 case first=>
  cases neg
  ·go_wp2_with fail
   go_meet
   exact⟨by rw[hi];simp,rfl⟩
  ·go_wp2_with fail
   go_meet
   exact⟨by rw[hi];simp,rfl⟩
 case rest=>
  obtain⟨rfl,rfl⟩:=hcut
  have hile:i≤300:=by rw[hi];split<;>omega
  obtain⟨w1,hrun,hby,hm1⟩:=make_bytes w i (by omega)
  have hbits:bits BinOp.and .u64 10 (IntKind.u64.wrap (-10))=2:=by decide+kernel
  have H1:=Lh (Aj hby hm1)
  have HI:=Lh hi
  clear hby hm1 hi
  go_wp2_with fail
  refine(getStack_calls _).mono ?_
  rintro e' w2 ⟨s,rfl,hst,hm2,hsz⟩
  have hm02:=H1.out.2.trans hm2
  have HS:=Lh (Aj hst (Aj hm2 (Aj hsz hm02)))
  have he2:=H0.out.1.mod hm02 (by simp)
  have DV:=Lh (divisors_calls s l w2 he2 h8)
  have SC:=Lh (set_calls (.slice none 0 0) (.slice (some ⟨b,0,none⟩) l ws.length) n w2 (Zs.nil _) (H0.out.2.2.1.mod hm02 (by simp)) H0.out.2.2.2)
  clear hst hm2 hsz hm02 he2
  go_wp2_with fail
  refine(maxPow_calls _).mono ?_
  rintro e' w3 ⟨rfl,rfl⟩
  go_wp2_with fail
  refine DV.out.mono ?_
  rintro e' w3 ⟨rfl,rfl⟩
  go_wp2_with fail
  refine SC.out.mono ?_
  rintro e' w3 ⟨q,rfl,hq3⟩
  have hbs:w.heap.size<w1.heap.size:=by have:=H1.out.1.lt;exact this
  have hcv:=convert_calls w2 n i w.heap.size i s q w3 (hq3.mod.mono (by simp[sb])) hq3.nv (fun k hk=>(hq3.own k hk).elim (fun h=>by simp[sb] at h) id) ⟨_,(H1.out.1.mod HS.out.2.1 (by simp)).mod hq3.mod (by simp[sb]),by simp⟩
   (Nat.lt_of_lt_of_le HN.out (Nat.pow_le_pow_right (by decide) (by rw[HI.out];omega))) H0.out.2.2.2 (by omega) (Nat.le_refl _)
  have CV:=Lh hcv
  have HB:=Lh hbs
  clear hcv hbs hq3 DV SC
  go_wp2_with fail
  refine CV.out.mono ?_
  rintro e' w4 ⟨rfl,hcw⟩
  obtain⟨ds,d1,d2,d3⟩:=hcw.row
  rw[List.drop_zero] at d3
  obtain⟨z,z1,z2⟩:=pd_split (i:=i) (n:=n) (Nat.lt_of_lt_of_le HN.out (Nat.pow_le_pow_right (by decide) (by rw[HI.out];omega))) H0.out.2.1
  obtain⟨dh,dt,g1,g2⟩:=dg_head H0.out.2.1
  have hdl:=dg_length_le (show 0<n1+1 by omega) HN.out
  have g3:dh≤9:=dg_AD n dh (by rw[g1];exact List.mem_cons_self ..)
  rw[g1,List.map_cons] at z2
  have a1:∀k,k<z→w4.cell? ⟨w.heap.size,k,none⟩=some (.int .u8 48):=fun k hk=>by
   have:=d1.cell (i:=k) (by omega)
   rw[d3,z2,wat_rep hk] at this
   exact this
  have a2:w4.cell? ⟨w.heap.size,z,none⟩=some (.int .u8 ((48+dh:Nat):Int)):=by
   have:=d1.cell (i:=z) (by rw[d2,←z1,g1];simp)
   rw[d3,z2,wat_at] at this
   exact this
  have fr:=d1.free
  have hzi:z<i:=by rw[←z1,g1];simp
  have hng:neg=true→1≤z:=fun h=>by
   have:=HI.out
   rw[h] at this
   simp at this
   omega
  have HD:=Lh (Aj hcw (Aj d1 (Aj d2 (Aj d3 (Aj z1 (Aj z2 g1))))))
  clear hcw d1 d2 d3 z1 z2 g1 hdl CV
  go_wp2_with fail
  go_loop [7] (fun t7=>∃k:Nat,k≤z∧t7=.int .i64 k) (fun t7=>z-(intOf t7).toNat)
  case atStart=>exact⟨0,Nat.zero_le _,rfl⟩
  case round=>
   obtain⟨k,hk,rfl⟩:=hrel
   rcases Nat.lt_or_ge k z with hkz|hkz
   ·have r1:=a1 k hkz
    clear a1 a2
    go_wp2_with fail
    go_round
    case rel=>exact⟨k+1,by omega,by go_num⟩
    case measure=>simp[intOf];omega
   ·obtain rfl:k=z:=by omega
    have t5:(((48+dh:Nat):Int)==48)=false:=by simp;omega
    clear a1
    have hsb:s∉[w.heap.size]:=by
     simp only[List.mem_singleton]
     have:=HB.out
     have:=HS.out.2.2.1
     omega
    have hst4:Stk w4 s 0 s [s]:=HS.out.1.mod HD.out.1.mod (fun j hj=>by rw[List.mem_singleton.1 hj];exact hsb)
    have hm4:Mod [] w w4:=HS.out.2.2.2.step HD.out.1.mod (fun j hj=>.inr (by rw[List.mem_singleton.1 hj];exact Nat.le_refl _))
    have hsw:w.heap.size≤s:=by have:=HB.out;have:=HS.out.2.2.1;omega
    have HF:=Lh (Aj hst4 (Aj hm4 (Aj hsb hsw)))
    clear hst4 hm4 hsb hsw
    cases neg
    ·go_wp2_with fail
     refine leaves_cons (f:=177) (args:=#[.pointer (some ⟨s,0,none⟩)]) (by simp) (by simp[go_sem]) ?_
     refine(free_calls w4 s 0 s [s] HF.out.1 .returning).mono ?_
     rintro e u' w5 ⟨rfl,rfl,hm5⟩
     refine⟨_,results_tmp rfl _ _ _,w.heap.size,k,i-k,i-k,ds,rfl,HD.out.2.1.mod hm5 (fun h=>HF.out.2.2.1 (by rw[List.mem_singleton.1 h];simp)),?_,by rw[HD.out.2.2.1];omega,Nat.le_refl _,HF.out.2.1.step hm5 (fun j hj=>.inr (by rw[List.mem_singleton.1 hj];exact HF.out.2.2.2))⟩
     rw[HD.out.2.2.2.1,HD.out.2.2.2.2.2.1,List.drop_left' (by simp)]
     simp[itx,HD.out.2.2.2.2.2.2]
    ·obtain⟨k',rfl⟩:∃k',k=k'+1:=⟨k-1,by have:=hng rfl;omega⟩
     have e1:((k'+1:Nat):Int)-1=(k':Int):=by omega
     have cl:=HD.out.2.1.cell (i:=k') (by rw[HD.out.2.2.1];omega)
     have fr1:=fr k'
     have u1:(k':Int)<i:=by omega
     have u2:(k':Int)≤i:=by omega
     have u3:(0:Int)≤k':=by omega
     clear fr hng
     go_wp2_with fail
     refine leaves_cons (f:=177) (args:=#[.pointer (some ⟨s,0,none⟩)]) (by simp) (by simp[go_sem]) ?_
     have hst5:Stk (w4.setCell ⟨w.heap.size,k',none⟩ (.int .u8 45)) s 0 s [s]:=HF.out.1.mod (((Mod.refl [w.heap.size] w4).setCell _ (.inl (by simp)))) (fun j hj=>by rw[List.mem_singleton.1 hj];exact HF.out.2.2.1)
     refine(free_calls _ s 0 s [s] hst5 .returning).mono ?_
     rintro e u' w5 ⟨rfl,rfl,hm5⟩
     refine⟨_,results_tmp rfl _ _ _,w.heap.size,k',i-k',i-k',ds.set k' 45,rfl,(HD.out.2.1.set k' (x:=45) (by decide)).mod hm5 (fun h=>HF.out.2.2.1 (by rw[List.mem_singleton.1 h];simp)),?_,by rw[List.length_set,HD.out.2.2.1];omega,Nat.le_refl _,(HF.out.2.1.setCell _ (.inr (Nat.le_refl _))).step hm5 (fun j hj=>.inr (by rw[List.mem_singleton.1 hj];exact HF.out.2.2.2))⟩
     rw[drop_set (by rw[HD.out.2.2.1];omega),HD.out.2.2.2.1,HD.out.2.2.2.2.2.1,List.drop_left' (by simp)]
     simp[itx,HD.out.2.2.2.2.2.2]
end Go.Proofs.YtcpjclakdpjjfaaGreatDoor
