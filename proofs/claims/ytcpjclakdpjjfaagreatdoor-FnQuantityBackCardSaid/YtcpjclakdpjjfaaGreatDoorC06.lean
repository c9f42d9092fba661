/- Contract of the division of a vector by a word (bigall/natdiv. -/
import Derived.Test.YtcpjclakdpjjfaaGreatDoorC05
import Derived.Test.YtcpjclakdpjjfaaGreatDoorC04
set_option maxHeartbeats 800000
set_option maxRecDepth 10000
namespace Go.Proofs.YtcpjclakdpjjfaaGreatDoor
open Go.RowKit Wd
theorem spl_cons {zs:List Nat} {o:Nat} {ts:List Nat} (h:o+1+ts.length≤zs.length) (s:Nat):(spl zs (o+1) ts).set o s=spl zs o (s::ts):=by
 simp only[spl,List.append_assoc,List.length_cons]
 rw[List.take_succ_eq_append_getElem (by omega),List.append_assoc,List.set_append_right _ _ (by simp;omega)]
 have e:o-(List.take o zs).length=0:=by simp;omega
 rw[e]
 simp[Nat.add_assoc,Nat.add_comm 1]
theorem VecPost.prev {w wi:World} {bz o m:Nat} {zs ts:List Nat} (h:VecPost w wi bz (o+1) m zs ts) (hz:o+1+m≤zs.length) {s:Nat} (hs:s<B):
 VecPost w (wi.setCell ⟨bz,o,none⟩ (.int .u64 (s:Int))) bz o (m+1) zs (s::ts):=by
 refine⟨by simp[h.len],WL_cons.2 ⟨hs,h.wl⟩,h.mod.setCell _ (.inl (by simp)),?_⟩
 have:=h.blk.set o hs
 rw[spl_cons (by rw[h.len];exact hz)] at this
 exact this
theorem read_before {w wi:World} {bx bz oz i:Nat} {xs zs ts:List Nat} (hx:Blk w bx xs) (hz:Blk w bz zs) (m:Mod [bz] w wi) (hzi:Blk wi bz (spl zs oz ts))
 (hal:bx=bz→i<oz) (hi:i<xs.length) (hzl:oz+ts.length≤zs.length):wi.cell? ⟨bx,i,none⟩=some (.int .u64 (wat xs i:Nat)):=by
 by_cases e:bx=bz
 ·subst e
  obtain rfl:=hx.unique hz
  rw[hzi.cell (by rw[spl_length hzl];exact hi),wat_spl_lt (hal rfl) (by omega)]
 ·exact(hx.mod m (by simpa using e)).cell hi
theorem seg_cons' {xs:List Nat} {o n:Nat} (h:o+n+1≤xs.length):seg xs o (n+1)=wat xs o::seg xs (o+1) n:=by
 rw[seg_cons (by omega) (by omega),Nat.add_sub_cancel]
theorem divW_step {q r r' y x v V:Nat} (hv:v*y+r=V) (hq:q=(r*B+x)/y) (hr:r'=(r*B+x)%y):(q+B*v)*y+r'=x+B*V:=by
 have h:=Nat.div_add_mod (r*B+x) y
 rw[←hq,←hr] at h
 have e:B*(v*y+r)=B*V:=by rw[hv]
 rw[Nat.mul_add] at e
 rw[Nat.add_mul,Nat.mul_comm q,Nat.mul_assoc B,Nat.mul_comm r] at*
 omega
theorem divW_small {q r y x:Nat} (hr:r<y) (hx:x<B) (hq:q=(r*B+x)/y):q<B:=divWW_small hr hx hq
theorem divWVW_calls (bz oz cz bx ox cx n y s:Nat) (zs xs:List Nat) (w:World) (hz:Blk w bz zs) (hx:Blk w bx xs)
 (hzl:oz+n≤zs.length) (hxl:ox+n≤xs.length) (hax:bx=bz→ox=oz) (hn:n≤1000000) (h0:0<n) (hy:y<B) (hy0:y≠0) (hs:NlzOk y s):
 Calls Tryz.prog 257 #[.slice (some ⟨bz,oz,none⟩) n cz,.int .u64 0,.slice (some ⟨bx,ox,none⟩) n cx,.int .u64 y] w fun e w'=>
  VRet w bz oz n zs (fun r rs=>r<y∧val rs*y+r=val (seg xs ox n)) e w':=by
 by_cases hn1:n=1
 ·subst hn1
  have h1:(((1:Nat):Int)==1)=true:=by decide
  have rx:=hx.cell (i:=ox) (by omega)
  have rz:=hz.cell (i:=oz) (by omega)
  have fz:=hz.free oz
  have hxk:=wat_lt hx.wl ox
  go_enter Tryz.func257,Tryz.ntmps257
  go_wp2_with fail
  refine(bitsDiv_calls 0 _ y _ (by omega) (.inl rfl) hy hxk).mono ?_
  rintro e w' ⟨q,r,rfl,⟨m,rfl⟩,hq,hr⟩
  have hqB:=divW_small (r:=0) (by omega) hxk hq
  have hnext:=((VecPost.nil (oz:=oz) hz).drewN m).next (s:=q) (by omega) hqB
  rw[List.nil_append,Nat.zero_add,Nat.add_zero] at hnext
  have hval:r<y∧val [q]*y+r=val (seg xs ox 1):=by
   refine⟨by rw[hr];exact Nat.mod_lt _ (by omega),?_⟩
   have:=divW_step (v:=0) (V:=0) (r:=0) (by simp) hq hr
   rw[val_seg_succ (by omega),seg_zero]
   simp[val_cons] at this ⊢;omega
  have HN:=Lh (Aj hnext hval)
  clear hnext hval hq hr hqB
  go_wp2_with fail
  go_ret
  exact⟨r,_,rfl,HN.out.1,HN.out.2⟩
 ·have h1:((n:Int)==1)=false:=by simp;omega
  go_enter Tryz.func257,Tryz.ntmps257
  go_wp2_with fail
  refine(recip_calls y s _ hy hy0 hs).mono ?_
  rintro e w' ⟨rec,rfl,⟨m0,rfl⟩,hrec,hrecB⟩
  have HREC:=Lh hrec
  clear hrec
  go_wp2_with fail
  go_loopw [8,12] (fun r i wr=>∃(k r':Nat) (ts:List Nat),k≤n∧i=.int .i64 ((k:Int)-1)∧r=.int .u64 r'∧r'<y∧VecPost w wr bz (oz+k) (n-k) zs ts∧val ts*y+r'=val (seg xs (ox+k) (n-k)))
   (fun _ i _=>(intOf i+1).toNat)
  case atStart=>
   refine⟨n,0,[],Nat.le_refl _,rfl,rfl,by omega,?_,by rw[Nat.sub_self,seg_zero];simp⟩
   rw[Nat.sub_self];exact(VecPost.nil hz).drewN m0
  case round=>
   obtain⟨k,r,ts,hk,rfl,rfl,hry,hv,hval⟩:=hrel
   rcases Nat.eq_zero_or_pos k with hk0|hk0
   ·subst hk0
    have HV:=Lh (Aj hv hval)
    clear hv hval
    go_wp2_with fail
    go_ret
    exact⟨r,ts,rfl,by have:=HV.out.1;rwa [Nat.add_zero,Nat.sub_zero] at this,hry,by have:=HV.out.2;rwa [Nat.add_zero,Nat.sub_zero] at this⟩
   ·obtain⟨j,rfl⟩:∃j,k=j+1:=⟨k-1,by omega⟩
    have hm:n-j=n-(j+1)+1:=by omega
    have rx:=read_before (i:=ox+j) hx hz hv.mod hv.blk (fun e=>by rw[hax e];omega) (by omega) (by rw[hv.len];omega)
    have hxk:=wat_lt hx.wl (ox+j)
    have fz:=hv.blk.free (oz+j)
    have rz:=hv.blk.cell (i:=oz+j) (by rw[spl_length (by rw[hv.len];omega)];omega)
    have HV:=Lh (Aj hv hval)
    have hjn:(j:Int)<n:=by omega
    have hj0:(0:Int)≤j:=by omega
    have hj1:(1:Int)≤(j:Int)+1:=by omega
    have e1:((j+1:Nat):Int)-1=j:=by omega
    rw[e1]
    have HM:=Lh hm
    clear hv hval hm e1
    go_wp2_with fail
    refine(divWW_calls r _ y rec s _ hry hxk hy hs HREC.out hrecB).mono ?_
    rintro e w' ⟨q,r2,rfl,rfl,hq,hr⟩
    have hqB:=divW_small hry hxk hq
    have hnext:=HV.out.1.prev (o:=oz+j) (s:=q) (by omega) hqB
    have hval2:r2<y∧val (q::ts)*y+r2=val (seg xs (ox+j) (n-j)):=by
     refine⟨by rw[hr];exact Nat.mod_lt _ (by omega),?_⟩
     rw[HM.out,seg_cons' (by omega),val_cons,val_cons]
     exact divW_step HV.out.2 hq hr
    rw[←HM.out] at hnext
    have HN:=Lh (Aj hnext hval2)
    clear hnext hval2 hq hr hqB HV
    go_wp2_with fail
    refine⟨⟨j,r2,q::ts,by omega,by go_num,rfl,HN.out.2.1,HN.out.1,HN.out.2.2⟩,by simp[intOf]⟩
end Go.Proofs.YtcpjclakdpjjfaaGreatDoor
namespace Go.Proofs.YtcpjclakdpjjfaaGreatDoor
open Go.RowKit Wd
theorem shl_split {x s:Nat} (h0:0<s) (hs:s<64):x*2^s=B*(x/2^(64-s))+(x*2^s)%B:=by
 have hB:B=2^s*2^(64-s):=by
  rw[←Nat.pow_add,B_eq];have:s+(64-s)=64:=by omega
  rw[this]
 have h2:=Nat.div_add_mod (x*2^s) B
 have h3:x*2^s/B=x/2^(64-s):=by
  rw[hB,Nat.mul_comm x,Nat.mul_div_mul_left _ _ (Nat.pow_pos (by omega))]
 rw[h3] at h2
 exact h2.symm
theorem shr_small {x s:Nat} (hx:x<B) (hs:s<64):x/2^(64-s)<2^s:=by
 rw[Nat.div_lt_iff_lt_mul (Nat.pow_pos (by omega)),←Nat.pow_add]
 have:s+(64-s)=64:=by omega
 rw[this];rw[B_eq] at hx;exact hx
theorem pow_lt_B {s:Nat} (hs:s<64):2^s<B:=by
 rw[B_eq]
 exact Nat.pow_lt_pow_of_lt (by omega) (show s<64 from hs)
theorem or_mul {m c s:Nat} (hc:c<2^s) (hs:s<64) (hm:m<B) (hd:m%2^s=0):bits BinOp.or IntKind.u64 (m:Int) (c:Int)=((m+c:Nat):Int)∧m+c<B:=by
 have e:m=(m/2^s)*2^s:=by
  have:=Nat.div_add_mod m (2^s)
  rw[hd,Nat.mul_comm] at this;omega
 have hcB:c<B:=Nat.lt_trans hc (pow_lt_B hs)
 have h1:=or_add (a:=m/2^s) hc (by rw[←e];exact hm) hcB
 rw[←e] at h1
 refine⟨h1,?_⟩
 have hB:B=2^(64-s)*2^s:=by
  rw[←Nat.pow_add,B_eq];have:64-s+s=64:=by omega
  rw[this]
 have h2:m/2^s<2^(64-s):=by rw[Nat.div_lt_iff_lt_mul (Nat.pow_pos (by omega)),←hB];exact hm
 have h3:(m/2^s+1)*2^s≤2^(64-s)*2^s:=Nat.mul_le_mul_right _ h2
 rw[←hB,Nat.add_mul] at h3
 omega
theorem mod_mul_dvd {x s:Nat} (hs:s<64):((x*2^s)%B)%2^s=0:=by
 have hB:B=2^s*2^(64-s):=by
  rw[←Nat.pow_add,B_eq];have:s+(64-s)=64:=by omega
  rw[this]
 rw[hB,Nat.mul_comm x,Nat.mul_mod_mul_left,Nat.mul_mod_right]
theorem lsh_step {s x c v V b p:Nat} (h0:0<s) (hs:s<64) (hv:v+p*c=V*2^s+x/2^(64-s)):((x*2^s)%B+b)+B*v+p*B*c=(x+B*V)*2^s+b:=by
 have h:=shl_split (x:=x) h0 hs
 have e:B*(v+p*c)=B*(V*2^s+x/2^(64-s)):=by rw[hv]
 simp only[Nat.mul_add] at e
 rw[Nat.add_mul,Nat.mul_comm p B,Nat.mul_assoc B,Nat.mul_assoc B];omega
theorem lshVUg_calls (bz oz cz bx ox cx n s:Nat) (zs xs:List Nat) (w:World) (hz:Blk w bz zs) (hx:Blk w bx xs)
 (hzl:oz+n≤zs.length) (hxl:ox+n≤xs.length) (hax:bx≠bz) (hn:n≤1000000) (h0:0<n) (hs0:0<s) (hs:s<64):
 Calls Tryz.prog 173 #[.slice (some ⟨bz,oz,none⟩) n cz,.slice (some ⟨bx,ox,none⟩) n cx,.int .u64 s] w fun e w'=>
  VRet w bz oz n zs (fun c rs=>c<2^s∧val rs+B^n*c=val (seg xs ox n)*2^s) e w':=by
 have h1:((n:Int) !=(n:Int))=false:=by simp
 have h2:((n:Int)==0)=false:=by simp;omega
 have h3:((s:Int)==0)=false:=by simp;omega
 obtain⟨p,hp⟩:∃p,p=64-s:=⟨_,rfl⟩
 have e1:bits BinOp.and IntKind.u64 (s:Int) 63=s:=by
  have:bits BinOp.and IntKind.u64 (s:Int) 63=(s:Int)%64:=by go_bits2
  rw[this];omega
 have e2:(64:Int)-(s:Int)=p:=by omega
 have e3:bits BinOp.and IntKind.u64 (p:Int) 63=p:=by
  have:bits BinOp.and IntKind.u64 (p:Int) 63=(p:Int)%64:=by go_bits2
  rw[this];omega
 have hp64:p<64:=by omega
 have e4:64-s=p:=hp.symm
 obtain⟨m,rfl⟩:∃m,n=m+1:=⟨n-1,by omega⟩
 have rx:=hx.cell (i:=ox+m) (by omega)
 have hxk:=wat_lt hx.wl (ox+m)
 have e5:((m+1:Nat):Int)-1=m:=by omega
 have hm0:(0:Int)≤m:=by omega
 have HP:=Lh hp
 clear hp
 go_enter Tryz.func173,Tryz.ntmps173
 go_wp2_with fail
 generalize hc:wat xs (ox+m)/2^p=c
 have hcc:c<2^s:=by rw[←hc,←e4];exact shr_small hxk hs
 have hc':wat xs (ox+m)/2^(64-s)=c:=by rw[e4];exact hc
 have hci:((wat xs (ox+m):Nat):Int)/2^p=(c:Int):=by rw[←hc];exact(shr_cast _ _).symm
 have HC:=Lh (Aj hcc (Aj hc' hci))
 clear hc hcc hc' hci
 go_loopw [8] (fun i wr=>∃(k:Nat) (ts:List Nat),k≤m∧i=.int .i64 k∧VecPost w wr bz (oz+(k+1)) (m-k) zs ts∧val ts+B^(m-k)*c=val (seg xs (ox+(k+1)) (m-k))*2^s+wat xs (ox+k)/2^(64-s))
  (fun i _=>(intOf i).toNat)
 case atStart=>
  refine⟨m,[],Nat.le_refl _,rfl,?_,?_⟩
  ·rw[Nat.sub_self];exact VecPost.nil hz
  ·rw[Nat.sub_self,seg_zero,HC.out.2.1];simp
 case round=>
  obtain⟨k,ts,hk,rfl,hv,hval⟩:=hrel
  rcases Nat.eq_zero_or_pos k with hk0|hk0
  ·subst hk0
   have rx0:=read_before (i:=ox) hx hz hv.mod hv.blk (fun e=>absurd e hax) (by omega) (by rw[hv.len];omega)
   have fz:=hv.blk.free oz
   have rz:=hv.blk.cell (i:=oz) (by rw[spl_length (by rw[hv.len];omega)];omega)
   have e6:∀z:Int,IntKind.u64.wrap z=z%(B:Int):=u64_wrap
   have e7:((wat xs ox:Nat):Int)*2^s%(B:Int)=((wat xs ox*2^s%B:Nat):Int):=by push_cast;rfl
   have hnext:=hv.prev (o:=oz) (s:=wat xs ox*2^s%B) (by omega) (Nat.mod_lt _ B_pos)
   have hval2:val ((wat xs ox*2^s%B)::ts)+B^(m+1)*c=val (seg xs ox (m+1))*2^s:=by
    rw[seg_cons' (by omega),val_cons,val_cons,Nat.pow_succ]
    have:=lsh_step (b:=0) hs0 hs hval
    simpa using this
   have e8:IntKind.u64.wrap (((wat xs ox:Nat):Int)*2^s)=((wat xs ox*2^s%B:Nat):Int):=by rw[e6];exact e7
   have HN:=Lh (Aj hnext hval2)
   clear hv hval hnext hval2 e6 e7
   generalize wat xs ox*2^s%B=v at*
   go_wp2_with fail
   go_ret
   refine⟨c,_,by rw[←HC.out.2.2]<;>rfl,HN.out.1,HC.out.1,HN.out.2⟩
  ·obtain⟨j,rfl⟩:∃j,k=j+1:=⟨k-1,by omega⟩
   have hm:m-j=m-(j+1)+1:=by omega
   have r1:=read_before (i:=ox+(j+1)) hx hz hv.mod hv.blk (fun e=>absurd e hax) (by omega) (by rw[hv.len];omega)
   have r2:=read_before (i:=ox+j) hx hz hv.mod hv.blk (fun e=>absurd e hax) (by omega) (by rw[hv.len];omega)
   have fz:=hv.blk.free (oz+(j+1))
   have rz:=hv.blk.cell (i:=oz+(j+1)) (by rw[spl_length (by rw[hv.len];omega)];omega)
   obtain⟨y,hy⟩:∃y,y=wat xs (ox+(j+1))*2^s%B:=⟨_,rfl⟩
   obtain⟨z,hzz⟩:∃z,z=wat xs (ox+j)/2^p:=⟨_,rfl⟩
   have hzs:z<2^s:=by rw[hzz,←e4];exact shr_small (wat_lt hx.wl _) hs
   have e8:IntKind.u64.wrap (((wat xs (ox+(j+1)):Nat):Int)*2^s)=y:=by rw[u64_wrap,hy];push_cast;rfl
   have e9:((wat xs (ox+j):Nat):Int)/2^p=z:=by rw[hzz];exact(shr_cast _ _).symm
   obtain⟨e10,hyz⟩:=or_mul (m:=y) hzs hs (by rw[hy];exact Nat.mod_lt _ B_pos) (by rw[hy];exact mod_mul_dvd hs)
   have hnext:=hv.prev (o:=oz+(j+1)) (s:=y+z) (by omega) hyz
   have hval2:val ((y+z)::ts)+B^(m-j)*c=val (seg xs (ox+(j+1)) (m-j))*2^s+wat xs (ox+j)/2^(64-s):=by
    rw[hm,seg_cons' (by omega),val_cons,val_cons,Nat.pow_succ,hy,hzz,←e4]
    exact lsh_step hs0 hs hval
   rw[←hm] at hnext
   have e11:(j:Int)+1-1=j:=by omega
   have hj0:(0:Int)<(j:Int)+1:=by omega
   have hj1:(0:Int)≤j:=by omega
   have hjm:(j:Int)+1≤m:=by omega
   have hjm2:j<m:=by omega
   have e12:IntKind.i64.wrap (j:Int)=j:=IntWalk.i64_in _ (by omega)
   have hjm3:(j:Int)<m:=by omega
   have hjm4:(0:Int)≤(j:Int)+1:=by omega
   have hjm5:(j:Int)<(m:Int)+1:=by omega
   generalize hyzv:y+z=v at*
   have HN:=Lh (Aj hnext hval2)
   clear hv hval hnext hval2 hy hzz hzs hyz hyzv hm
   go_wp2_with fail
   go_still_tail 17,(by kernel_rfl)
   change wpList _ _ _ _ _ (wr.drew)
   go_wp2_with fail
   refine⟨?_,by simp[intOf]⟩
   repeat apply Exists.intro
   exact⟨⟨j,v::ts,by omega,by go_num,HN.out.1.drewN 1,HN.out.2⟩,rfl⟩
theorem lshVU_calls (bz oz cz bx ox cx n s:Nat) (zs xs:List Nat) (w:World) (hz:Blk w bz zs) (hx:Blk w bx xs)
 (hzl:oz+n≤zs.length) (hxl:ox+n≤xs.length) (hax:bx≠bz) (hn:n≤1000000) (h0:0<n) (hs0:0<s) (hs:s<64):
 Calls Tryz.prog 151 #[.slice (some ⟨bz,oz,none⟩) n cz,.slice (some ⟨bx,ox,none⟩) n cx,.int .u64 s] w fun e w'=>
  VRet w bz oz n zs (fun c rs=>c<2^s∧val rs+B^n*c=val (seg xs ox n)*2^s) e w':=by
 go_enter Tryz.func151,Tryz.ntmps151
 go_wp2_with fail
 refine(lshVUg_calls bz oz cz bx ox cx n s zs xs _ hz hx hzl hxl hax hn h0 hs0 hs).mono ?_
 rintro e w' ⟨c,rs,rfl,hv,hval⟩
 have HV:=Lh (Aj hv hval)
 clear hv hval
 go_wp2
 go_ret
 exact⟨c,rs,rfl,HV.out.1,HV.out.2⟩
theorem or_mul' {m c s:Nat} (hc:c<2^s) (hs:s<64) (hm:m<B) (hd:m%2^s=0):bits BinOp.or IntKind.u64 (c:Int) (m:Int)=((c+m:Nat):Int)∧c+m<B:=by
 obtain⟨h1,h2⟩:=or_mul hc hs hm hd
 have hcB:c<B:=Nat.lt_trans hc (pow_lt_B hs)
 rw[bits_or_u64_nat _ _ (by rw[B_eq] at hm;exact hm) (by rw[B_eq] at hcB;exact hcB)] at h1
 rw[bits_or_u64_nat _ _ (by rw[B_eq] at hcB;exact hcB) (by rw[B_eq] at hm;exact hm),Nat.or_comm,Nat.add_comm c]
 exact⟨h1,h2⟩
theorem low_up {y s:Nat} (hs:s<64):y*2^(64-s)%B=(y%2^s)*2^(64-s):=by
 have hB:B=2^s*2^(64-s):=by
  rw[←Nat.pow_add,B_eq];have:s+(64-s)=64:=by omega
  rw[this]
 rw[hB,Nat.mul_mod_mul_right]
theorem rsh_step {s x y v V p a:Nat} (hs:s<64) (hv:2^s*v+a=V+p*(x%2^s)):2^s*(v+p*(x/2^s+(y%2^s)*2^(64-s)))+a=(V+p*x)+p*B*(y%2^s):=by
 have hB:B=2^s*2^(64-s):=by
  rw[←Nat.pow_add,B_eq];have:s+(64-s)=64:=by omega
  rw[this]
 have h:=Nat.div_add_mod x (2^s)
 have e1:p*x=p*(2^s*(x/2^s))+p*(x%2^s):=by rw[←Nat.mul_add,h]
 rw[e1,hB]
 generalize 2^s=t at*
 generalize 2^(64-s)=u at*
 generalize x/t=q at*
 generalize x%t=r at*
 generalize y%t=k at*
 clear hB h e1
 grind -mbtc
theorem rsh_end {s x v V p a:Nat} (hv:2^s*v+a=V+p*(x%2^s)) (ha:a<2^s):v+p*(x/2^s)=(V+p*x)/2^s:=by
 have h:=Nat.div_add_mod x (2^s)
 have e1:p*x=p*(2^s*(x/2^s))+p*(x%2^s):=by rw[←Nat.mul_add,h]
 have e2:V+p*x=a+2^s*(v+p*(x/2^s)):=by
  have e3:2^s*(p*(x/2^s))=p*(2^s*(x/2^s)):=Nat.mul_left_comm _ _ _
  rw[Nat.mul_add,e3];omega
 rw[e2,Nat.add_mul_div_left _ _ (Nat.pow_pos (by omega)),Nat.div_eq_of_lt ha,Nat.zero_add]
theorem rshVUg_calls (bz oz cz bx ox cx n s:Nat) (zs xs:List Nat) (w:World) (hz:Blk w bz zs) (hx:Blk w bx xs)
 (hzl:oz+n≤zs.length) (hxl:ox+n≤xs.length) (hax:bx=bz→oz≤ox) (hn:n≤1000000) (h0:0<n) (hs0:0<s) (hs:s<64):
 Calls Tryz.prog 278 #[.slice (some ⟨bz,oz,none⟩) n cz,.slice (some ⟨bx,ox,none⟩) n cx,.int .u64 s] w fun e w'=>
  VRet w bz oz n zs (fun _ rs=>val rs=val (seg xs ox n)/2^s) e w':=by
 have h1:((n:Int) !=(n:Int))=false:=by simp
 have h2:((n:Int)==0)=false:=by simp;omega
 have h3:((s:Int)==0)=false:=by simp;omega
 have hn':(0:Int)<n:=by omega
 obtain⟨p,hp⟩:∃p,p=64-s:=⟨_,rfl⟩
 have e1:bits BinOp.and IntKind.u64 (s:Int) 63=s:=by
  have:bits BinOp.and IntKind.u64 (s:Int) 63=(s:Int)%64:=by go_bits2
  rw[this];omega
 have e2:(64:Int)-(s:Int)=p:=by omega
 have e3:bits BinOp.and IntKind.u64 (p:Int) 63=p:=by
  have:bits BinOp.and IntKind.u64 (p:Int) 63=(p:Int)%64:=by go_bits2
  rw[this];omega
 have hp64:p<64:=by omega
 have e4:64-s=p:=hp.symm
 have rx:=hx.cell (i:=ox) (by omega)
 have hxk:=wat_lt hx.wl ox
 obtain⟨c0,hc0,-,-⟩:=u64_any (((wat xs ox:Nat):Int)*2^p)
 obtain⟨m,rfl⟩:∃m,n=m+1:=⟨n-1,by omega⟩
 have HP:=Lh hp
 clear hp
 go_enter Tryz.func278,Tryz.ntmps278
 go_wp2_with fail
 go_loopw [8] (fun i wr=>∃(k:Nat) (rs:List Nat),k≤m∧i=.int .i64 ((k:Int)+1)∧VecPost w wr bz oz k zs rs∧2^s*val rs+wat xs ox%2^s=val (seg xs ox k)+B^k*(wat xs (ox+k)%2^s))
  (fun i _=>m+2-(intOf i).toNat)
 case atStart=>exact⟨0,[],Nat.zero_le _,rfl,VecPost.nil hz,by simp[seg_zero]⟩
 case round=>
  obtain⟨k,rs,hk,rfl,hv,hval⟩:=hrel
  have r1:=read_after (ox:=ox) (i:=k) hx hz hv.mod hv.blk hax (by rw[hv.len];exact Nat.le_refl _) (by omega) (by rw[hv.len];omega)
  have fz:=hv.blk.free (oz+k)
  have rz:=hv.blk.cell (i:=oz+k) (by rw[spl_length (by rw[hv.len];omega)];omega)
  have hk0:(0:Int)≤k:=by omega
  rcases Nat.lt_or_ge k m with hlt|hge
  ·have r2:=read_after (ox:=ox) (i:=k+1) hx hz hv.mod hv.blk hax (by rw[hv.len];omega) (by omega) (by rw[hv.len];omega)
   obtain⟨y,hy⟩:∃y,y=wat xs (ox+(k+1))*2^p%B:=⟨_,rfl⟩
   obtain⟨z,hzz⟩:∃z,z=wat xs (ox+k)/2^s:=⟨_,rfl⟩
   have hzs:z<2^p:=by
    have e:64-p=s:=by omega
    rw[hzz,←e];exact shr_small (wat_lt hx.wl _) hp64
   have e8:IntKind.u64.wrap (((wat xs (ox+(k+1)):Nat):Int)*2^p)=y:=by rw[u64_wrap,hy];push_cast;rfl
   have e9:((wat xs (ox+k):Nat):Int)/2^s=z:=by rw[hzz];exact(shr_cast _ _).symm
   obtain⟨e10,hyz⟩:=or_mul' (m:=y) hzs hp64 (by rw[hy];exact Nat.mod_lt _ B_pos) (by rw[hy];exact mod_mul_dvd hp64)
   have hnext:=hv.next (s:=z+y) (by omega) hyz
   have hval2:2^s*val (rs++[z+y])+wat xs ox%2^s=val (seg xs ox (k+1))+B^(k+1)*(wat xs (ox+(k+1))%2^s):=by
    rw[val_snoc,hv.len,val_seg_succ (by omega),Nat.pow_succ,hy,hzz,←e4,low_up hs]
    exact rsh_step hs hval
   have e11:(k:Int)+1-1=k:=by omega
   have e12:IntKind.i64.wrap (k:Int)=k:=IntWalk.i64_in _ (by omega)
   have hk1:(k:Int)<m:=by omega
   have hk2:(k:Int)+1<(m:Int)+1:=by omega
   have hk3:(0:Int)≤(k:Int)+1:=by omega
   have hk4:(k:Int)<(m:Int)+1:=by omega
   have hk5:k<m+1:=by omega
   generalize hyzv:z+y=v at*
   have HN:=Lh (Aj hnext hval2)
   clear hv hval hnext hval2 hy hzz hzs hyz hyzv
   go_wp2_with fail
   go_still_tail 18,(by kernel_rfl)
   change wpList _ _ _ _ _ (wr.drew)
   go_wp2_with fail
   refine⟨?_,by simp[intOf];omega⟩
   repeat apply Exists.intro
   exact⟨⟨k+1,rs++[v],by omega,by go_num,HN.out.1.drewN 1,HN.out.2⟩,rfl⟩
  ·obtain rfl:k=m:=by omega
   obtain⟨z,hzz⟩:∃z,z=wat xs (ox+k)/2^s:=⟨_,rfl⟩
   have e9:((wat xs (ox+k):Nat):Int)/2^s=z:=by rw[hzz];exact(shr_cast _ _).symm
   have hzB:z<B:=by rw[hzz];exact Nat.lt_of_le_of_lt (Nat.div_le_self _ _) (wat_lt hx.wl _)
   have hnext:=hv.next (s:=z) (by omega) hzB
   have hval2:val (rs++[z])=val (seg xs ox (k+1))/2^s:=by
    rw[val_snoc,hv.len,val_seg_succ (by omega),hzz]
    exact rsh_end hval (Nat.mod_lt _ (Nat.pow_pos (by omega)))
   have e11:((k+1:Nat):Int)-1=k:=by omega
   have HN:=Lh (Aj hnext hval2)
   clear hv hval hnext hval2 hzz hzB
   go_wp2_with fail
   go_ret
   exact⟨c0,_,rfl,HN.out.1,HN.out.2⟩
theorem rshVU_calls (bz oz cz bx ox cx n s:Nat) (zs xs:List Nat) (w:World) (hz:Blk w bz zs) (hx:Blk w bx xs)
 (hzl:oz+n≤zs.length) (hxl:ox+n≤xs.length) (hax:bx=bz→oz≤ox) (hn:n≤1000000) (h0:0<n) (hs0:0<s) (hs:s<64):
 Calls Tryz.prog 261 #[.slice (some ⟨bz,oz,none⟩) n cz,.slice (some ⟨bx,ox,none⟩) n cx,.int .u64 s] w fun e w'=>
  VRet w bz oz n zs (fun _ rs=>val rs=val (seg xs ox n)/2^s) e w':=by
 go_enter Tryz.func261,Tryz.ntmps261
 go_wp2_with fail
 refine(rshVUg_calls bz oz cz bx ox cx n s zs xs _ hz hx hzl hxl hax hn h0 hs0 hs).mono ?_
 rintro e w' ⟨c,rs,rfl,hv,hval⟩
 have HV:=Lh (Aj hv hval)
 clear hv hval
 go_wp2
 go_ret
 exact⟨c,rs,rfl,HV.out.1,HV.out.2⟩
end Go.Proofs.YtcpjclakdpjjfaaGreatDoor
namespace Go.Proofs.YtcpjclakdpjjfaaGreatDoor
open Go.RowKit Wd
theorem info177z:(Tryz.prog.info? 177).map (fun i=>(i.zero,i.size,i.bytes))=some (some (.int .u64 0),1,8):=by kernel_rfl
theorem WL_zeros (n:Nat):WL (List.replicate n 0):=WL_replicate n B_pos
theorem make_words (w:World) (t l c:Nat) (ht:Tryz.prog.underlying t=some (.slice 177)) (hlc:l≤c) (hc:c≤1000000):
 ∃w1,(Instr.makeSlice t (.int .i64 (l:Int)) (.int .i64 (c:Int))).run Tryz.prog w=.ok (.slice (some ⟨w.heap.size,0,none⟩) l c) w1∧Blk w1 w.heap.size (List.replicate c 0)∧Mod [] w w1:=by
 obtain⟨i,hi,hz⟩:=Option.map_eq_some_iff.1 info177z
 simp only[Prod.mk.injEq] at hz
 obtain⟨h1,h2,h3⟩:=hz
 have key:=run_make w t 177 i (.int .u64 0) ht hi h1 .i64 .i64 l c (by omega) (by omega) (by rw[h3];omega) (by omega)
 simp only[Int.toNat_natCast,h2,Nat.mul_one] at key
 have e:madeCells (Value.int .u64 0).cells c=wc (List.replicate c 0):=by
  apply Array.ext
  ·simp[madeCells,wc]
  ·intro i h1 h2
   simp[madeCells,wc,Value.cells,Nat.mod_one]
 rw[e] at key
 refine⟨_,key,⟨?_,WL_zeros c,by rw[List.length_replicate];omega⟩,(Mod.refl [] w).alloc _⟩
 show (w.heap.push _)[w.heap.size]?=_
 simp
def sb:Value→List Nat
 | .slice (some a) _ _=>[a.block]
 |_=>[]
def Zs (w:World) (v:Value):Prop:=
 v=.slice none 0 0∨∃(b l:Nat) (ws:List Nat),v=.slice (some ⟨b,0,none⟩) l ws.length∧Blk w b ws∧l≤ws.length
def Nv (w:World) (v:Value) (n:Nat):Prop:=
 (v=.slice none 0 0∧n=0)∨∃(b l:Nat) (ws:List Nat),v=.slice (some ⟨b,0,none⟩) l ws.length∧Blk w b ws∧l≤ws.length∧Nrm (ws.take l)∧val (ws.take l)=n
theorem Nv.zs {w:World} {v:Value} {n:Nat} (h:Nv w v n):Zs w v:=by
 rcases h with ⟨h,_⟩|⟨b,l,ws,h1,h2,h3,_⟩
 ·exact .inl h
 ·exact .inr ⟨b,l,ws,h1,h2,h3⟩
theorem Zs.nil (w:World):Zs w (.slice none 0 0):=.inl rfl
theorem Nv.nil (w:World):Nv w (.slice none 0 0) 0:=.inl ⟨rfl,rfl⟩
theorem Zs.mod {S:List Nat} {w w':World} {v:Value} (h:Zs w v) (m:Mod S w w') (hs:∀k,k∈sb v→k∉S):Zs w' v:=by
 rcases h with h|⟨b,l,ws,rfl,h2,h3⟩
 ·exact .inl h
 ·exact .inr ⟨b,l,ws,rfl,h2.mod m (hs _ (by simp[sb])),h3⟩
theorem Nv.mod {S:List Nat} {w w':World} {v:Value} {n:Nat} (h:Nv w v n) (m:Mod S w w') (hs:∀k,k∈sb v→k∉S):Nv w' v n:=by
 rcases h with h|⟨b,l,ws,rfl,h2,h3⟩
 ·exact .inl h
 ·exact .inr ⟨b,l,ws,rfl,h2.mod m (hs _ (by simp[sb])),h3⟩
theorem Zs.drewN {w:World} {v:Value} (h:Zs w v) (m:Nat):Zs (w.drewN m) v:=h.mod ((Mod.refl [] w).drewN m) (by simp)
theorem Nv.drewN {w:World} {v:Value} {n:Nat} (h:Nv w v n) (m:Nat):Nv (w.drewN m) v n:=h.mod ((Mod.refl [] w).drewN m) (by simp)
theorem Zs.lt {w:World} {v:Value} (h:Zs w v):∀k,k∈sb v→k<w.heap.size:=by
 rcases h with rfl|⟨b,l,ws,rfl,h2,_⟩
 ·simp[sb]
 ·intro k hk;rw[List.mem_singleton.1 hk];exact h2.lt
structure NRes (w:World) (z:Value) (n:Nat) (v:Value) (w':World):Prop where
 nv:Nv w' v n
 mod:Mod (sb z) w w'
 own:∀k,k∈sb v→k∈sb z∨w.heap.size≤k
def NRet (w:World) (z:Value) (n:Nat) (e:Ending) (w':World):Prop:=∃v,e=.returned v∧NRes w z n v w'
def nlen (ws:List Nat):Nat→Nat
 |0=>0
 |n+1=>if wat ws n=0 then nlen ws n else n+1
theorem nlen_le (ws:List Nat) (n:Nat):nlen ws n≤n:=by
 induction n with
 |zero=>exact Nat.le_refl _
 |succ n ih=>simp only[nlen];split<;>omega
theorem nlen_val {ws:List Nat} {n:Nat} (h:n≤ws.length):val (ws.take (nlen ws n))=val (ws.take n)∧Nrm (ws.take (nlen ws n)):=by
 induction n with
 |zero=>simp[nlen,Nrm]
 |succ n ih=>
  obtain⟨h1,h2⟩:=ih (by omega)
  simp only[nlen]
  split
  ·rename_i hz
   rw[val_take_succ _ _ (by omega),←wat_eq (by omega),hz]
   exact⟨by rw[h1];simp,h2⟩
  ·rename_i hz
   refine⟨rfl,?_⟩
   rw[List.take_succ_eq_append_getElem (by omega)]
   exact Nrm_snoc.2 (by rw[←wat_eq (by omega)];exact hz)
theorem norm_calls (b n c:Nat) (ws:List Nat) (w:World) (hb:Blk w b ws) (hn:n≤ws.length) (hc:n≤c) (hm:n≤1000000):
 Calls Tryz.prog 152 #[.slice (some ⟨b,0,none⟩) n c] w fun e w'=>e=.returned (.slice (some ⟨b,0,none⟩) (nlen ws n) c)∧w=w':=by
 go_enter Tryz.func152,Tryz.ntmps152
 go_wp2
 go_loop [3] (fun i=>∃k:Nat,k≤n∧i=.int .i64 k∧nlen ws k=nlen ws n) (fun i=>(intOf i).toNat)
 case atStart=>exact⟨n,Nat.le_refl _,rfl,rfl⟩
 case round=>
  obtain⟨k,hk,rfl,hl⟩:=hrel
  have HL:=Lh hl
  clear hl
  rcases Nat.eq_zero_or_pos k with h0|h0
  ·subst h0
   go_wp2
   go_ret
   exact⟨by rw[←HL.out];rfl,rfl⟩
  ·obtain⟨j,rfl⟩:∃j,k=j+1:=⟨k-1,by omega⟩
   have hcell:=hb.cell (i:=j) (by omega)
   by_cases hz:wat ws j=0
   ·have e:nlen ws j=nlen ws n:=by rw[←HL.out];simp only[nlen];rw[if_pos hz]
    have HE:=Lh e
    clear e
    rw[hz] at hcell
    clear hz
    go_wp2
    go_round
    case rel=>exact⟨j,by omega,by go_num,HE.out⟩
    case measure=>simp[intOf]
   ·have e:j+1=nlen ws n:=by rw[←HL.out];simp only[nlen];rw[if_neg hz]
    have HE:=Lh e
    clear e
    have hz':(((wat ws j:Nat):Int)==0)=false:=by simp[hz]
    clear hz
    go_wp2
    go_ret
    exact⟨by rw[←HE.out];rfl,rfl⟩
theorem norm_nv {w0 w:World} {z:Value} {b n N:Nat} {ws:List Nat} (hb:Blk w b ws) (hn:n≤ws.length) (hv:val (ws.take n)=N) (hm:Mod (sb z) w0 w) (ho:b∈sb z∨w0.heap.size≤b):
 NRes w0 z N (.slice (some ⟨b,0,none⟩) (nlen ws n) ws.length) w:=by
 obtain⟨h1,h2⟩:=nlen_val hn
 exact⟨.inr ⟨b,nlen ws n,ws,rfl,hb,Nat.le_trans (nlen_le _ _) hn,h2,h1.trans hv⟩,hm,fun k hk=>by rw[List.mem_singleton.1 hk];exact ho⟩
structure MRes (w:World) (z:Value) (n b:Nat) (ws:List Nat) (w':World):Prop where
 blk:Blk w' b ws
 le:n≤ws.length
 mod:Mod [] w w'
 own:b∈sb z∨w.heap.size≤b
 old:b∈sb z→Blk w b ws
def MRet (w:World) (z:Value) (n:Nat) (e:Ending) (w':World):Prop:=∃(b:Nat) (ws:List Nat),e=.returned (.slice (some ⟨b,0,none⟩) n ws.length)∧MRes w z n b ws w'
theorem make_calls (z:Value) (n:Nat) (w:World) (hz:Zs w z) (h0:0<n) (hn:n≤100000):
 Calls Tryz.prog 150 #[z,.int .i64 (n:Int)] w (MRet w z n):=by
 have alloc:∀c,n≤c→c≤200000→∃w1,(Instr.makeSlice 118 (.int .i64 (n:Int)) (.int .i64 (c:Int))).run Tryz.prog w=.ok (.slice (some ⟨w.heap.size,0,none⟩) n c) w1∧MRes w z n w.heap.size (List.replicate c 0) w1:=fun c h1 h2=>by
  obtain⟨w1,hrun,hb,hm⟩:=make_words w 118 n c Tryz.underlying118 h1 (by omega)
  exact⟨w1,hrun,hb,by simpa using h1,hm,.inr (Nat.le_refl _),fun hk=>absurd (hz.lt _ hk) (Nat.lt_irrefl _)⟩
 have fin:∀(l c:Nat) (a:Option Addr),z=.slice a l c→c<n→Calls Tryz.prog 150 #[.slice a l c,.int .i64 (n:Int)] w (MRet w z n):=by
  rintro l c a rfl hlt
  have hdec:decide (n≤c)=false:=by simp;omega
  by_cases h1:n=1
  ·have hn1:((n:Int)==1)=true:=by simp;omega
   obtain⟨w1,hrun,hres⟩:=alloc 1 (by omega) (by omega)
   have hrun':(Instr.makeSlice 118 (.int .i64 1) (.int .i64 1)).run Tryz.prog w=.ok (.slice (some ⟨w.heap.size,0,none⟩) n 1) w1:=by rw[←hrun,h1];rfl
   have HR:=Lh hres
   clear hrun hres alloc h1 hlt
   go_enter Tryz.func150,Tryz.ntmps150
   go_wp2
   go_ret
   exact⟨_,_,rfl,HR.out⟩
  ·have hn1:((n:Int)==1)=false:=by simp;omega
   obtain⟨w1,hrun,hres⟩:=alloc (n+4) (by omega) (by omega)
   have e:((n+4:Nat):Int)=(n:Int)+4:=by omega
   rw[e] at hrun
   have HR:=Lh hres
   clear hres alloc h1 hlt e
   go_enter Tryz.func150,Tryz.ntmps150
   go_wp2
   go_ret
   exact⟨_,_,by rw[List.length_replicate]<;>rfl,HR.out⟩
 rcases hz with rfl|⟨b,l,ws,rfl,hb,hl⟩
 ·exact fin 0 0 none rfl h0
 ·rcases Nat.lt_or_ge ws.length n with h|h
  ·exact fin l ws.length _ rfl h
  ·have hdec:decide (n≤ws.length)=true:=by simp;omega
   clear fin alloc
   generalize hc:ws.length=c at*
   have HC:=Lh hc
   clear hc
   go_enter Tryz.func150,Tryz.ntmps150
   go_wp2
   go_ret
   exact⟨b,ws,by rw[HC.out]<;>rfl,hb,by rw[HC.out];exact h,Mod.refl _ _,.inl (by simp[sb]),fun _=>hb⟩
end Go.Proofs.YtcpjclakdpjjfaaGreatDoor
namespace Go.Proofs.YtcpjclakdpjjfaaGreatDoor
open Go.RowKit Wd
def cmpI (a b:Nat):Int:=if a<b then -1 else if b<a then 1 else 0
theorem val_lt_len {xs ys:List Nat} (hx:WL xs) (hy:Nrm ys) (h:xs.length<ys.length):val xs<val ys:=by
 have hne:ys≠[]:=by intro e;simp[e] at h
 have h1:=pow_le_val hy hne
 have h2:=val_lt hx
 have h3:B^xs.length≤B^(ys.length-1):=Nat.pow_le_pow_right B_pos (by omega)
 omega
theorem take_split {xs:List Nat} {k m:Nat} (hk:k<m) (hm:m≤xs.length):val (xs.take m)=val (xs.take k)+B^k*(wat xs k+B*val (seg xs (k+1) (m-(k+1)))):=by
 have h1:xs.take m=xs.take k++seg xs k (m-k):=by
  have:=seg_append (xs:=xs) (o:=0) (j:=k) (n:=m) (by omega) (by omega)
  rwa [seg_all,seg_all,Nat.zero_add] at this
 have h2:m-k=m-(k+1)+1:=by omega
 rw[h1,val_append,List.length_take,Nat.min_eq_left (by omega),h2,seg_cons' (by omega),val_cons]
theorem seg_eq {xs ys:List Nat} {o n:Nat} (hx:o+n≤xs.length) (hy:o+n≤ys.length) (h:∀j,o≤j→j<o+n→wat xs j=wat ys j):seg xs o n=seg ys o n:=by
 apply List.ext_getElem?
 intro i
 rcases Nat.lt_or_ge i n with hi|hi
 ·rw[wat_seg hi hx,wat_seg hi hy,h _ (by omega) (by omega)]
 ·rw[List.getElem?_eq_none (by rw[seg_length hx];exact hi),List.getElem?_eq_none (by rw[seg_length hy];exact hi)]
theorem top_lt {xs ys:List Nat} {k m:Nat} (hx:WL xs) (hk:k<m) (hxm:m≤xs.length) (hym:m≤ys.length) (h:∀j,k<j→j<m→wat xs j=wat ys j) (hlt:wat xs k<wat ys k):
 val (xs.take m)<val (ys.take m):=by
 rw[take_split hk hxm,take_split hk hym,seg_eq (ys:=ys) (by omega) (by omega) (fun j h1 h2=>h j (by omega) (by omega))]
 have h1:=val_lt (WL_take hx k)
 rw[List.length_take,Nat.min_eq_left (by omega)] at h1
 have h2:B^k*(wat xs k+B*val (seg ys (k+1) (m-(k+1)))+1)≤B^k*(wat ys k+B*val (seg ys (k+1) (m-(k+1)))):=Nat.mul_le_mul_left _ (by omega)
 rw[Nat.mul_add,Nat.mul_one] at h2
 omega
theorem top_eq {xs ys:List Nat} {m:Nat} (hm:0<m) (hxm:m≤xs.length) (hym:m≤ys.length) (h:∀j,0<j→j<m→wat xs j=wat ys j) (he:wat xs 0=wat ys 0):
 val (xs.take m)=val (ys.take m):=by
 rw[take_split hm hxm,take_split hm hym,seg_eq (ys:=ys) (by omega) (by omega) (fun j h1 h2=>h j (by omega) (by omega)),he]
 simp
theorem cmp_short (a a':Option Addr) (m c n c':Nat) (w:World) (h:m≠n∨m=0):
 Calls Tryz.prog 156 #[.slice a m c,.slice a' n c'] w fun e w'=>e=.returned (.int .i64 (cmpI m n))∧w=w':=by
 rcases Nat.lt_trichotomy m n with h1|h1|h1
 ·have e:cmpI m n=-1:=by simp[cmpI,h1]
  have t1:((m:Int) !=(n:Int))=true:=by simp;omega
  have t2:decide (m<n)=true:=by simp;omega
  rw[e]
  clear e h h1
  go_enter Tryz.func156,Tryz.ntmps156
  go_wp2
  go_ret
  exact⟨rfl,rfl⟩
 ·subst h1
  have hm:m=0:=by omega
  subst hm
  have e:cmpI 0 0=0:=by simp[cmpI]
  rw[e]
  clear e h
  go_enter Tryz.func156,Tryz.ntmps156
  go_wp2
  go_ret
  exact⟨rfl,rfl⟩
 ·have e:cmpI m n=1:=by
   have:¬m<n:=by omega
   simp[cmpI,h1,this]
  have t1:((m:Int) !=(n:Int))=true:=by simp;omega
  have t2:decide (m<n)=false:=by simp;omega
  have t3:decide (n<m)=true:=by simp;omega
  rw[e]
  clear e h h1
  go_enter Tryz.func156,Tryz.ntmps156
  go_wp2
  go_ret
  exact⟨rfl,rfl⟩
theorem cmp_same (b c b' c' m:Nat) (xs ys:List Nat) (w:World) (hx:Blk w b xs) (hy:Blk w b' ys) (h0:0<m) (hxm:m≤xs.length) (hym:m≤ys.length) (hm:m≤1000000):
 Calls Tryz.prog 156 #[.slice (some ⟨b,0,none⟩) m c,.slice (some ⟨b',0,none⟩) m c'] w fun e w'=>e=.returned (.int .i64 (cmpI (val (xs.take m)) (val (ys.take m))))∧∃k,w'=w.drewN k:=by
 have t1:((m:Int) !=(m:Int))=false:=by simp
 have t2:((m:Int)==0)=false:=by simp;omega
 go_enter Tryz.func156,Tryz.ntmps156
 go_upto_block 1 with fail
 go_cut [7] (fun s wx=>∃k q:Nat,s=.int .i64 k∧wx=w.drewN q∧k<m∧(∀j,k<j→j<m→wat xs j=wat ys j)∧(wat xs k=wat ys k→k=0))
 case first=>
  go_wp2_with fail
  go_loopw [7] (fun i wr=>∃k q:Nat,i=.int .i64 k∧wr=w.drewN q∧k<m∧(∀j,k<j→j<m→wat xs j=wat ys j)) (fun i _=>(intOf i).toNat)
  case atStart=>exact⟨m-1,0,by congr 1;omega,rfl,by omega,fun j h1 h2=>by omega⟩
  case round=>
   obtain⟨k,q,rfl,rfl,hk,hall⟩:=hrel
   have HA:=Lh hall
   clear hall
   rcases Nat.eq_zero_or_pos k with hk0|hk0
   ·subst hk0
    have t:decide ((0:Int)<((0:Nat):Int))=false:=by decide
    have t':decide ((0:Int)<0)=false:=by decide
    go_wp2_with fail
    go_quiet (fail)
    go_wp2_with fail
    go_meet
    exact⟨0,q+nq,rfl,by first|rfl|rw[World.drewN_drewN],h0,HA.out,fun _=>rfl⟩
   ·have r1:=hx.cell (i:=k) (by omega)
    have r2:=hy.cell (i:=k) (by omega)
    have t:decide ((0:Int)<(k:Int))=true:=by simp;omega
    have t3:(0:Int)<k:=by omega
    have t4:(0:Int)≤k:=by omega
    have t5:(k:Int)<m:=by omega
    by_cases he:wat xs k=wat ys k
    ·have t6:(((wat xs k:Nat):Int)==((wat ys k:Nat):Int))=true:=by simp[he]
     have HE:=Lh he
     generalize hx':wat xs k=x at*
     generalize hy':wat ys k=y at*
     have hxx:=Lh hx'
     have hyy:=Lh hy'
     clear hx' hy'
     clear he
     obtain⟨j,rfl⟩:∃j,k=j+1:=⟨k-1,by omega⟩
     go_wp2_with fail
     go_quiet (fail)
     go_wp2_with fail
     refine⟨⟨j,q+nq,by go_num,by first|rfl|rw[World.drewN_drewN],by omega,fun i h1 h2=>?_⟩,by simp[intOf]⟩
     rcases Nat.lt_or_ge (j+1) i with h|h
     ·exact HA.out i h h2
     ·obtain rfl:i=j+1:=by omega
      exact hxx.out.trans (HE.out.trans hyy.out.symm)
    ·have t6:(((wat xs k:Nat):Int)==((wat ys k:Nat):Int))=false:=by simp;omega
     go_wp2_with fail
     go_quiet (fail)
     go_wp2_with fail
     go_meet
     exact⟨k,q+nq,rfl,by first|rfl|rw[World.drewN_drewN],hk,HA.out,fun h=>absurd h he⟩
 case rest=>
  obtain⟨k,q,rfl,rfl,hk,hall,hend⟩:=hcut
  have r1:=hx.cell (i:=k) (by omega)
  have r2:=hy.cell (i:=k) (by omega)
  have t4:(0:Int)≤k:=by omega
  have t5:(k:Int)<m:=by omega
  have hres:(wat xs k<wat ys k→cmpI (val (xs.take m)) (val (ys.take m))=-1)∧(wat ys k<wat xs k→cmpI (val (xs.take m)) (val (ys.take m))=1)∧(wat xs k=wat ys k→cmpI (val (xs.take m)) (val (ys.take m))=0):=by
   refine⟨fun h=>?_,fun h=>?_,fun h=>?_⟩
   ·have:=top_lt hx.wl hk hxm hym hall h
    simp[cmpI,this]
   ·have:=top_lt hy.wl hk hym hxm (fun j h1 h2=>(hall j h1 h2).symm) h
    have h2:¬val (xs.take m)<val (ys.take m):=by omega
    simp[cmpI,this,h2]
   ·have hk0:=hend h
    subst hk0
    rw[top_eq h0 hxm hym hall h]
    simp[cmpI]
  have HR:=Lh hres
  clear hres hall hend
  rcases Nat.lt_trichotomy (wat xs k) (wat ys k) with h|h|h
  ·have hr:=HR.out.1 h
   have HE:=Lh hr
   clear hr
   have t6:decide (wat xs k<wat ys k)=true:=by simp;exact h
   clear HR h
   go_wp2_with fail
   go_quiet (fail)
   go_wp2_with fail
   go_ret
   exact⟨by rw[HE.out]<;>rfl,q+nq,by first|rfl|rw[World.drewN_drewN]⟩
  ·have hr:=HR.out.2.2 h
   have HE:=Lh hr
   clear hr
   have t6:decide (wat xs k<wat ys k)=false:=by simp;omega
   have t7:decide (wat ys k<wat xs k)=false:=by simp;omega
   clear HR h
   go_wp2_with fail
   go_quiet (fail)
   go_wp2_with fail
   go_quiet (fail)
   go_wp2_with fail
   go_ret
   exact⟨by rw[HE.out]<;>rfl,_,by rw[World.drewN_drewN,World.drewN_drewN]⟩
  ·have hr:=HR.out.2.1 h
   have HE:=Lh hr
   clear hr
   have t6:decide (wat xs k<wat ys k)=false:=by simp;omega
   have t7:decide (wat ys k<wat xs k)=true:=by simp;exact h
   clear HR h
   go_wp2_with fail
   go_quiet (fail)
   go_wp2_with fail
   go_quiet (fail)
   go_wp2_with fail
   go_ret
   exact⟨by rw[HE.out]<;>rfl,_,by rw[World.drewN_drewN,World.drewN_drewN]⟩
@[irreducible] def Big:Nat:=B^64
theorem Big_eq:Big=B^64:=by unfold Big;rfl
theorem Nv.split {w:World} {v:Value} {n:Nat} (h:Nv w v n) (hb:n<Big):
 (v=.slice none 0 0∧n=0)∨∃(b l:Nat) (ws:List Nat),v=.slice (some ⟨b,0,none⟩) l ws.length∧Blk w b ws∧l≤ws.length∧Nrm (ws.take l)∧val (ws.take l)=n∧l≤64:=by
 rcases h with h|⟨b,l,ws,h1,h2,h3,h4,h5⟩
 ·exact .inl h
 ·refine .inr ⟨b,l,ws,h1,h2,h3,h4,h5,?_⟩
  have:=length_le_of_val h4 (k:=64) (by rw[h5,←Big_eq];exact hb)
  rwa [List.length_take,Nat.min_eq_left h3] at this
theorem Nv.eq_zero {l:Nat} {ws:List Nat} {n:Nat} (h1:Nrm (ws.take l)) (h2:val (ws.take l)=n) (hl:l≤ws.length):n=0↔l=0:=by
 rw[←h2,val_eq_zero_iff h1]
 constructor
 ·intro h
  have:=congrArg List.length h
  rw[List.length_take,Nat.min_eq_left hl] at this;exact this
 ·rintro rfl;rfl
theorem cmp_calls (x y:Value) (X Y:Nat) (w:World) (hx:Nv w x X) (hy:Nv w y Y) (hXb:X<Big) (hYb:Y<Big):
 Calls Tryz.prog 156 #[x,y] w fun e w'=>e=.returned (.int .i64 (cmpI X Y))∧∃k,w'=w.drewN k:=by
 rcases hx.split hXb with ⟨rfl,rfl⟩|⟨b,l,ws,rfl,h2,h3,h4,rfl,h6⟩
 ·rcases hy.split hYb with ⟨rfl,rfl⟩|⟨b',l',ws',rfl,k2,k3,k4,k5,k6⟩
  ·refine(cmp_short none none 0 0 0 0 w (.inr rfl)).mono ?_
   rintro e w' ⟨rfl,rfl⟩
   exact⟨rfl,0,rfl⟩
  ·refine(cmp_short none _ 0 0 l' _ w (by omega)).mono ?_
   rintro e w' ⟨rfl,rfl⟩
   refine⟨?_,0,rfl⟩
   have:=Nv.eq_zero k4 k5 k3
   congr 2
   simp only[cmpI]
   by_cases h:l'=0
   ·have hY:=this.2 h
    subst hY;subst h;rfl
   ·have hY:Y≠0:=fun e=>h (this.1 e)
    rw[if_pos (by omega),if_pos (by omega)]
 ·rcases hy.split hYb with ⟨rfl,rfl⟩|⟨b',l',ws',rfl,k2,k3,k4,rfl,k6⟩
  ·refine(cmp_short _ none l _ 0 0 w (by omega)).mono ?_
   rintro e w' ⟨rfl,rfl⟩
   refine⟨?_,0,rfl⟩
   have:=Nv.eq_zero h4 rfl h3
   congr 2
   simp only[cmpI]
   by_cases h:l=0
   ·rw[this.2 h];subst h;rfl
   ·have hY:val (ws.take l)≠0:=fun e=>h (this.1 e)
    rw[if_neg (by omega),if_pos (by omega),if_neg (by omega),if_pos (by omega)]
  ·by_cases hll:l≠l'∨l=0
   ·refine(cmp_short _ _ l _ l' _ w hll).mono ?_
    rintro e w' ⟨rfl,rfl⟩
    refine⟨?_,0,rfl⟩
    congr 2
    have hl1:(ws.take l).length=l:=by rw[List.length_take,Nat.min_eq_left h3]
    have hl2:(ws'.take l').length=l':=by rw[List.length_take,Nat.min_eq_left k3]
    simp only[cmpI]
    rcases Nat.lt_trichotomy l l' with h|h|h
    ·have:=val_lt_len (WL_take h2.wl l) k4 (by rw[hl1,hl2];exact h)
     rw[if_pos h,if_pos this]
    ·have e1:l=0:=by omega
     subst h;subst e1;rfl
    ·have:=val_lt_len (WL_take k2.wl l') h4 (by rw[hl1,hl2];exact h)
     rw[if_neg (by omega),if_pos h,if_neg (by omega),if_pos this]
   ·have hl:l=l':=by omega
    subst hl
    exact cmp_same b _ b' _ l ws ws' w h2 k2 (by omega) h3 k3 (by omega)
end Go.Proofs.YtcpjclakdpjjfaaGreatDoor
namespace Go.Proofs.YtcpjclakdpjjfaaGreatDoor
open Go.RowKit Wd
theorem spl_take (ws t:List Nat):(spl ws 0 t).take t.length=t:=by
 simp[spl]
theorem spl0_length {ws t:List Nat} (h:t.length≤ws.length):(spl ws 0 t).length=ws.length:=spl_length (by omega)
theorem VecPost.behind {w w1:World} {b n bx:Nat} {ws xs rs:List Nat} (h:VecPost w w1 b 0 n ws rs) (hb:Blk w b ws) (hx:Blk w bx xs) (hn:n≤ws.length):
 ∃xs',Blk w1 bx xs'∧xs'.length=xs.length∧∀k,seg xs' n k=seg xs n k:=by
 by_cases e:bx=b
 ·subst e
  obtain rfl:=hx.unique hb
  refine⟨_,h.blk,spl0_length (by rw[h.len];exact hn),fun k=>?_⟩
  have:=seg_spl_behind (zs:=xs) (rs:=rs) (o:=0) (m:=k) (by rw[h.len];omega)
  rwa [Nat.zero_add,h.len] at this
 ·exact⟨xs,hx.mod h.mod (by simpa using e),rfl,fun _=>rfl⟩
theorem carry_join {r1 r2 c1 c2 X1 X2 Y p q:Nat} (h1:r1+p*c1=X1+Y) (h2:r2+q*c2=X2+c1):r1+p*r2+p*q*c2=X1+p*X2+Y:=by
 have e:p*(r2+q*c2)=p*(X2+c1):=by rw[h2]
 simp only[Nat.mul_add] at e
 rw[Nat.mul_assoc];omega
theorem add_pos (z:Value) (bx bY m n:Nat) (xs ys:List Nat) (w:World) (hz:Zs w z) (hx:Blk w bx xs) (hy:Blk w bY ys) (hmx:m≤xs.length) (hny:n≤ys.length) (hnm:n≤m) (h0:0<n) (hm:m≤90000):
 Calls Tryz.prog 158 #[z,.slice (some ⟨bx,0,none⟩) m xs.length,.slice (some ⟨bY,0,none⟩) n ys.length] w (NRet w z (val (xs.take m)+val (ys.take n))):=by
 have t1:decide (m<n)=false:=by simp;omega
 have t2:((m:Int)==0)=false:=by simp;omega
 have t3:((n:Int)==0)=false:=by simp;omega
 have e1:IntKind.i64.wrap ((m:Int)+1)=((m+1:Nat):Int):=IntWalk.i64_in _ (by omega)
 have hmake:=fun w' (h:Zs w' z)=>make_calls z (m+1) w' h (by omega) (by omega)
 have HMK:=Lh hmake
 clear hmake
 go_enter Tryz.func158,Tryz.ntmps158
 go_wp2_with fail
 rw[show (m:Int)+1=((m+1:Nat):Int) from rfl]
 refine(HMK.out w hz).mono ?_
 rintro e w1 ⟨b,ws,rfl,hres⟩
 have hx1:=hx.mod hres.mod (by simp)
 have hy1:=hy.mod hres.mod (by simp)
 have hb1:=hres.blk
 have hle:=hres.le
 have h4:n≤ws.length:=by omega
 have h5:n≤xs.length:=by omega
 have HR:=Lh hres
 clear hres HMK
 go_wp2_with fail
 go_still_tail 9,(by kernel_rfl)
 change wpList _ _ _ _ _ (w1.drewN 1)
 go_wp2_with fail
 refine(addVV_calls b 0 _ bx 0 _ bY 0 _ n ws xs ys _ (hb1.drewN 1) (hx1.drewN 1) (hy1.drewN 1) (by omega) (by omega) (by omega) (fun _=>Nat.le_refl _) (fun _=>Nat.le_refl _) (by omega)).mono ?_
 rintro e w2 ⟨c,rs,rfl,hv,hc1,hval⟩
 rw[seg_all,seg_all] at hval
 have hcB:c<B:=by have:=B_one;omega
 have hv':VecPost w1 w2 b 0 n ws rs:=⟨hv.len,hv.wl,((Mod.refl [b] w1).drewN 1).trans hv.mod,hv.blk⟩
 rcases Nat.lt_or_ge n m with hlt|hge
 ·have t4:decide (n<m)=true:=by simp;exact hlt
  obtain⟨xs',hx2,hxl,hxs⟩:=hv'.behind hb1 hx1 h4
  have s1:¬ws.length=n:=by omega
  have s2:¬xs.length=n:=by omega
  have s3:m≤ws.length:=by omega
  have HV:=Lh (Aj hv' hval)
  clear hv hv' hval
  go_wp2_with fail
  go_still_tail 8,(by kernel_rfl)
  change wpList _ _ _ _ _ (w2.drewN 1)
  go_wp2_with fail
  refine(addVW_calls b n (ws.length-n) bx n (xs.length-n) (m-n) c (spl ws 0 rs) xs' _ (HV.out.1.blk.drewN 1) (hx2.drewN 1) (by rw[spl0_length (by rw[HV.out.1.len];omega)];omega) (by omega) (Classical.or_iff_not_imp_right.2 fun h=>⟨Classical.not_not.1 h,rfl⟩) (by omega) (by omega) (by omega) (by omega) hcB).mono ?_
  rintro e w3 ⟨c2,rs2,rfl,hv2,hc2,hval2⟩
  obtain⟨hv1,hval1⟩:=HV.out
  have hv3:VecPost w1 w3 b 0 m ws (rs++rs2):=by
   refine⟨by rw[List.length_append,hv1.len,hv2.len];omega,WL_append.2 ⟨hv1.wl,hv2.wl⟩,(hv1.mod.drewN 1).trans hv2.mod,?_⟩
   have:=hv2.blk
   rw[show n=0+rs.length by rw[hv1.len,Nat.zero_add],spl_spl rs rs2 (by rw[hv1.len,hv2.len];omega)] at this
   exact this
  have hval3:val (rs++rs2)+B^m*c2=val (xs.take m)+val (ys.take n):=by
   have e1:=seg_append (xs:=xs) (o:=0) (j:=n) (n:=m) hnm (by omega)
   rw[seg_all,seg_all,Nat.zero_add] at e1
   have e2:B^m=B^n*B^(m-n):=by rw[←Nat.pow_add];congr 1;omega
   rw[hxs] at hval2
   rw[val_append,hv1.len,e1,val_append,List.length_take,Nat.min_eq_left (by omega),e2]
   exact carry_join hval1 hval2
  have hnext:=hv3.next (s:=c2) (by omega) (by have:=B_one;omega)
  have fz:=hv3.blk.free (0+m)
  have rz:=hv3.blk.cell (i:=0+m) (by rw[spl0_length (by rw[hv3.len];omega)];omega)
  rw[Nat.zero_add] at hnext fz rz
  have hn1:((m:Int))<(m:Int)+1:=by omega
  have hn2:(0:Int)≤m:=by omega
  have hblk:=hnext.blk
  have hlen:(spl ws 0 (rs++rs2++[c2])).length=ws.length:=spl0_length (by rw[hnext.len];omega)
  have fin:NRes w z (val (xs.take m)+val (ys.take n)) (.slice (some ⟨b,0,none⟩) (nlen (spl ws 0 (rs++rs2++[c2])) (m+1)) ws.length) (w3.setCell ⟨b,m,none⟩ (.int .u64 (c2:Int))):=by
   rw[←hlen]
   refine norm_nv (ws:=spl ws 0 (rs++rs2++[c2])) hblk (by rw[hlen];exact hle) ?_ ?_ HR.out.own
   ·have:=spl_take ws (rs++rs2++[c2])
    rw[hnext.len] at this
    rw[this,val_snoc,hv3.len];exact hval3
   ·exact(HR.out.mod.mono (by simp)).step hnext.mod (fun x hx=>by rw[List.mem_singleton.1 hx];exact HR.out.own)
  have FIN:=Lh fin
  clear fin hv1 hval1 hv2 hval2 hv3 hval3 hnext HV hx2 hxl hxs hb1 hx1 hy1 hx hy
  generalize spl ws 0 (rs++rs2++[c2])=fs at*
  go_wp2_with fail
  refine(norm_calls b (m+1) ws.length _ _ hblk (by rw[hlen];exact hle) hle (by omega)).mono ?_
  rintro e w' ⟨rfl,rfl⟩
  go_wp2_with fail
  go_ret
  exact⟨_,rfl,FIN.out⟩
 ·obtain rfl:m=n:=by omega
  have t4:decide (m<m)=false:=by simp
  have hnext:=hv'.next (s:=c) (by omega) hcB
  have fz:=hv'.blk.free (0+m)
  have rz:=hv'.blk.cell (i:=0+m) (by rw[spl0_length (by rw[hv'.len];omega)];omega)
  rw[Nat.zero_add] at hnext fz rz
  have hn1:((m:Int))<(m:Int)+1:=by omega
  have hn2:(0:Int)≤m:=by omega
  have hblk:=hnext.blk
  have hlen:(spl ws 0 (rs++[c])).length=ws.length:=spl0_length (by rw[hnext.len];omega)
  have fin:NRes w z (val (xs.take m)+val (ys.take m)) (.slice (some ⟨b,0,none⟩) (nlen (spl ws 0 (rs++[c])) (m+1)) ws.length) (w2.setCell ⟨b,m,none⟩ (.int .u64 (c:Int))):=by
   rw[←hlen]
   refine norm_nv (ws:=spl ws 0 (rs++[c])) hblk (by rw[hlen];exact hle) ?_ ?_ HR.out.own
   ·have:=spl_take ws (rs++[c])
    rw[hnext.len] at this
    rw[this,val_snoc,hv'.len];exact hval
   ·exact(HR.out.mod.mono (by simp)).step hnext.mod (fun x hx=>by rw[List.mem_singleton.1 hx];exact HR.out.own)
  have FIN:=Lh fin
  clear fin hv hv' hval hnext hb1 hx1 hy1 hx hy hge
  generalize spl ws 0 (rs++[c])=fs at*
  go_wp2_with fail
  refine(norm_calls b (m+1) ws.length _ _ hblk (by rw[hlen];exact hle) hle (by omega)).mono ?_
  rintro e w' ⟨rfl,rfl⟩
  go_wp2_with fail
  go_ret
  exact⟨_,rfl,FIN.out⟩
theorem head_res {w:World} {a:Option Addr} {l c:Nat} (h:Zs w (.slice a l c)):NRes w (.slice a l c) 0 (.slice a 0 c) w:=by
 refine⟨?_,Mod.refl _ _,fun k hk=>by cases a with|none=>exact absurd hk (by simp[sb])|some p=>exact .inl hk⟩
 rcases h with h|⟨b,l',ws,h1,h2,h3⟩
 ·cases h;exact .inl ⟨rfl,rfl⟩
 ·cases h1;exact .inr ⟨b,0,ws,rfl,h2,Nat.zero_le _,by simp[Nrm],rfl⟩
theorem Zs.slice {w:World} {z:Value} (h:Zs w z):∃a l c,z=.slice a l c∧l≤c:=by
 rcases h with rfl|⟨b,l,ws,rfl,_,h3⟩
 ·exact⟨_,_,_,rfl,Nat.le_refl _⟩
 ·exact⟨_,_,_,rfl,h3⟩
theorem make0_calls (a:Option Addr) (l c:Nat) (w:World):
 Calls Tryz.prog 150 #[.slice a l c,.int .i64 0] w fun e w'=>e=.returned (.slice a 0 c)∧w=w':=by
 go_enter Tryz.func150,Tryz.ntmps150
 go_wp2
 go_ret
 exact⟨rfl,rfl⟩
theorem set_calls (z x:Value) (X:Nat) (w:World) (hz:Zs w z) (hx:Nv w x X) (hXb:X<Big):
 Calls Tryz.prog 149 #[z,x] w (NRet w z X):=by
 have empty:∀(a a':Option Addr) (l c c':Nat),z=.slice a l c→x=.slice a' 0 c'→X=0→Calls Tryz.prog 149 #[z,x] w (NRet w z X):=by
  rintro a a' l c c' rfl rfl rfl
  have hr:=head_res hz
  have hcp:=copy_none w 118 118 a a' 0 c 0 c' Tryz.underlying118 rfl
  have HR:=Lh hr
  clear hr hz hx hXb
  go_enter Tryz.func149,Tryz.ntmps149
  go_wp2_with fail
  refine(make0_calls a l c w).mono ?_
  rintro e w' ⟨rfl,rfl⟩
  go_wp2_with fail
  go_ret
  exact⟨_,rfl,HR.out⟩
 obtain⟨a,l,c,hzs,_⟩:=hz.slice
 rcases hx.split hXb with ⟨rfl,rfl⟩|⟨b,n,xs,rfl,h2,h3,h4,h5,h6⟩
 ·exact empty a none l c 0 hzs rfl rfl
 ·rcases Nat.eq_zero_or_pos n with h0|h0
  ·subst h0
   exact empty a _ l c _ hzs rfl h5.symm
  ·have hmake:=make_calls z n w hz h0 (by omega)
   clear empty hzs hx
   go_enter Tryz.func149,Tryz.ntmps149
   go_wp2_with fail
   refine hmake.mono ?_
   rintro e w1 ⟨b1,ws,rfl,hres⟩
   obtain⟨w2,hrun,hmod,hblk⟩:=copy_words w1 118 118 b1 0 n ws.length b 0 n xs.length n ws xs Tryz.underlying118 hres.blk (h2.mod hres.mod (by simp)) (by simp) (by have:=hres.le;omega) (by omega)
   have hsl:(seg xs 0 n).length=n:=seg_length (by omega)
   have hl:(spl ws 0 (seg xs 0 n)).length=ws.length:=spl0_length (by rw[hsl];exact hres.le)
   have fin:NRes w z X (.slice (some ⟨b1,0,none⟩) n ws.length) w2:=by
    rw[←hl]
    have e:=spl_take ws (seg xs 0 n)
    rw[hsl] at e
    refine⟨.inr ⟨b1,n,_,rfl,hblk,by rw[hl];exact hres.le,?_,?_⟩,?_,fun k hk=>by rw[List.mem_singleton.1 hk];exact hres.own⟩
    ·rw[e,seg_all];exact h4
    ·rw[e,seg_all];exact h5
    ·exact(hres.mod.mono (by simp)).step hmod (fun x hx=>by rw[List.mem_singleton.1 hx];exact hres.own)
   have FIN:=Lh fin
   clear fin hres hmod hblk hmake h5
   go_wp2_with fail
   go_ret
   exact⟨_,rfl,FIN.out⟩
theorem wds_one {x:Nat} (h0:x≠0) (ws:List Nat):Nrm ((spl ws 0 [x]).take 1)∧val ((spl ws 0 [x]).take 1)=x:=by
 have e:(spl ws 0 [x]).take 1=[x]:=spl_take ws [x]
 rw[e]
 exact⟨by simp[Nrm,h0],by simp[val_cons]⟩
theorem setWord_calls (z:Value) (x:Nat) (w:World) (hz:Zs w z) (hx:x<B):
 Calls Tryz.prog 186 #[z,.int .u64 x] w (NRet w z x):=by
 rcases Nat.eq_zero_or_pos x with h0|h0
 ·subst h0
  obtain⟨a,l,c,rfl,_⟩:=hz.slice
  have hr:=head_res hz
  have HR:=Lh hr
  have t:(((0:Nat):Int)==0)=true:=by decide
  clear hr hz
  go_enter Tryz.func186,Tryz.ntmps186
  go_wp2_with fail
  go_ret
  exact⟨_,rfl,HR.out⟩
 ·have t:((x:Int)==0)=false:=by simp;omega
  have hmake:=make_calls z 1 w hz (by omega) (by omega)
  go_enter Tryz.func186,Tryz.ntmps186
  go_wp2_with fail
  refine hmake.mono ?_
  rintro e w1 ⟨b1,ws,rfl,hres⟩
  have hnext:=(VecPost.nil (oz:=0) hres.blk).next (s:=x) (by have:=hres.le;omega) hx
  rw[List.nil_append,Nat.zero_add] at hnext
  have fz:=hres.blk.free 0
  have rz:=hres.blk.cell (i:=0) hres.le
  have hl:(spl ws 0 [x]).length=ws.length:=spl0_length hres.le
  have fin:NRes w z x (.slice (some ⟨b1,0,none⟩) 1 ws.length) (w1.setCell ⟨b1,0,none⟩ (.int .u64 (x:Int))):=by
   rw[←hl]
   obtain⟨e1,e2⟩:=wds_one (x:=x) (by omega) ws
   exact⟨.inr ⟨b1,1,_,rfl,hnext.blk,by rw[hl];exact hres.le,e1,e2⟩,(hres.mod.mono (by simp)).step hnext.mod (fun x hx=>by rw[List.mem_singleton.1 hx];exact hres.own),fun k hk=>by rw[List.mem_singleton.1 hk];exact hres.own⟩
  have FIN:=Lh fin
  clear fin hres hnext hmake hl
  go_wp2_with fail
  go_ret
  exact⟨_,rfl,FIN.out⟩
theorem setUint64_calls (z:Value) (x:Nat) (w:World) (hz:Zs w z) (hx:x<B):
 Calls Tryz.prog 155 #[z,.int .u64 x] w (NRet w z x):=by
 have t:((x:Int)==(x:Int))=true:=by simp
 have h:=setWord_calls z x w hz hx
 go_enter Tryz.func155,Tryz.ntmps155
 go_wp2_with fail
 refine h.mono ?_
 rintro e w1 ⟨v,rfl,hres⟩
 go_wp2_with fail
 go_ret
 exact⟨_,rfl,hres⟩
theorem nv_form {w:World} {v:Value} {n:Nat} (h:Nv w v n) (hb:n<Big):
 (∃a c,v=.slice a 0 c∧n=0)∨∃(b l:Nat) (ws:List Nat),v=.slice (some ⟨b,0,none⟩) l ws.length∧0<l∧Blk w b ws∧l≤ws.length∧Nrm (ws.take l)∧val (ws.take l)=n∧l≤64∧0<n:=by
 rcases h.split hb with ⟨rfl,rfl⟩|⟨b,l,ws,rfl,h2,h3,h4,h5,h6⟩
 ·exact .inl ⟨_,_,rfl,rfl⟩
 ·rcases Nat.eq_zero_or_pos l with h0|h0
  ·subst h0;exact .inl ⟨_,_,rfl,h5.symm⟩
  ·refine .inr ⟨b,l,ws,rfl,h0,h2,h3,h4,h5,h6,?_⟩
   have:=Nv.eq_zero h4 h5 h3
   omega
theorem add_zero (z x:Value) (a:Option Addr) (m c:Nat) (a':Option Addr) (c' X:Nat) (w:World) (hz:Zs w z) (hxs:x=.slice a m c) (h0:0<m) (hx:Nv w x X) (hXb:X<Big):
 Calls Tryz.prog 158 #[z,x,.slice a' 0 c'] w (NRet w z X):=by
 have hset:=set_calls z x X w hz hx hXb
 subst hxs
 have t1:decide (m<0)=false:=by simp
 have t2:((m:Int)==0)=false:=by simp;omega
 clear hx
 go_enter Tryz.func158,Tryz.ntmps158
 go_wp2_with fail
 refine hset.mono ?_
 rintro e w1 ⟨v,rfl,hres⟩
 go_wp2_with fail
 go_ret
 exact⟨_,rfl,hres⟩
theorem add_flip (z:Value) (a:Option Addr) (m c:Nat) (a':Option Addr) (n c':Nat) (R:Nat) (w:World) (h:m<n)
 (hf:Calls Tryz.prog 158 #[z,.slice a' n c',.slice a m c] w (NRet w z R)):
 Calls Tryz.prog 158 #[z,.slice a m c,.slice a' n c'] w (NRet w z R):=by
 have t1:decide (m<n)=true:=by simp;exact h
 go_enter Tryz.func158,Tryz.ntmps158
 go_wp2_with fail
 refine hf.mono ?_
 rintro e w1 ⟨v,rfl,hres⟩
 go_wp2_with fail
 go_ret
 exact⟨_,rfl,hres⟩
theorem add_calls (z x y:Value) (X Y:Nat) (w:World) (hz:Zs w z) (hx:Nv w x X) (hy:Nv w y Y) (hXb:X<Big) (hYb:Y<Big):
 Calls Tryz.prog 158 #[z,x,y] w (NRet w z (X+Y)):=by
 rcases nv_form hx hXb with ⟨a,c,rfl,rfl⟩|⟨b,l,ws,rfl,h1,h2,h3,h4,h5,h6,h7⟩
 ·rcases nv_form hy hYb with ⟨a',c',rfl,rfl⟩|⟨b',l',ws',rfl,k1,k2,k3,k4,k5,k6,k7⟩
  ·obtain⟨az,lz,cz,rfl,_⟩:=hz.slice
   have hr:=head_res hz
   have HR:=Lh hr
   clear hr hx hy hz
   go_enter Tryz.func158,Tryz.ntmps158
   go_wp2_with fail
   go_ret
   exact⟨_,rfl,HR.out⟩
  ·rw[Nat.zero_add]
   exact add_flip z a 0 c _ l' _ Y w k1 (add_zero z _ _ l' _ a c Y w hz rfl k1 hy hYb)
 ·rcases nv_form hy hYb with ⟨a',c',rfl,rfl⟩|⟨b',l',ws',rfl,k1,k2,k3,k4,k5,k6,k7⟩
  ·exact add_zero z _ _ l _ a' c' X w hz rfl h1 hx hXb
  ·rcases Nat.lt_or_ge l l' with h|h
   ·refine add_flip z _ l _ _ l' _ (X+Y) w h ?_
    have:=add_pos z b' b l' l ws' ws w hz k2 h2 k3 h3 (by omega) h1 (by omega)
    rw[k5,h5,Nat.add_comm] at this
    exact this
   ·have:=add_pos z b b' l l' ws ws' w hz h2 k2 h3 k3 h k1 (by omega)
    rw[k5,h5] at this
    exact this
end Go.Proofs.YtcpjclakdpjjfaaGreatDoor
