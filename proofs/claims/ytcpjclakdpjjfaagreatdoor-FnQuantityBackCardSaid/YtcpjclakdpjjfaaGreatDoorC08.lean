/- Long division (bigall/natdiv. -/
import Derived.Test.YtcpjclakdpjjfaaGreatDoorC07
import Derived.Deep.CutRange
set_option maxHeartbeats 1600000
set_option maxRecDepth 10000
namespace Go.Proofs.YtcpjclakdpjjfaaGreatDoor
open Go.RowKit Wd
structure DM (w wr:World) (bu bq bh oh bv ov n m s l r:Nat) (T vw:List Nat) (lu lq:Nat) (us qs:List Nat):Prop where
 mod:Mod (bu::bq::bh::T) w wr
 u:Blk wr bu us
 lu:us.length=lu
 q:Blk wr bq qs
 lq:qs.length=lq
 h:∃hs,Blk wr bh hs∧oh+n+1≤hs.length
 v:∃xs,Blk wr bv xs∧ov+n≤xs.length∧seg xs ov n=vw
 stk:Stk wr s l r T
structure DF (bu bq bh oh bv ov n m lu lq:Nat) (vw:List Nat) (V v1 v2 rec:Nat) (T:List Nat):Prop where
 n2:2≤n
 n40:n≤60
 m90:m≤200
 hlu:m+n≤lu
 hlq:m≤lq
 uq:bu≠bq
 uh:bu≠bh
 uv:bu≠bv
 qh:bq≠bh
 qv:bq≠bv
 uT:bu∉T
 qT:bq∉T
 hv:bh=bv→ov+n≤oh
 vl:vw.length=n
 wl:WL vw
 vval:val vw=V
 v1e:wat vw (n-1)=v1
 v2e:wat vw (n-2)=v2
 v1B:v1<B
 v2B:v2<B
 v1n:B≤2*v1
 recO:RecOk v1 rec
 recB:rec<B
theorem Stk.row_mem {w:World} {s l r:Nat} {T:List Nat} (h:Stk w s l r T):r∈T:=by
 rcases h with ⟨_,_,h3,h4⟩|⟨i,ws,_,_,_,_,h5⟩
 ·rw[h3,h4];simp
 ·rw[h5];simp
theorem wat_of_seg {xs:List Nat} {o n j:Nat} (hj:j<n) (h:o+n≤xs.length):wat (seg xs o n) j=wat xs (o+j):=by
 have:=wat_seg hj h
 simp[wat,List.getD_eq_getElem?_getD] at this ⊢
 rw[this];rfl
theorem DF.vpos {bu bq bh oh bv ov n m lu lq:Nat} {vw:List Nat} {V v1 v2 rec:Nat} {T:List Nat} (F:DF bu bq bh oh bv ov n m lu lq vw V v1 v2 rec T):
 0<V∧V=val (vw.take (n-2))+B^(n-2)*(v1*B+v2)∧V=val (vw.take (n-1))+B^(n-1)*v1∧V<B^n∧val (vw.take (n-2))<B^(n-2)∧val (vw.take (n-1))<B^(n-1):=by
 obtain⟨p,hp⟩:∃p,n=p+2:=⟨n-2,by have:=F.n2;omega⟩
 have hl:=F.vl
 have h1:=take_step (us:=vw) (j:=p+1) (by omega)
 have h2:=take_step (us:=vw) (j:=p) (by omega)
 have h3:(p+1+1)=vw.length:=by omega
 have k1:=val_lt (WL_take F.wl p)
 have k2:=val_lt (WL_take F.wl (p+1))
 have k3:=val_lt F.wl
 rw[List.length_take,Nat.min_eq_left (by omega)] at k1 k2
 have f1:=F.v1e
 have f2:=F.v2e
 have e1:n-1=p+1:=by omega
 have e2:n-2=p:=by omega
 rw[e1] at f1
 rw[e2] at f2
 rw[h3,List.take_length,F.vval,f1] at h1
 rw[f2] at h2
 rw[F.vval,hl] at k3
 rw[e1,e2]
 have hv0:=F.v1n
 have h4:V=val (vw.take p)+B^p*(v1*B+v2):=by
  rw[h1,h2,Nat.pow_succ,Nat.mul_add,Nat.mul_comm v1 B,Nat.mul_assoc,Nat.add_assoc,Nat.add_comm (B^p*v2)]
 refine⟨?_,h4,h1,k3,k1,k2⟩
 have hb:=B_pos
 have:0<v1:=by omega
 rw[h1]
 exact Nat.lt_of_lt_of_le (Nat.mul_pos (Nat.pow_pos hb) this) (Nat.le_add_left _ _)
theorem DF.yle {bu bq bh oh bv ov n m lu lq:Nat} {vw:List Nat} {V v1 v2 rec:Nat} {T:List Nat} (F:DF bu bq bh oh bv ov n m lu lq vw V v1 v2 rec T) {U0 k y:Nat} {us qs:List Nat} (hL:DL n m V U0 k y us qs):y≤v1:=by
 have h1:=hL.small
 obtain⟨_,_,h2,_,_,h3⟩:=F.vpos
 rw[h2] at h1
 generalize B^(n-1)=p at*
 have:p*y<p*(v1+1):=by rw[Nat.mul_add];omega
 have:=Nat.lt_of_mul_lt_mul_left this
 omega
theorem DF.sect {bu bq bh oh bv ov n m lu lq:Nat} {vw:List Nat} {V v1 v2 rec:Nat} {T:List Nat} (F:DF bu bq bh oh bv ov n m lu lq vw V v1 v2 rec T) {U0 j y:Nat} {us qs:List Nat} (hL:DL n m V U0 (j+1) y us qs) (hj:j<m) (hl:us.length=lu) (hw:WL us):
 val (seg us j (n+1))=val (seg us j (n-2))+B^(n-2)*((y*B+wat us (j+n-1))*B+wat us (j+n-2))∧val (seg us j (n-2))<B^(n-2)∧
 val (seg us j (n+1))=val (seg us j n)+B^n*y∧val (seg us j n)<B^n:=by
 obtain⟨p,hp⟩:∃p,n=p+2:=⟨n-2,by have:=F.n2;omega⟩
 have hlu:=F.hlu
 have ht:=hL.top (by omega)
 have e0:n-2=p:=by omega
 have e1:j+n-1=j+(p+1):=by omega
 have e2:j+n-2=j+p:=by omega
 have e3:j+1+n-1=j+(p+2):=by omega
 rw[e3] at ht
 have c1:j+(p+2)<us.length:=by omega
 have c2:j+(p+1)<us.length:=by omega
 have c3:j+p<us.length:=by omega
 have c4:j+(p+2)≤us.length:=by omega
 have h1:=val_seg_succ (xs:=us) (o:=j) (n:=p+2) c1
 have h2:=val_seg_succ (xs:=us) (o:=j) (n:=p+1) c2
 have h3:=val_seg_succ (xs:=us) (o:=j) (n:=p) c3
 rw[ht] at h1
 have k1:=val_lt (WL_seg hw j p)
 rw[seg_length (Nat.le_of_lt c3)] at k1
 have k2:=val_lt (WL_seg hw j (p+2))
 rw[seg_length c4] at k2
 rw[e0,e1,e2,hp]
 refine⟨?_,k1,h1,k2⟩
 rw[h1,h2,h3]
 clear h1 h2 h3 k1 k2 ht
 generalize wat us (j+p)=a
 generalize wat us (j+(p+1))=c
 generalize val (seg us j p)=d
 rw[Nat.pow_succ B (p+1),Nat.pow_succ B p]
 generalize B^p=P
 generalize B=b
 grind -mbtc
theorem lt_pack {d P K:Nat} (h:d<P):d+P*K<(K+1)*P:=by rw[Nat.add_mul,Nat.mul_comm P];omega
theorem DF.dig {bu bq bh oh bv ov n m lu lq:Nat} {vw:List Nat} {V v1 v2 rec:Nat} {T:List Nat} (F:DF bu bq bh oh bv ov n m lu lq vw V v1 v2 rec T) {U0 j y:Nat} {us qs:List Nat} (hL:DL n m V U0 (j+1) y us qs) (hj:j<m) (hl:us.length=lu) (hw:WL us):
 Dig v1 v2 y (wat us (j+n-1)) (wat us (j+n-2)) (val (seg us j (n+1))/V)∧(∀q,QF v1 v2 y (wat us (j+n-1)) (wat us (j+n-2)) (val (seg us j (n+1))/V) q→q≤val (seg us j (n+1))/V+1)∧
 (y=v1→val (seg us j (n+1))/V≤B-1∧B-1≤val (seg us j (n+1))/V+1):=by
 obtain⟨V0,V1,V2,V3,V4,V5⟩:=F.vpos
 obtain⟨D1,D2,D3,D4⟩:=F.sect hL hj hl hw
 have hDV:=(hL.sect F.n2 hj (by rw[hl];exact F.hlu) hw).1
 refine⟨dig_ok (p:=B^(n-2)) F.v1B F.v2B (wat_lt hw _) (wat_lt hw _) F.v1n ?_ ?_,fun q hq=>hq.near (p:=B^(n-2)) F.v1n ?_ V0 ?_,fun hy=>top_near (p:=B^(n-1)) F.v1n ?_ V0 ?_ hDV⟩
 ·rw[Nat.mul_comm];exact V1▸Nat.le_add_left _ _
 ·rw[D1];exact lt_pack D2
 ·have:=lt_pack (K:=v1*B+v2) V4
  rwa [←V1] at this
 ·rw[D1,Nat.mul_comm];exact Nat.le_add_left _ _
 ·have:=lt_pack (K:=v1) V5
  rwa [←V2] at this
 ·rw[D3,hy]
  have e:B^n=B^(n-1)*B:=by
   obtain⟨p,hp⟩:∃p,n=p+1:=⟨n-1,by have:=F.n2;omega⟩
   rw[hp,Nat.add_sub_cancel,Nat.pow_succ]
  rw[e,Nat.mul_comm (v1*B),Nat.mul_comm v1 B,Nat.mul_assoc]
  exact Nat.le_add_left _ _
def DBRet (w:World) (bu bq m n:Nat) (S:List Nat) (lu lq:Nat) (U0 V:Nat) (P:World→Prop) (e:Ending) (w':World):Prop:=
 ∃us qs:List Nat,e=.returned (.tuple #[])∧Mod S w w'∧Blk w' bu us∧us.length=lu∧Blk w' bq qs∧qs.length=lq∧val (us.take (m+n))=U0%V∧val (qs.take m)=U0/V∧P w'
theorem Dig.small {v1 v2 u2 u1 u0 Q:Nat} (D:Dig v1 v2 u2 u1 u0 Q) (hlt:u2<v1):(u2*B+u1)/v1<B:=by
 rw[Nat.div_lt_iff_lt_mul (by omega)]
 have:(u2+1)*B≤v1*B:=Nat.mul_le_mul_right _ hlt
 have:=D.hu1
 rw[Nat.mul_comm B v1]
 rw[Nat.add_mul] at*;omega
theorem wrap_over {a b:Nat} (ha:a<B) (hb:b<B) (h:B≤a+b):IntKind.u64.wrap ((a:Int)+b)=((a+b-B:Nat):Int):=by
 rw[u64_wrap,show (a:Int)+b=((a+b-B:Nat):Int)+B by omega,Int.add_emod_right]
 exact Int.emod_eq_of_lt (by omega) (by omega)
theorem wrap_under {a b:Nat} (hb:b<B) (h:a<b):IntKind.u64.wrap ((a:Int)-b)=((a+B-b:Nat):Int):=by
 rw[u64_wrap,show (a:Int)-b=((a+B-b:Nat):Int)-B by omega,Int.sub_emod_right]
 exact Int.emod_eq_of_lt (by omega) (by omega)
section
variable {w wr w3:World} {bu bq bh oh bv ov n m s l r lu lq:Nat} {T vw us qs:List Nat} {V v1 v2 rec:Nat}
theorem DM.drewN (h:DM w wr bu bq bh oh bv ov n m s l r T vw lu lq us qs) (k:Nat):DM w (wr.drewN k) bu bq bh oh bv ov n m s l r T vw lu lq us qs:=by
 obtain⟨hs,h1,h2⟩:=h.h
 obtain⟨xs,k1,k2,k3⟩:=h.v
 exact⟨h.mod.drewN k,h.u.drewN k,h.lu,h.q.drewN k,h.lq,⟨hs,h1.drewN k,h2⟩,⟨xs,k1.drewN k,k2,k3⟩,h.stk.mod ((Mod.refl [] wr).drewN k) (by simp)⟩
theorem DM.vecH (h:DM w wr bu bq bh oh bv ov n m s l r T vw lu lq us qs) (F:DF bu bq bh oh bv ov n m lu lq vw V v1 v2 rec T) {hs rs:List Nat} {k:Nat} (hb:Blk wr bh hs) (hl:oh+k≤hs.length) (hl2:oh+n+1≤hs.length) (hv:VecPost wr w3 bh oh k hs rs):
 DM w w3 bu bq bh oh bv ov n m s l r T vw lu lq us qs:=by
 obtain⟨xs,k1,k2,k3⟩:=h.v
 obtain⟨xs',e1,e2,e3⟩:=hv.keep hb hl k1 (fun e=>.inl (F.hv e.symm))
 refine⟨h.mod.step hv.mod (fun x hx=>.inl (by simp at hx;simp[hx])),h.u.mod hv.mod (by simpa using F.uh),h.lu,h.q.mod hv.mod (by simpa using F.qh),h.lq,⟨_,hv.blk,by rw[spl_length (by rw[hv.len];exact hl)];exact hl2⟩,⟨xs',e1,by rw[e2];exact k2,e3.trans k3⟩,h.stk.vec hv hb hl⟩
theorem DM.vecU (h:DM w wr bu bq bh oh bv ov n m s l r T vw lu lq us qs) (F:DF bu bq bh oh bv ov n m lu lq vw V v1 v2 rec T) {rs:List Nat} {o k:Nat} (hl:o+k≤lu) (hv:VecPost wr w3 bu o k us rs):
 DM w w3 bu bq bh oh bv ov n m s l r T vw lu lq (spl us o rs) qs:=by
 obtain⟨hs,h1,h2⟩:=h.h
 obtain⟨xs,k1,k2,k3⟩:=h.v
 have hlu:=h.lu
 exact⟨h.mod.step hv.mod (fun x hx=>.inl (by simp at hx;simp[hx])),hv.blk,by rw[spl_length (by rw[hv.len,hlu];exact hl)];exact hlu,h.q.mod hv.mod (by simpa using F.uq.symm),h.lq,⟨hs,h1.mod hv.mod (by simpa using F.uh.symm),h2⟩,⟨xs,k1.mod hv.mod (by simpa using F.uv.symm),k2,k3⟩,h.stk.vec hv h.u (by rw[hlu];exact hl)⟩
theorem Stk.set {b o x:Nat} {ws:List Nat} (h:Stk wr s l r T) (hb:Blk wr b ws) (ho:o<ws.length) (hx:x<B):Stk (wr.setCell ⟨b,o,none⟩ (.int .u64 (x:Int))) s l r T:=by
 have:=(VecPost.nil (oz:=o) hb).next (s:=x) (by omega) hx
 rw[Nat.add_zero] at this
 exact h.vec this hb (by omega)
theorem DM.setU (h:DM w wr bu bq bh oh bv ov n m s l r T vw lu lq us qs) (F:DF bu bq bh oh bv ov n m lu lq vw V v1 v2 rec T) {o x:Nat} (ho:o<lu) (hx:x<B):
 DM w (wr.setCell ⟨bu,o,none⟩ (.int .u64 (x:Int))) bu bq bh oh bv ov n m s l r T vw lu lq (us.set o x) qs:=by
 obtain⟨hs,h1,h2⟩:=h.h
 obtain⟨xs,k1,k2,k3⟩:=h.v
 have hlu:=h.lu
 exact⟨h.mod.setCell _ (.inl (by simp)),h.u.set o hx,by rw[List.length_set];exact hlu,h.q.set_other F.uq _,h.lq,⟨hs,h1.set_other F.uh _,h2⟩,⟨xs,k1.set_other F.uv _,k2,k3⟩,h.stk.set h.u (by omega) hx⟩
theorem DM.setQ (h:DM w wr bu bq bh oh bv ov n m s l r T vw lu lq us qs) (F:DF bu bq bh oh bv ov n m lu lq vw V v1 v2 rec T) {o x:Nat} (ho:o<lq) (hx:x<B):
 DM w (wr.setCell ⟨bq,o,none⟩ (.int .u64 (x:Int))) bu bq bh oh bv ov n m s l r T vw lu lq us (qs.set o x):=by
 obtain⟨hs,h1,h2⟩:=h.h
 obtain⟨xs,k1,k2,k3⟩:=h.v
 have hlq:=h.lq
 exact⟨h.mod.setCell _ (.inl (by simp)),h.u.set_other F.uq.symm _,h.lu,h.q.set o hx,by rw[List.length_set];exact hlq,⟨hs,h1.set_other F.qh _,h2⟩,⟨xs,k1.set_other F.qv _,k2,k3⟩,h.stk.set h.q (by omega) hx⟩
end
theorem divBasic_calls (w:World) (bu cu bq cq bv ov cv n m s l r:Nat) (T us0 qs0 vs:List Nat) (hu:Blk w bu us0) (hq:Blk w bq qs0) (hv:Blk w bv vs) (hs:Stk w s l r T)
 (hn2:2≤n) (hn40:n≤60) (hm:m≤200) (hl:l≤150) (hlu:m+n≤us0.length) (hlq:m≤qs0.length) (hlv:ov+n≤vs.length) (hcu:m+n≤cu)
 (huq:bu≠bq) (huv:bu≠bv) (hqv:bq≠bv) (huT:bu∉T) (hqT:bq∉T) (hbv:bv=r→ov+n≤l) (hv1:B≤2*wat vs (ov+n-1)) (hsm:wat us0 (m+n-1)<wat vs (ov+n-1)):
 Calls Tryz.prog 259 #[.slice (some ⟨bq,0,none⟩) m cq,.pointer (some ⟨s,0,none⟩),.slice (some ⟨bu,0,none⟩) (m+n) cu,.slice (some ⟨bv,ov,none⟩) n cv] w
  (DBRet w bu bq m n (bu::bq::T) us0.length qs0.length (val (us0.take (m+n))) (val (seg vs ov n)) (fun w'=>∃r',∃T',Stk w' s l r' T'∧∀k,k∈T'→k∈T∨w.heap.size≤k)):=by
 have hsv:=save_calls w s l r T hs
 obtain⟨g,hg⟩:∃g,g=n+1:=⟨_,rfl⟩
 have hnat:=snat_calls w s l r g T hs (by omega) (by omega) (by omega)
 have e1:IntKind.i64.wrap ((n:Int)+1)=(n:Int)+1:=IntWalk.i64_in _ (by omega)
 have e2:m+n-n=m:=by omega
 have HN:=Lh hnat
 have HS:=Lh hsv
 have HGN:=Lh hg
 clear hnat hsv hg
 go_enter_defers Tryz.func259,Tryz.ntmps259
 go_wp2_with fail
 refine HS.out.mono ?_
 rintro e w' ⟨rfl,rfl⟩
 go_wp2_with fail
 rw[show (n:Int)+1=(g:Int) by have:=HGN.out;omega]
 refine HN.out.mono ?_
 rintro e w1 ⟨bh,oh,ch,rfl,hres⟩
 obtain⟨hs0,hh1,hh2,hh3,hh4⟩:=hres.row
 obtain⟨l',r',T',hstk,hl1,hl2,hT',hbr⟩:=hres.stk
 obtain⟨vs1,hv1b,hvl1,hvs1⟩:=hres.keep bv vs ov n hv hbv
 have hub:bu≠bh:=fun h=>hres.own.elim (fun h'=>by have:=hu.lt;omega) (fun h'=>by
  exact huT (by rw[h,h'.1];exact hs.row_mem))
 have hqb:bq≠bh:=fun h=>hres.own.elim (fun h'=>by have:=hq.lt;omega) (fun h'=>by
  exact hqT (by rw[h,h'.1];exact hs.row_mem))
 have w1e:wat vs1 (ov+(n-1))=wat vs (ov+n-1):=by
  rw[←wat_of_seg (n:=n) (by omega) (by omega),hvs1,wat_of_seg (by omega) hlv]
  congr 1;omega
 have rv1:=hv1b.cell (i:=ov+(n-1)) (by omega)
 have hV1B:=wat_lt hv.wl (ov+n-1)
 rw[w1e] at rv1
 generalize hV1:wat vs (ov+n-1)=v1 at*
 have hnz:NlzOk v1 0:=⟨by omega,by rw[Nat.pow_zero,Nat.mul_one];rw[B_eq] at hv1;omega,by rw[Nat.pow_zero,Nat.mul_one];rw[B_eq] at hV1B;exact hV1B⟩
 have hrec:=fun w'=>recip_calls v1 0 w' hV1B (by have:=B_pos;omega) hnz
 have HREC:=Lh hrec
 have H1:=Lh (Aj hv1 hnz)
 have k1:((n-1:Nat):Int)=(n:Int)-1:=by omega
 clear hrec hv1 hnz w1e HN HS
 go_wp2_with fail
 refine(HREC.out _).mono ?_
 rintro e w2 ⟨rec,rfl,⟨m0,rfl⟩,hrc,hrcB⟩
 rw[Nat.pow_zero,Nat.mul_one] at hrc
 have hg:=HGN.out
 have F:DF bu bq bh oh bv ov n m us0.length qs0.length (seg vs ov n) (val (seg vs ov n)) v1 (wat vs (ov+(n-2))) rec T':=by
  refine⟨hn2,hn40,hm,hlu,hlq,huq,hub,huv,hqb,hqv,fun h=>?_,fun h=>?_,fun h=>?_,seg_length hlv,WL_seg hv.wl _ _,rfl,?_,?_,hV1B,wat_lt hv.wl _,H1.out.1,hrc,hrcB⟩
  ·exact(hT' _ h).elim huT (fun h=>by have:=hu.lt;omega)
  ·exact(hT' _ h).elim hqT (fun h=>by have:=hq.lt;omega)
  ·rcases hres.own with h'|h'
   ·have:=hv.lt;omega
   ·have:=hbv (by omega);omega
  ·rw[wat_of_seg (by omega) hlv,←hV1];congr 1;omega
  ·rw[wat_of_seg (by omega) hlv]
 have hD0:DM w1 (w1.drewN m0) bu bq bh oh bv ov n m s l' r' T' (seg vs ov n) us0.length qs0.length us0 qs0:=
  ⟨(Mod.refl _ w1).drewN m0,(hu.mod hres.mod huT).drewN m0,rfl,(hq.mod hres.mod hqT).drewN m0,rfl,⟨hs0,hh1.drewN m0,by omega⟩,⟨vs1,hv1b.drewN m0,by omega,hvs1⟩,hstk.mod ((Mod.refl [] w1).drewN m0) (by simp)⟩
 have hL0:DL n m (val (seg vs ov n)) (val (us0.take (m+n))) (m+1) 0 us0 qs0:=DL.start hn2 hlu hu.wl (by
  have:=F.vpos.2.2.1
  have h1:1≤v1:=by have:=H1.out.1;have:=B_pos;omega
  have:B^(n-1)*1≤B^(n-1)*v1:=Nat.mul_le_mul_left _ h1
  rw[Nat.mul_one] at this
  generalize B^(n-1)=p at*
  omega)
 have hRS:Mod T w w1∧(∀k,k∈T'→k∈T∨w.heap.size≤k)∧(bh∈T∨w.heap.size≤bh)∧l≤l'∧wat us0 (m+n-1)<v1∧B≤2*v1∧WL us0:=
  ⟨hres.mod,hT',hres.own.elim .inr (fun h=>.inl (by rw[h.1];exact hs.row_mem)),hl1,hsm,H1.out.1,hu.wl⟩
 have hch:g≤ch:=hh3
 have HF:=Lh F
 have HD0:=Lh (Aj hD0 hL0)
 have HRS:=Lh hRS
 generalize hV:val (seg vs ov n)=V at*
 generalize hU0:val (us0.take (m+n))=U0 at*
 generalize hvw:seg vs ov n=vw at*
 generalize hlu':us0.length=lu at*
 generalize hlq':qs0.length=lq at*
 generalize hv2:wat vs (ov+(n-2))=v2 at*
 have HEQ:=Lh (Aj hV (Aj hU0 (Aj hlu' (Aj hlq' hvw))))
 clear F hD0 hL0 hRS hg hh1 hres hstk hT' hbr hv1b hvl1 hvs1 hub hqb rv1 hV1 HREC hrc hrcB hsm hlv hvw hlu' hlq' hv2 hV hU0 hu hq hv hs hbv huT hqT hh2 hh3 hh4 hl1 hl2 hlu hlq huq huv hqv hV1B
 go_wp2_with fail
 go_loopw [13,14] (fun x i wr=>∃(k y:Nat) (us qs:List Nat),k≤m+1∧i=.int .i64 ((k:Int)-1)∧x=.int .u64 y∧DM w1 wr bu bq bh oh bv ov n m s l' r' T' vw lu lq us qs∧DL n m V U0 k y us qs∧(k=m+1→wat us (m+n-1)<v1))
  (fun _ i _=>(intOf i+1).toNat)
 case atStart=>exact⟨m+1,0,us0,qs0,Nat.le_refl _,by simp,rfl,HD0.out.1,HD0.out.2,fun _=>HRS.out.2.2.2.2.1⟩
 case round=>
  obtain⟨k,y,us,qs,hk,rfl,rfl,hM,hL,hT1⟩:=hrel
  have HM:=Lh (Aj hM hL)
  have HT1:=Lh hT1
  clear hM hL hT1
  rcases Nat.eq_zero_or_pos k with h0|h0
  ·subst h0
   go_wp2_with fail
   obtain⟨hM,hL⟩:=HM.out
   obtain⟨g1,g2,g3,g4,g5,g6,g7⟩:=HRS.out
   refine leaves_cons (f:=182) (args:=#[.pointer (some ⟨s,0,none⟩),.int .i64 (l:Int)]) (by simp) (by simp[go_sem]) ?_
   refine(restore_calls wr s l' r' l T' hM.stk g4 .returning).mono ?_
   rintro e u' w'' ⟨rfl,rfl,h1,h2⟩
   obtain⟨f1,f2⟩:=hL.fin hn2 (by rw[hM.lu];exact HF.out.hlu)
   refine⟨_,results_none rfl _ _ _,us,qs,rfl,?_,hM.u.mod h2 HF.out.uT,?_,hM.q.mod h2 HF.out.qT,?_,?_,?_,r',T',h1,g2⟩
   ·have m1:Mod (bu::bq::T) w wr:=(g1.mono (by simp_all)).step hM.mod (fun x hx=>by
     simp only[List.mem_cons] at hx ⊢
     rcases hx with rfl|rfl|rfl|hx
     ·simp
     ·simp
     ·exact g3.elim (fun h=>.inl (.inr (.inr h))) .inr
     ·exact(g2 _ hx).elim (fun h=>.inl (.inr (.inr h))) .inr)
    exact m1.step h2 (fun x hx=>(g2 _ hx).elim (fun h=>.inl (by simp[h])) .inr)
   ·rw[hM.lu,HEQ.out.2.2.1]
   ·rw[hM.lq,HEQ.out.2.2.2.1]
   ·rw[HEQ.out.2.2.2.2,HEQ.out.1,HEQ.out.2.1];exact f1
   ·rw[HEQ.out.2.2.2.2,HEQ.out.1,HEQ.out.2.1];exact f2
  ·obtain⟨j,rfl⟩:∃j,k=j+1:=⟨k-1,by omega⟩
   obtain⟨Q,hQ⟩:∃Q,Q=if j<m then val (seg us j (n+1))/V else 0:=⟨_,rfl⟩
   have hl:=HM.out.1.lu
   have hw:=HM.out.1.u.wl
   have hdig:Dig v1 v2 y (wat us (j+n-1)) (wat us (j+n-2)) Q:=by
    rcases Nat.lt_or_ge j m with h|h
    ·rw[hQ,if_pos h];exact(HF.out.dig HM.out.2 h hl hw).1
    ·rw[hQ,if_neg (by omega)]
     exact⟨HF.out.v1B,HF.out.v2B,wat_lt hw _,wat_lt hw _,HF.out.v1n,by rw[Nat.zero_mul];exact Nat.zero_le _⟩
   have hyv:=HF.out.yle HM.out.2
   obtain⟨xs,hxb,hxl,hxs⟩:=HM.out.1.v
   have hlu2:=HF.out.hlu
   have rv2:=hxb.cell (i:=ov+(n-2)) (by omega)
   have ru1:=HM.out.1.u.cell (i:=j+n-1) (by omega)
   have ru0:=HM.out.1.u.cell (i:=j+n-2) (by omega)
   have w2e:wat xs (ov+(n-2))=v2:=by rw[←wat_of_seg (n:=n) (by omega) hxl,hxs];exact HF.out.v2e
   rw[w2e] at rv2
   have HDG:=Lh hdig
   have HQ:=Lh hQ
   have HX:=Lh (Aj hxb (Aj hxl hxs))
   clear hdig hQ hl hw hxb hxl hxs w2e
   generalize hu1:wat us (j+n-1)=u1 at*
   generalize hu0:wat us (j+n-2)=u0 at*
   have HU:=Lh (Aj hu1 hu0)
   clear hu1 hu0
   have ej:((j+1:Nat):Int)-1=(j:Int):=by omega
   rw[ej]
   clear ej
   have f1:(0:Int)≤(j:Int):=by omega
   go_upto_if 51 with fail
   go_cut [15] from 49 to 104 (fun t15 wx=>∃q:Nat,t15=.int .u64 q∧wr=wx∧q<B∧((y<v1∧QF v1 v2 y u1 u0 Q q)∨(y=v1∧q=B-1)))
   case first=>
    by_cases hyy:y=v1
    ·have t1:((y:Int) !=(v1:Int))=false:=by simp[hyy]
     go_wp2_with fail
     go_meet
     case rel=>exact⟨B-1,by rw[B_eq]<;>rfl,rfl,by have:=B_pos;omega,.inr ⟨hyy,rfl⟩⟩
    ·have t1:((y:Int) !=(v1:Int))=true:=by simp;omega
     have hlt:y<v1:=by omega
     have hcall:=divWW_calls y u1 v1 rec 0 wr hlt HDG.out.hu1 HF.out.v1B ⟨by omega,by
      have:=HF.out.v1n
      rw[B_eq] at this
      rw[Nat.pow_zero,Nat.mul_one];omega,by
      have:=HF.out.v1B
      rw[B_eq] at this
      rw[Nat.pow_zero,Nat.mul_one];omega⟩ (by rw[Nat.pow_zero,Nat.mul_one];exact HF.out.recO) HF.out.recB
     have HC:=Lh hcall
     clear hcall
     go_wp2_with fail
     refine HC.out.mono ?_
     rintro e w' ⟨q0,r0,rfl,rfl,hq0,hr0⟩
     have hq0B:q0<B:=by rw[hq0];exact HDG.out.small hlt
     have HQ0:=Lh (Aj hq0 hr0)
     clear hq0 hr0
     go_wp2_with fail
     refine(mulWW_calls q0 v2 _ hq0B HF.out.v2B).mono ?_
     rintro e w' ⟨x1,x2,rfl,rfl,hmul⟩
     have hG0:=QG.start HDG.out hlt HQ0.out.1 HQ0.out.2 hmul
     have HG0:=Lh hG0
     have hq0B':=hq0B
     clear hG0 hmul
     go_wp2_with fail
     go_loop [15,16,18,19] (fun a b c d=>∃q r x1 x2:Nat,a=.int .u64 q∧b=.int .u64 r∧c=.int .u64 x1∧d=.int .u64 x2∧QG v1 v2 y u1 Q q r x1 x2) (fun a _ _ _=>(intOf a).toNat)
     case atStart=>exact⟨q0,r0,x1,x2,rfl,rfl,rfl,rfl,HG0.out⟩
     case round=>
      obtain⟨q,r,x1,x2,rfl,rfl,rfl,rfl,hG⟩:=hrel
      have HG:=Lh hG
      have hgr:=greater_calls x1 x2 r u0 wr hG.x2B HDG.out.hu0
      have HGR:=Lh hgr
      have hqB:=hG.qB
      clear hG hgr
      by_cases hlt2:r*B+u0<x1*B+x2
      ·have t5:decide (r*B+u0<x1*B+x2)=true:=by simp;exact hlt2
       have hpos:=HG.out.pos HDG.out hlt2
       rw[t5] at HGR
       have HL2:=Lh hlt2
       obtain⟨p,hp⟩:∃p,q=p+1:=⟨q-1,by omega⟩
       subst hp
       have t6:((p+1:Nat):Int)-1=(p:Int):=by omega
       have t6':IntKind.u64.wrap (p:Int)=(p:Int):=u64_nat (by omega)
       clear hlt2 t5 hpos
       rcases Nat.lt_or_ge (r+v1) B with hB|hB
       ·have t7:IntKind.u64.wrap ((r:Int)+(v1:Int))=((r+v1:Nat):Int):=w_add hB
        obtain⟨r2,hr2⟩:∃r2,r2=r+v1:=⟨_,rfl⟩
        rw[←hr2] at t7
        have t8:decide (r2<v1)=false:=by simp;omega
        obtain⟨N1,N2⟩:=HG.out.next HDG.out HL2.out hB
        have HR2:=Lh hr2
        rcases Nat.lt_or_ge x2 v2 with hx|hx
        ·obtain⟨hx1,hN⟩:=N1 hx
         obtain⟨z1,hz1⟩:∃z1,z1=x1-1:=⟨_,rfl⟩
         obtain⟨z2,hz2⟩:∃z2,z2=x2+B-v2:=⟨_,rfl⟩
         have t9:decide (x2<v2)=true:=by simp;exact hx
         have s1:(x1:Int)-1=(z1:Int):=by omega
         have s2:IntKind.u64.wrap (z1:Int)=(z1:Int):=u64_nat (by have:=HG.out.x1B;omega)
         have s3:IntKind.u64.wrap ((x2:Int)-(v2:Int))=(z2:Int):=by rw[hz2];exact wrap_under HF.out.v2B hx
         rw[←hz1,←hz2,←hr2] at hN
         have HNN:=Lh hN
         clear hN hz1 hz2 hr2 N1 N2 hx hx1 hB
         go_wp2_with fail
         refine HGR.out.mono ?_
         rintro e w' ⟨rfl,rfl⟩
         go_wp2_with fail
         exact⟨⟨p,r2,z1,z2,rfl,rfl,rfl,rfl,HNN.out⟩,by simp[intOf]⟩
        ·have hN:=N2 hx
         obtain⟨z2,hz2⟩:∃z2,z2=x2-v2:=⟨_,rfl⟩
         have t9:decide (x2<v2)=false:=by simp;exact hx
         have s3:IntKind.u64.wrap ((x2:Int)-(v2:Int))=(z2:Int):=by
          rw[show (x2:Int)-(v2:Int)=(z2:Int) by omega];exact u64_nat (by have:=HG.out.x2B;omega)
         rw[←hz2,←hr2] at hN
         have HNN:=Lh hN
         clear hN hz2 hr2 N1 N2 hx hB
         go_wp2_with fail
         refine HGR.out.mono ?_
         rintro e w' ⟨rfl,rfl⟩
         go_wp2_with fail
         exact⟨⟨p,r2,x1,z2,rfl,rfl,rfl,rfl,HNN.out⟩,by simp[intOf]⟩
       ·have hrB:=HG.out.rB
        have hvB:=HF.out.v1B
        obtain⟨r2,hr2⟩:∃r2,r2=r+v1-B:=⟨_,rfl⟩
        have t7:IntKind.u64.wrap ((r:Int)+(v1:Int))=(r2:Int):=by rw[hr2];exact wrap_over hrB hvB hB
        have t8:decide (r2<v1)=true:=by simp;omega
        have hQF:=HG.out.out HDG.out HL2.out hB
        have HQF:=Lh (Aj hQF (show p<B by omega))
        clear hQF hr2 hrB hvB hB
        go_wp2_with fail
        refine HGR.out.mono ?_
        rintro e w' ⟨rfl,rfl⟩
        go_wp2_with fail
        go_meet
        case rel=>exact⟨p,rfl,rfl,HQF.out.2,.inl ⟨hlt,HQF.out.1⟩⟩
      ·have t5:decide (r*B+u0<x1*B+x2)=false:=by simp;omega
       have hQF:=HG.out.stop (by omega:x1*B+x2≤r*B+u0)
       rw[t5] at HGR
       have HQF:=Lh hQF
       clear hQF t5 hlt2
       go_wp2_with fail
       refine HGR.out.mono ?_
       rintro e w' ⟨rfl,rfl⟩
       go_wp2_with fail
       go_meet
       case rel=>exact⟨q,rfl,rfl,hqB,.inl ⟨hlt,HQF.out⟩⟩
   case rest=>
    obtain⟨q,rfl,rfl,hqB,hcase⟩:=hcut
    obtain⟨hs,hhb,hhl⟩:=HM.out.1.h
    have hg2:n<g:=by have:=HGN.out;omega
    have hch2:n≤ch:=by omega
    have hmul:=mulAddVWW_calls bh oh ch bv ov cv n q 0 hs xs wr hhb HX.out.1 (by omega) HX.out.2.1 (fun h=>.inr (HF.out.hv h.symm)) (by omega) hqB B_pos
    rw[HX.out.2.2,HF.out.vval] at hmul
    have HMUL:=Lh hmul
    have HC:=Lh hcase
    have HH:=Lh (Aj hhb hhl)
    clear hmul hcase hhb hhl rv2 ru1 ru0
    have hq0:¬j<m→q=0:=fun hj=>by
     have hjm:j=m:=by omega
     have hy0:y=0:=HM.out.2.last (by rw[hjm])
     have hu1:u1<v1:=by have:=HT1.out (by rw[hjm]);rw[←hjm,HU.out.1] at this;exact this
     rcases HC.out with ⟨_,hF⟩|⟨h1,_⟩
     ·have:=hF.first
      rw[hy0,Nat.zero_mul,Nat.zero_add,Nat.div_eq_of_lt hu1] at this
      omega
     ·omega
    have HQ00:=Lh hq0
    clear hq0
    go_upto_region 24 with fail
    go_cut [21] from 105 to 113 (fun _ wx=>DM w1 wx bu bq bh oh bv ov n m s l' r' T' vw lu lq us qs∧∃hs2,Blk wx bh hs2∧oh+n+1≤hs2.length∧val (seg hs2 oh (n+1))=q*V)
    case first=>
     go_wp2_with fail
     refine HMUL.out.mono ?_
     rintro e w2 ⟨c,rs,rfl,hvp,hcB,hval⟩
     rw[Nat.add_zero] at hval
     have hnext:=hvp.next (s:=c) (by have:=HH.out.2;omega) hcB
     have rz:=hvp.blk.cell (i:=oh+n) (by rw[spl_length (by rw[hvp.len];have:=HH.out.2;omega)];have:=HH.out.2;omega)
     have fz:=hvp.blk.free (oh+n)
     have hM2:=HM.out.1.vecH HF.out HH.out.1 (by have:=HH.out.2;omega) HH.out.2 hnext
     have hrow:Blk (w2.setCell ⟨bh,oh+n,none⟩ (.int .u64 (c:Int))) bh (spl hs oh (rs++[c]))∧oh+n+1≤(spl hs oh (rs++[c])).length∧val (seg (spl hs oh (rs++[c])) oh (n+1))=q*V:=by
      have e1:oh+(rs++[c]).length≤hs.length:=by rw[hnext.len];have:=HH.out.2;omega
      refine⟨hnext.blk,by rw[spl_length e1];exact HH.out.2,?_⟩
      have:=seg_spl (zs:=hs) (o:=oh) (rs:=rs++[c]) e1
      rw[hnext.len] at this
      rw[this,val_snoc,hvp.len,hval,Nat.mul_comm]
     have HR:=Lh (Aj hM2 hrow)
     have hn':(n:Int)<(g:Int):=by omega
     clear hvp hnext hM2 hrow hval
     go_wp2_with fail
     go_meet
     case rel=>exact⟨HR.out.1,_,HR.out.2⟩
    case rest=>
     obtain⟨hM,hs2,hrow,hrl,hrv⟩:=hcut
     have HM2:=Lh (Aj hM (Aj hrow (Aj hrl hrv)))
     by_cases hj:j<m
     ·have t1:decide ((m:Int)+n<(j:Int)+g)=false:=by have:=HGN.out;simp;omega
      have t1':decide (m+n<j+g)=false:=by have:=HGN.out;simp;omega
      have hqQ:val (seg us j (n+1))/V≤q∧q≤val (seg us j (n+1))/V+1:=by
       obtain⟨d1,d2,d3⟩:=HF.out.dig HM.out.2 hj hM.lu hM.u.wl
       have hQ:=HQ.out
       rw[if_pos hj] at hQ
       rw[HU.out.1,HU.out.2] at d2
       rcases HC.out with ⟨_,hF⟩|⟨h1,h2⟩
       ·rw[hQ] at hF;exact⟨hF.low,d2 q hF⟩
       ·rw[h2];exact d3 h1
      obtain⟨e,he⟩:∃e,e=j+g:=⟨_,rfl⟩
      have s1:IntKind.i64.wrap ((j:Int)+(g:Int))=(e:Int):=by rw[show (j:Int)+(g:Int)=(e:Int) by omega];exact IntWalk.i64_in _ (by have:=HGN.out;omega)
      have t3:decide ((m:Int)+n<(e:Int))=false:=by have:=HGN.out;simp;omega
      have t3':decide (m+n<e)=false:=by have:=HGN.out;simp;omega
      have s2:j≤e:=by omega
      have s3:e≤cu:=by have:=HGN.out;omega
      have s4:e-j=g:=by omega
      have s5:¬cu=j:=by have:=HGN.out;omega
      have hsub:=subVV_calls bu j (cu-j) bu j (cu-j) bh oh ch g us us hs2 (wc.drewN 1) (hM.u.drewN 1) (hM.u.drewN 1) (hrow.drewN 1) (by rw[hM.lu];have:=HGN.out;omega) (by rw[hM.lu];have:=HGN.out;omega) (by have:=HGN.out;omega) (fun _=>Nat.le_refl _) (fun h=>absurd h.symm HF.out.uh) (by have:=HGN.out;omega)
      have HSUB:=Lh hsub
      have HE:=Lh (Aj hqQ he)
      clear hsub hM hrow hrl hrv hqQ he
      go_upto_region 28 with fail
      go_still_tail 15,(by kernel_rfl)
      change wpList _ _ _ _ _ (wc.drewN 1)
      go_wp2_with fail
      refine HSUB.out.mono ?_
      rintro e3 w3 ⟨c1,rs,rfl,hv,hc1,hval⟩
      rw[HGN.out] at hv hval
      rw[HM2.out.2.2.2] at hval
      have hM3:=(HM2.out.1.drewN 1).vecU HF.out (by have:=HF.out.hlu;omega) hv
      have hrsB:=val_lt hv.wl
      rw[hv.len] at hrsB
      have V0:=HF.out.vpos.1
      have hoff:=take_off HE.out.1.1 HE.out.1.2 V0 rfl hrsB hval hc1
      have hlenr:rs.length=n+1:=hv.len
      have HV3:=Lh (Aj hM3 (Aj hoff hlenr))
      clear hM3 hoff hlenr hrsB hval hv
      rcases (show c1=0∨c1=1 by omega) with hc|hc
      ·subst hc
       have t2:(((0:Nat):Int) !=0)=false:=by decide
       have t4:((j:Int)==(m:Int))=false:=by simp;omega
       have hjm:(j:Int)<(m:Int):=by omega
       obtain⟨h1,h2⟩:=HV3.out.2.1.1 rfl
       have VP:=HF.out.vpos
       have hRB:val (seg us j (n+1))%V<B^n:=Nat.lt_trans (Nat.mod_lt _ V0) VP.2.2.2.1
       have hOff:=Off.exact (us:=us) (j:=j) HV3.out.2.2 (by rw[HM.out.1.lu];have:=HF.out.hlu;omega) h2 hRB
       have hM3:=HV3.out.1
       have hST:=HM.out.2.step hn2 hj (by rw[HM.out.1.lu];exact HF.out.hlu) HM.out.1.u.wl V0 hOff.len hM3.u.wl hOff.take h1 hOff.low hOff.high hOff.rest (by rw[HM.out.1.lq];exact HF.out.hlq)
       have ru:=hM3.u.cell (i:=j+n-1) (by rw[hM3.lu];have:=HF.out.hlu;omega)
       have rq:=hM3.q.cell (i:=j) (by rw[hM3.lq];have:=HF.out.hlq;omega)
       have fq:=hM3.q.free j
       have hM4:=hM3.setQ HF.out (o:=j) (x:=q) (by have:=HF.out.hlq;omega) hqB
       have HFIN:=Lh (Aj hM4 hST)
       clear h1 h2 VP hRB hOff hM3 hST hM4
       generalize spl us j rs=us3 at*
       generalize qs.set j q=qs3 at*
       go_wp2_with fail
       refine⟨⟨j,wat us3 (j+n-1),us3,qs3,by omega,by first|rfl|go_num,rfl,HFIN.out.1,HFIN.out.2,fun h=>by omega⟩,by simp[intOf]⟩
      ·subst hc
       have t2:(((1:Nat):Int) !=0)=true:=by decide
       have t4:((j:Int)==(m:Int))=false:=by simp;omega
       have hjm:(j:Int)<(m:Int):=by omega
       have hM3:=HV3.out.1
       obtain⟨xs3,y1,y2,y3⟩:=hM3.v
       obtain⟨h1,h2⟩:=HV3.out.2.1.2 rfl
       have hadd:=addVV_calls bu j (cu-j) bu j (cu-j) bv ov cv n _ _ xs3 (w3.drewN 1) (hM3.u.drewN 1) (hM3.u.drewN 1) (y1.drewN 1) (by rw[hM3.lu];have:=HF.out.hlu;omega) (by rw[hM3.lu];have:=HF.out.hlu;omega) y2 (fun _=>Nat.le_refl _) (fun h=>absurd h.symm HF.out.uv) (by omega)
       rw[y3,HF.out.vval] at hadd
       obtain⟨f,hf⟩:∃f,f=j+n:=⟨_,rfl⟩
       have p1:IntKind.i64.wrap ((j:Int)+(n:Int))=(f:Int):=by rw[show (j:Int)+(n:Int)=(f:Int) by omega];exact IntWalk.i64_in _ (by omega)
       have p2:j≤f:=by omega
       have p3:f≤cu:=by omega
       have p4:f-j=n:=by omega
       have p5:decide (n<g)=true:=by simp;exact hg2
       have HADD:=Lh hadd
       have HE2:=Lh (Aj h1 (Aj h2 hf))
       clear hadd hM3 y1 y2 y3 h1 h2 hf
       go_upto_region 30 with fail
       go_still_tail 13,(by kernel_rfl)
       change wpList _ _ _ _ _ (w3.drewN 1)
       go_wp2_with fail
       refine HADD.out.mono ?_
       rintro e4 w4 ⟨c2,rs2,rfl,hv2,hc2,hval2⟩
       have hM4:=(HV3.out.1.drewN 1).vecU HF.out (by have:=HF.out.hlu;omega) hv2
       have V0:=HF.out.vpos.1
       have VP:=HF.out.vpos
       have hRB:val (seg us j (n+1))%V<B^n:=Nat.lt_trans (Nat.mod_lt _ V0) VP.2.2.2.1
       obtain⟨hsum,hOff⟩:=Off.back (us:=us) (rs:=rs) (rs2:=rs2) (j:=j) (n:=n) (c2:=c2) HV3.out.2.2 (by rw[HM.out.1.lu];have:=HF.out.hlu;omega) hv2.len hv2.wl HE2.out.2.1 hval2 hRB
       have hu4B:=wat_lt hM4.u.wl (j+n)
       have ru4:=hM4.u.cell (i:=j+n) (by rw[hM4.lu];have:=HF.out.hlu;omega)
       have fu4:=hM4.u.free (j+n)
       have hM5:DM w1 (w4.setCell ⟨bu,j+n,none⟩ (.int .u64 0)) bu bq bh oh bv ov n m s l' r' T' vw lu lq ((spl (spl us j rs) j rs2).set (j+n) 0) qs:=hM4.setU HF.out (o:=j+n) (x:=0) (by have:=HF.out.hlu;omega) B_pos
       have hST:=HM.out.2.step hn2 hj (by rw[HM.out.1.lu];exact HF.out.hlu) HM.out.1.u.wl V0 hOff.len hM5.u.wl hOff.take rfl hOff.low hOff.high hOff.rest (by rw[HM.out.1.lq];exact HF.out.hlq)
       obtain⟨p,hpe⟩:∃p,val (seg us j (n+1))/V=p:=⟨_,rfl⟩
       have hp:q=p+1:=by rw[←hpe];exact HE2.out.1
       have hpB:p<B:=by omega
       rw[hpe] at hST
       have q1:(q:Int)-1=(p:Int):=by omega
       have q2:IntKind.u64.wrap (p:Int)=(p:Int):=u64_nat hpB
       have hwz:IntKind.u64.wrap ((wat (spl (spl us j rs) j rs2) (j+n):Int)+(c2:Int))=0:=by
        rw[u64_wrap,show ((wat (spl (spl us j rs) j rs2) (j+n):Int)+(c2:Int))=(B:Int) by omega];exact Int.emod_self
       have ru:=hM5.u.cell (i:=j+n-1) (by rw[hM5.lu];have:=HF.out.hlu;omega)
       have rq:=hM5.q.cell (i:=j) (by rw[hM5.lq];have:=HF.out.hlq;omega)
       have fq:=hM5.q.free j
       have hM6:=hM5.setQ HF.out (o:=j) (x:=p) (by have:=HF.out.hlq;omega) hpB
       have HFIN:=Lh (Aj hM6 hST)
       clear hM4 VP V0 hRB hsum hOff hM5 hST hM6 hp hpe hv2 hval2 p1 p2 p3 p4 s1 s2 s3 s4 s5 t3 t3' t1 t1'
       generalize (spl (spl us j rs) j rs2).set (j+n) 0=us5 at*
       generalize qs.set j p=qs5 at*
       generalize wat (spl (spl us j rs) j rs2) (j+n)=wv at*
       have jn1:(j:Int)+n<(m:Int)+n:=by omega
       go_wp2_with fail
       refine⟨⟨j,wat us5 (j+n-1),us5,qs5,by omega,by first|rfl|go_num,rfl,HFIN.out.1,HFIN.out.2,fun h=>by omega⟩,by simp[intOf]⟩
     ·have t1:decide ((m:Int)+n<(j:Int)+g)=true:=by have:=HGN.out;simp;omega
      have t1':decide (m+n<j+g)=true:=by have:=HGN.out;simp;omega
      have hq0:=HQ00.out hj
      have hjm:j=m:=by omega
      have hz:val (seg hs2 oh n)=0∧wat hs2 (oh+n)=0:=by
       have h1:=val_seg_succ (xs:=hs2) (o:=oh) (n:=n) (by omega)
       rw[hrv,hq0,Nat.zero_mul] at h1
       have hp:=Nat.pow_pos (n:=n) B_pos
       generalize B^n=p at*
       have h2:val (seg hs2 oh n)=0:=by omega
       have h3:p*wat hs2 (oh+n)=0:=by omega
       exact⟨h2,(Nat.mul_eq_zero.1 h3).resolve_left (by omega)⟩
      have rz:=hrow.cell (i:=oh+n) (by omega)
      rw[hz.2] at rz
      have rz':wc.cell? ⟨bh,oh+n,none⟩=some (.int .u64 0):=rz
      have gn:(g:Int)-1=(n:Int):=by have:=HGN.out;omega
      have gn2:IntKind.i64.wrap (n:Int)=(n:Int):=IntWalk.i64_in _ (by omega)
      have gn3:(n:Int)<(g:Int):=by omega
      have hsub:=subVV_calls bu j (cu-j) bu j (cu-j) bh oh ch n us us hs2 (wc.drewN 1) (hM.u.drewN 1) (hM.u.drewN 1) (hrow.drewN 1) (by rw[hM.lu];omega) (by rw[hM.lu];omega) (by omega) (fun _=>Nat.le_refl _) (fun h=>absurd h.symm HF.out.uh) (by omega)
      obtain⟨f,hf⟩:∃f,f=j+n:=⟨_,rfl⟩
      have p1:IntKind.i64.wrap ((j:Int)+(n:Int))=(f:Int):=by rw[show (j:Int)+(n:Int)=(f:Int) by omega];exact IntWalk.i64_in _ (by omega)
      have p2:j≤f:=by omega
      have p3:f≤cu:=by omega
      have p4:f-j=n:=by omega
      have p6:¬cu=j:=by omega
      have HSUB:=Lh hsub
      have HZ:=Lh hz
      have HJ:=Lh (Aj hjm (Aj hq0 hf))
      clear hsub hz rz hrow hM hrv hrl hjm hq0 hf
      go_upto_region 28 with fail
      go_still_tail 15,(by kernel_rfl)
      change wpList _ _ _ _ _ (wc.drewN 1)
      go_wp2_with fail
      refine HSUB.out.mono ?_
      rintro e3 w3 ⟨c1,rs,rfl,hv,hc1,hval⟩
      rw[HZ.out.1,Nat.add_zero] at hval
      have hlu3:=HM2.out.1.lu
      have husw:=HM2.out.1.u.wl
      have hrs:rs=seg us j n∧c1=0:=by
       have k1:=val_lt hv.wl
       rw[hv.len] at k1
       have k2:=val_lt (WL_seg husw j n)
       rw[seg_length (by rw[hlu3];omega)] at k2
       have hc0:c1=0:=by
        rcases Nat.eq_zero_or_pos c1 with h|h
        ·exact h
        ·have:B^n*1≤B^n*c1:=Nat.mul_le_mul_left _ h
         rw[Nat.mul_one] at this
         generalize B^n=p at*
         omega
       rw[hc0,Nat.mul_zero,Nat.add_zero] at hval
       exact⟨val_inj hv.wl (WL_seg husw j n) (by rw[hv.len,seg_length (by rw[hlu3];omega)]) hval,hc0⟩
      obtain⟨hrs,rfl⟩:=hrs
      have hM3:=(HM2.out.1.drewN 1).vecU HF.out (by omega) hv
      have husame:spl us j rs=us:=by
       rw[hrs]
       simp only[spl,seg_length (show j+n≤us.length by rw[hlu3];omega)]
       rw[←List.drop_drop,seg,List.append_assoc,List.take_append_drop,List.take_append_drop]
      rw[husame] at hM3
      have hj2:=HJ.out.1
      have hSK:DL n m V U0 j (wat us (j+n-1)) us qs:=by
       have hL:=HM.out.2
       have hT:=HT1.out (by omega)
       rw[hj2] at hL ⊢
       refine hL.skip hn2 (by rw[hlu3];exact HF.out.hlu) husw ?_
       have VP:=HF.out.vpos
       have e1:=seg_last (us:=us) (o:=m) (n:=n) (by omega) (by rw[hlu3];omega)
       have e2:=val_lt (WL_seg husw m (n-1))
       rw[seg_length (by rw[hlu3];omega)] at e2
       have e3:B^(n-1)*(wat us (m+n-1)+1)≤B^(n-1)*v1:=Nat.mul_le_mul_left _ hT
       have e4:=VP.2.2.1
       clear VP
       rw[Nat.mul_add,Nat.mul_one] at e3
       generalize B^(n-1)=p at*
       rw[e1,e4];omega
      have ru:=hM3.u.cell (i:=j+n-1) (by rw[hM3.lu];omega)
      have t4:((j:Int)==(m:Int))=true:=by simp;omega
      have t5:((m:Int)==(m:Int))=true:=by simp
      have t6:((q:Int)==0)=true:=by simp;exact HJ.out.2.1
      have t2:(((0:Nat):Int) !=0)=false:=by decide
      have HFIN:=Lh (Aj hM3 hSK)
      clear hM3 hSK hv hval hrs husame hlu3 husw hj2 p1 p2 p3 p4 t1 t1'
      go_wp2_with fail
      refine⟨⟨j,wat us (j+n-1),us,qs,by omega,by first|rfl|go_num,rfl,HFIN.out.1,HFIN.out.2,fun h=>by have:=HJ.out.1;omega⟩,by simp[intOf]⟩
end Go.Proofs.YtcpjclakdpjjfaaGreatDoor
