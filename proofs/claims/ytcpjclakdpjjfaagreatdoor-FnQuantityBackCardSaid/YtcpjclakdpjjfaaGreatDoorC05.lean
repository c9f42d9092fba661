/- Contracts of a carry that runs on over a vector (bigall/arith. -/
import Derived.Test.YtcpjclakdpjjfaaGreatDoorC03
import Derived.Test.YtcpjclakdpjjfaaGreatDoorC01
import Derived.StillTailTactics
set_option maxHeartbeats 800000
set_option maxRecDepth 10000
namespace Go.Proofs.YtcpjclakdpjjfaaGreatDoor
open Go.RowKit Wd
theorem seg_cons {xs:List Nat} {o n:Nat} (h0:0<n) (h:o+n≤xs.length):seg xs o n=wat xs o::seg xs (o+1) (n-1):=by
 obtain⟨m,rfl⟩:∃m,n=m+1:=⟨n-1,by omega⟩
 simp only[seg]
 rw[List.drop_eq_getElem_cons (by omega),List.take_succ_cons,wat_eq (by omega),Nat.add_sub_cancel]
theorem spl_spl {zs:List Nat} {o:Nat} (rs t:List Nat) (h:o+rs.length+t.length≤zs.length):spl (spl zs o rs) (o+rs.length) t=spl zs o (rs++t):=by
 have e0:spl zs o rs=(zs.take o++rs)++zs.drop (o+rs.length):=rfl
 have e1:(zs.take o++rs).length=o+rs.length:=by simp;omega
 have e2:(spl zs o rs).take (o+rs.length)=zs.take o++rs:=by rw[e0,List.take_left' e1]
 have e3:(spl zs o rs).drop (o+rs.length+t.length)=zs.drop (o+rs.length+t.length):=by
  rw[←List.drop_drop,e0,List.drop_left' e1,List.drop_drop]
 show (spl zs o rs).take (o+rs.length)++t++(spl zs o rs).drop (o+rs.length+t.length)=zs.take o++(rs++t)++zs.drop (o+(rs++t).length)
 rw[e2,e3,List.length_append,Nat.add_assoc o]
 simp
theorem spl_same {zs:List Nat} {o n:Nat} (h:o+n≤zs.length):spl zs o (seg zs o n)=zs:=by
 have e:(seg zs o n).length=n:=seg_length h
 show zs.take o++seg zs o n++zs.drop (o+(seg zs o n).length)=zs
 rw[e,←List.drop_drop,seg,List.append_assoc,List.take_append_drop,List.take_append_drop]
theorem seg_spl_behind {zs rs:List Nat} {o m:Nat} (h:o+rs.length≤zs.length):seg (spl zs o rs) (o+rs.length) m=seg zs (o+rs.length) m:=by
 have e1:(zs.take o++rs).length=o+rs.length:=by simp;omega
 simp only[seg,spl]
 rw[List.drop_left' e1]
theorem seg_append {xs:List Nat} {o j n:Nat} (hj:j≤n) (h:o+n≤xs.length):seg xs o n=seg xs o j++seg xs (o+j) (n-j):=by
 obtain⟨m,rfl⟩:∃m,n=j+m:=⟨n-j,by omega⟩
 rw[Nat.add_sub_cancel_left]
 simp only[seg]
 rw[List.take_add,List.drop_drop]
theorem VecPost.tail_same {w w1:World} {bz oz j n:Nat} {zs rs:List Nat} (h:VecPost w w1 bz oz j zs rs) (hz:Blk w bz zs) (hj:j≤n) (hl:oz+n≤zs.length):
 VecPost w w1 bz oz n zs (rs++seg zs (oz+j) (n-j)):=by
 have hlen:=h.len
 refine⟨by rw[List.length_append,hlen,seg_length (by omega)];omega,WL_append.2 ⟨h.wl,WL_seg hz.wl _ _⟩,h.mod,?_⟩
 have e:spl zs oz (rs++seg zs (oz+j) (n-j))=spl zs oz rs:=by
  rw[←spl_spl rs _ (by rw[hlen,seg_length (by omega)];omega),←hlen,←seg_spl_behind (by rw[hlen];omega),spl_same]
  rw[spl_length (by rw[hlen];omega)];omega
 rw[e];exact h.blk
theorem VecPost.tail_copy {w w1:World} {bz oz cz bx ox cx j n:Nat} {zs xs rs:List Nat} (h:VecPost w w1 bz oz j zs rs) (hx:Blk w bx xs) (hne:bx≠bz) (hj:j≤n) (hzl:oz+n≤zs.length) (hxl:ox+n≤xs.length) (hcz:n≤cz) (hcx:n≤cx):
 ∃w2,(Builtin.copy_ #[117,117] 3 #[.slice (if cz=j then some ⟨bz,oz,none⟩ else some ⟨bz,oz+j,none⟩) (n-j) (cz-j),.slice (if cx=j then some ⟨bx,ox,none⟩ else some ⟨bx,ox+j,none⟩) (n-j) (cx-j)]).run Tryz.prog w1=.ok (.int .i64 (n-j:Nat)) w2∧
  VecPost w w2 bz oz n zs (rs++seg xs (ox+j) (n-j)):=by
 have hlen:(rs++seg xs (ox+j) (n-j)).length=n:=by rw[List.length_append,h.len,seg_length (by omega)];omega
 have hwl:WL (rs++seg xs (ox+j) (n-j)):=WL_append.2 ⟨h.wl,WL_seg hx.wl _ _⟩
 have hx1:=hx.mod h.mod (by simpa using hne)
 rcases Nat.lt_or_ge j n with hlt|hge
 ·obtain⟨w2,hrun,hmod,hblk⟩:=copy_words w1 117 117 bz (oz+j) (n-j) (cz-j) bx (ox+j) (n-j) (cx-j) (n-j) (spl zs oz rs) xs Tryz.underlying117 h.blk hx1 (by simp) (by rw[spl_length (by rw[h.len];omega)];omega) (by omega)
  refine⟨w2,?_,hlen,hwl,h.mod.step hmod (fun x hx=>.inl hx),?_⟩
  ·rw[if_neg (by omega),if_neg (by omega)];exact hrun
  ·rw[←spl_spl rs _ (by rw[h.len,seg_length (by omega)];omega),h.len]
   exact hblk
 ·have e1:j=n:=by omega
  subst e1
  refine⟨w1,?_,hlen,hwl,h.mod,?_⟩
  ·rw[Nat.sub_self];exact copy_none _ 117 117 _ _ _ _ _ _ Tryz.underlying117 rfl
  ·rw[Nat.sub_self,seg_zero,List.append_nil];exact h.blk
theorem VecPost.blk_x {w w1:World} {bz oz j bx:Nat} {zs xs rs:List Nat} (h:VecPost w w1 bz oz j zs rs) (hx:Blk w bx xs):∃xs',Blk w1 bx xs':=by
 by_cases e:bx=bz
 ·subst e;exact⟨_,h.blk⟩
 ·exact⟨_,hx.mod h.mod (by simpa using e)⟩
def VRet (w:World) (bz oz n:Nat) (zs:List Nat) (P:Nat→List Nat→Prop) (e:Ending) (w':World):Prop:=
 ∃(c:Nat) (rs:List Nat),e=.returned (.int .u64 c)∧VecPost w w' bz oz n zs rs∧P c rs
theorem VecPost.nil {w:World} {bz oz:Nat} {zs:List Nat} (hz:Blk w bz zs):VecPost w w bz oz 0 zs []:=⟨rfl,WL_nil,Mod.refl _ _,by rw[spl_nil];exact hz⟩
theorem addVW_stop {xs rs:List Nat} {ox j n y:Nat} (hj:j≤n) (hl:ox+n≤xs.length) (hlen:rs.length=j) (h:val rs=val (seg xs ox j)+y):
 val (rs++seg xs (ox+j) (n-j))+B^n*0=val (seg xs ox n)+y:=by
 rw[seg_append hj hl,val_append,val_append,hlen,seg_length (by omega)];omega
theorem addVW_calls (bz oz cz bx ox cx n y:Nat) (zs xs:List Nat) (w:World) (hz:Blk w bz zs) (hx:Blk w bx xs)
 (hzl:oz+n≤zs.length) (hxl:ox+n≤xs.length) (hax:(bx=bz∧ox=oz)∨bx≠bz) (hn:n≤1000000) (h0:0<n) (hcz:n≤cz) (hcx:n≤cx) (hy:y<B):
 Calls Tryz.prog 189 #[.slice (some ⟨bz,oz,none⟩) n cz,.slice (some ⟨bx,ox,none⟩) n cx,.int .u64 y] w fun e w'=>
  VRet w bz oz n zs (fun c rs=>c≤1∧val rs+B^n*c=val (seg xs ox n)+y) e w':=by
 have h1:((n:Int) !=(n:Int))=false:=by simp
 have h2:((n:Int)==0)=false:=by simp;omega
 have hn':(0:Int)<n:=by omega
 have hn1:(1:Int)≤n:=by omega
 have hn2:1≤n:=by omega
 have rx:=hx.cell (i:=ox) (by omega)
 have rz:=hz.cell (i:=oz) (by omega)
 have fz:=hz.free oz
 have hxk:=wat_lt hx.wl ox
 go_enter Tryz.func189,Tryz.ntmps189
 go_wp2_with fail
 refine(Add_calls _ y 0 _ hxk hy (by omega)).mono ?_
 rintro e w' ⟨s,r,rfl,rfl,hok⟩
 have hs:=hok.1
 have hv:=(VecPost.nil (oz:=oz) hz).next (by omega) hs
 rw[List.nil_append,Nat.zero_add,Nat.add_zero] at hv
 have hsum:s+B*r=wat xs ox+y:=by have:=hok.2.2;omega
 have e1:val (seg xs ox 1)=wat xs ox:=by
  have:=val_seg_succ (xs:=xs) (o:=ox) (n:=0) (by omega)
  rw[seg_zero] at this;simpa using this
 have hr1:=hok.2.1
 clear hok
 rcases Nat.eq_zero_or_pos r with hr|hr
 ·subst hr
  have hfin:=addVW_stop (rs:=[s]) (j:=1) (y:=y) hn2 hxl rfl (by rw[e1,val_cons,val_nil];omega)
  have HFIN:=Lh hfin
  obtain⟨xs',hx'⟩:=hv.blk_x hx
  have hptr:∀k,(binOp .neq 264 (.pointer (some ⟨bz,oz,none⟩)) (.pointer (some ⟨bx,ox,none⟩))).run Tryz.prog ((w.setCell ⟨bz,oz,none⟩ (.int .u64 (s:Int))).drewN k)=.ok (.bool (!decide (bz=bx∧oz=ox))) _:=
   fun k=>wptr_neq (hv.blk.drewN k) (hx'.drewN k)
  have HV:=Lh hv
  clear hx' hv hfin hsum e1
  rcases hax with ⟨rfl,rfl⟩|hne
  ·have hb:(!decide (bx=bx∧ox=ox))=false:=by simp
   obtain rfl:=hz.unique hx
   have T:=Lh (HV.out.tail_same hz hn2 hzl)
   go_wp2_with fail
   go_quiet (fail)
   go_wp2_with fail
   go_ret
   exact⟨0,_,rfl,T.out.drewN nq,by omega,HFIN.out⟩
  ·have hb:(!decide (bz=bx∧oz=ox))=true:=by simp;exact .inl (Ne.symm hne)
   rw[hb] at hptr
   have T:=Lh (fun m=>(HV.out.drewN m).tail_copy hx hne hn2 hzl hxl hcz hcx)
   go_wp2_with fail
   go_quiet (fail)
   go_wp2_with fail
   obtain⟨w2,hrun,hv2⟩:=T.out (nq+1)
   go_still_tail 4,(by kernel_rfl)
   change wpList _ _ _ _ _ ((w.setCell ⟨bz,oz,none⟩ (.int .u64 (s:Int))).drewN (nq+1))
   generalize (w.setCell ⟨bz,oz,none⟩ (.int .u64 (s:Int))).drewN (nq+1)=w3 at*
   have HV2:=Lh hv2
   clear hv2 hptr
   go_wp2_with fail
   all_goals (go_ret;exact⟨0,_,rfl,HV2.out,by omega,HFIN.out⟩)
 ·obtain rfl:r=1:=by omega
  have hval:val [s]+B^1=val (seg xs ox 1)+y:=by rw[e1,val_cons,val_nil,Nat.pow_one];omega
  have HV:=Lh (Aj hv hval)
  have hc1:((1:Int)==0)=false:=by decide
  clear hv hval hsum e1
  go_wp2_with fail
  go_loopw [9] (fun i wr=>∃(k:Nat) (rs:List Nat),1≤k∧k≤n∧i=.int .i64 k∧VecPost w wr bz oz k zs rs∧val rs+B^k=val (seg xs ox k)+y)
   (fun i _=>n-(intOf i).toNat)
  case atStart=>exact⟨1,[s],Nat.le_refl _,hn2,rfl,HV.out.1,HV.out.2⟩
  case round=>
   obtain⟨k,rs,hk1,hk,rfl,hv,hval⟩:=hrel
   clear HV
   rcases Nat.lt_or_ge k n with hlt|hge
   ·have rx:=read_after (ox:=ox) hx hz hv.mod hv.blk (fun e=>hax.elim (fun h=>by rw[h.2];exact Nat.le_refl _) (fun h=>absurd e h)) (i:=k) (by rw[hv.len];exact Nat.le_refl _) (by omega) (by rw[hv.len];omega)
    have hxk:=wat_lt hx.wl (ox+k)
    have hvs:=val_seg_succ (xs:=xs) (o:=ox) (n:=k) (by omega)
    obtain⟨x,hxx⟩:∃x,x=wat xs (ox+k):=⟨_,rfl⟩
    rw[←hxx] at rx hxk hvs
    clear hxx
    have fz:=hv.blk.free (oz+k)
    have rz:=hv.blk.cell (i:=oz+k) (by rw[spl_length (by rw[hv.len];omega)];omega)
    have hlt':(k:Int)<n:=by omega
    have hk0:(0:Int)≤k:=by omega
    by_cases hmx:x=18446744073709551615
    ·have t:((x:Int) !=18446744073709551615)=false:=by rw[hmx];rfl
     have hnext:=hv.next (s:=0) (by omega) (by rw[B_eq];omega)
     have hval2:val (rs++[0])+B^(k+1)=val (seg xs ox (k+1))+y:=by
      rw[val_snoc,hv.len,hvs,Nat.pow_succ,hmx]
      have e:∀p:Nat,p*B=p*18446744073709551615+p:=fun p=>by rw[B_eq];omega
      rw[e];omega
     have HN:=Lh (Aj hnext hval2)
     clear hv hval hvs hmx hnext hval2 hxk
     go_wp2_with fail
     exact⟨⟨k+1,rs++[0],by omega,by omega,by go_num,HN.out.1,HN.out.2⟩,by simp[intOf];omega⟩
    ·have t:((x:Int) !=18446744073709551615)=true:=by simp;omega
     have hB:=B_eq
     have t2:IntKind.u64.wrap ((x:Int)+1)=((x+1:Nat):Int):=by
      exact u64_nat (n:=x+1) (by omega)
     have hnext:=hv.next (s:=x+1) (by omega) (by omega)
     have hval2:val (rs++[x+1])=val (seg xs ox (k+1))+y:=by
      rw[val_snoc,hv.len,hvs]
      rw[Nat.mul_add];omega
     have hfin:=addVW_stop (rs:=rs++[x+1]) (j:=k+1) (y:=y) (by omega) hxl hnext.len hval2
     have HFIN:=Lh hfin
     obtain⟨xs',hx'⟩:=hnext.blk_x hx
     obtain⟨v,hvv⟩:∃v,v=x+1:=⟨_,rfl⟩
     rw[←hvv] at t2 hnext HFIN hx'
     have hptr:∀m,(binOp .neq 264 (.pointer (some ⟨bz,oz,none⟩)) (.pointer (some ⟨bx,ox,none⟩))).run Tryz.prog ((wr.setCell ⟨bz,oz+k,none⟩ (.int .u64 (v:Int))).drewN m)=.ok (.bool (!decide (bz=bx∧oz=ox))) _:=
      fun m=>wptr_neq (hnext.blk.drewN m) (hx'.drewN m)
     have HN:=Lh hnext
     have hk2:(k:Int)+1≤n:=by omega
     have hk3:k+1≤n:=by omega
     have hk4:(0:Int)≤(k:Int)+1:=by omega
     have hk5:IntKind.i64.wrap ((k:Int)+1)=(k:Int)+1:=IntWalk.i64_in _ (by omega)
     have hk6:((k:Int)+1).toNat=k+1:=by omega
     clear hx' hv hfin hval2 hval hvs hnext hvv hxk hmx hB
     rcases hax with ⟨rfl,rfl⟩|hne
     ·have hb:(!decide (bx=bx∧ox=ox))=false:=by simp
      obtain rfl:=hz.unique hx
      have T:=Lh (HN.out.tail_same hz hk3 hzl)
      clear hk5 hk6
      go_wp2_with fail
      go_quiet (fail)
      go_wp2_with fail
      go_ret
      exact⟨0,_,rfl,T.out.drewN nq,by omega,HFIN.out⟩
     ·have hb:(!decide (bz=bx∧oz=ox))=true:=by simp;exact .inl (Ne.symm hne)
      rw[hb] at hptr
      have T:=Lh (fun m=>(HN.out.drewN m).tail_copy hx hne hk3 hzl hxl hcz hcx)
      go_wp2_with fail
      go_quiet (fail)
      go_wp2_with fail
      obtain⟨w2,hrun,hv2⟩:=T.out (nq+1)
      go_still_tail 8,(by kernel_rfl)
      change wpList _ _ _ _ _ ((wr.setCell ⟨bz,oz+k,none⟩ (.int .u64 (v:Int))).drewN (nq+1))
      generalize (wr.setCell ⟨bz,oz+k,none⟩ (.int .u64 (v:Int))).drewN (nq+1)=w3 at*
      have HV2:=Lh hv2
      clear hv2 hptr
      go_wp2_with fail
      all_goals (go_ret;exact⟨0,_,rfl,HV2.out,by omega,HFIN.out⟩)
   ·obtain rfl:k=n:=by omega
    have HV:=Lh (Aj hv hval)
    clear hv hval
    go_wp2_with fail
    go_ret
    exact⟨1,rs,rfl,HV.out.1,by omega,by rw[Nat.mul_one];exact HV.out.2⟩
theorem subVW_stop {xs rs:List Nat} {ox j n y:Nat} (hj:j≤n) (hl:ox+n≤xs.length) (hlen:rs.length=j) (h:val rs+y=val (seg xs ox j)):
 val (rs++seg xs (ox+j) (n-j))+y=val (seg xs ox n)+B^n*0:=by
 rw[seg_append hj hl,val_append,val_append,hlen,seg_length (by omega)];omega
theorem subVW_calls (bz oz cz bx ox cx n y:Nat) (zs xs:List Nat) (w:World) (hz:Blk w bz zs) (hx:Blk w bx xs)
 (hzl:oz+n≤zs.length) (hxl:ox+n≤xs.length) (hax:(bx=bz∧ox=oz)∨bx≠bz) (hn:n≤1000000) (h0:0<n) (hcz:n≤cz) (hcx:n≤cx) (hy:y<B):
 Calls Tryz.prog 191 #[.slice (some ⟨bz,oz,none⟩) n cz,.slice (some ⟨bx,ox,none⟩) n cx,.int .u64 y] w fun e w'=>
  VRet w bz oz n zs (fun c rs=>c≤1∧val rs+y=val (seg xs ox n)+B^n*c) e w':=by
 have h1:((n:Int) !=(n:Int))=false:=by simp
 have h2:((n:Int)==0)=false:=by simp;omega
 have hn':(0:Int)<n:=by omega
 have hn1:(1:Int)≤n:=by omega
 have hn2:1≤n:=by omega
 have rx:=hx.cell (i:=ox) (by omega)
 have rz:=hz.cell (i:=oz) (by omega)
 have fz:=hz.free oz
 have hxk:=wat_lt hx.wl ox
 go_enter Tryz.func191,Tryz.ntmps191
 go_wp2_with fail
 refine(Sub_calls _ y 0 _ hxk hy (by omega)).mono ?_
 rintro e w' ⟨s,r,rfl,rfl,hok⟩
 have hs:=hok.1
 have hv:=(VecPost.nil (oz:=oz) hz).next (by omega) hs
 rw[List.nil_append,Nat.zero_add,Nat.add_zero] at hv
 have hsum:s+y=wat xs ox+B*r:=by have:=hok.2.2;omega
 have e1:val (seg xs ox 1)=wat xs ox:=by
  have:=val_seg_succ (xs:=xs) (o:=ox) (n:=0) (by omega)
  rw[seg_zero] at this;simpa using this
 have hr1:=hok.2.1
 clear hok
 rcases Nat.eq_zero_or_pos r with hr|hr
 ·subst hr
  have hfin:=subVW_stop (rs:=[s]) (j:=1) (y:=y) hn2 hxl rfl (by rw[e1,val_cons,val_nil];omega)
  have HFIN:=Lh hfin
  obtain⟨xs',hx'⟩:=hv.blk_x hx
  have hptr:∀k,(binOp .neq 264 (.pointer (some ⟨bz,oz,none⟩)) (.pointer (some ⟨bx,ox,none⟩))).run Tryz.prog ((w.setCell ⟨bz,oz,none⟩ (.int .u64 (s:Int))).drewN k)=.ok (.bool (!decide (bz=bx∧oz=ox))) _:=
   fun k=>wptr_neq (hv.blk.drewN k) (hx'.drewN k)
  have HV:=Lh hv
  clear hx' hv hfin hsum e1
  rcases hax with ⟨rfl,rfl⟩|hne
  ·have hb:(!decide (bx=bx∧ox=ox))=false:=by simp
   obtain rfl:=hz.unique hx
   have T:=Lh (HV.out.tail_same hz hn2 hzl)
   go_wp2_with fail
   go_quiet (fail)
   go_wp2_with fail
   go_ret
   exact⟨0,_,rfl,T.out.drewN nq,by omega,HFIN.out⟩
  ·have hb:(!decide (bz=bx∧oz=ox))=true:=by simp;exact .inl (Ne.symm hne)
   rw[hb] at hptr
   have T:=Lh (fun m=>(HV.out.drewN m).tail_copy hx hne hn2 hzl hxl hcz hcx)
   go_wp2_with fail
   go_quiet (fail)
   go_wp2_with fail
   obtain⟨w2,hrun,hv2⟩:=T.out (nq+1)
   go_still_tail 4,(by kernel_rfl)
   change wpList _ _ _ _ _ ((w.setCell ⟨bz,oz,none⟩ (.int .u64 (s:Int))).drewN (nq+1))
   generalize (w.setCell ⟨bz,oz,none⟩ (.int .u64 (s:Int))).drewN (nq+1)=w3 at*
   have HV2:=Lh hv2
   clear hv2 hptr
   go_wp2_with fail
   all_goals (go_ret;exact⟨0,_,rfl,HV2.out,by omega,HFIN.out⟩)
 ·obtain rfl:r=1:=by omega
  have hval:val [s]+y=val (seg xs ox 1)+B^1:=by rw[e1,val_cons,val_nil,Nat.pow_one];omega
  have HV:=Lh (Aj hv hval)
  have hc1:((1:Int)==0)=false:=by decide
  clear hv hval hsum e1
  go_wp2_with fail
  go_loopw [9] (fun i wr=>∃(k:Nat) (rs:List Nat),1≤k∧k≤n∧i=.int .i64 k∧VecPost w wr bz oz k zs rs∧val rs+y=val (seg xs ox k)+B^k)
   (fun i _=>n-(intOf i).toNat)
  case atStart=>exact⟨1,[s],Nat.le_refl _,hn2,rfl,HV.out.1,HV.out.2⟩
  case round=>
   obtain⟨k,rs,hk1,hk,rfl,hv,hval⟩:=hrel
   clear HV
   rcases Nat.lt_or_ge k n with hlt|hge
   ·have rx:=read_after (ox:=ox) hx hz hv.mod hv.blk (fun e=>hax.elim (fun h=>by rw[h.2];exact Nat.le_refl _) (fun h=>absurd e h)) (i:=k) (by rw[hv.len];exact Nat.le_refl _) (by omega) (by rw[hv.len];omega)
    have hxk:=wat_lt hx.wl (ox+k)
    have hvs:=val_seg_succ (xs:=xs) (o:=ox) (n:=k) (by omega)
    obtain⟨x,hxx⟩:∃x,x=wat xs (ox+k):=⟨_,rfl⟩
    rw[←hxx] at rx hxk hvs
    clear hxx
    have fz:=hv.blk.free (oz+k)
    have rz:=hv.blk.cell (i:=oz+k) (by rw[spl_length (by rw[hv.len];omega)];omega)
    have hlt':(k:Int)<n:=by omega
    have hk0:(0:Int)≤k:=by omega
    by_cases hmx:x=0
    ·have t:((x:Int) !=0)=false:=by rw[hmx];rfl
     have hnext:=hv.next (s:=18446744073709551615) (by omega) (by rw[B_eq];omega)
     have hval2:val (rs++[18446744073709551615])+y=val (seg xs ox (k+1))+B^(k+1):=by
      rw[val_snoc,hv.len,hvs,Nat.pow_succ,hmx]
      have e:∀p:Nat,p*B=p*18446744073709551615+p:=fun p=>by rw[B_eq];omega
      rw[e];omega
     have HN:=Lh (Aj hnext hval2)
     clear hv hval hvs hmx hnext hval2 hxk
     go_wp2_with fail
     exact⟨⟨k+1,rs++[18446744073709551615],by omega,by omega,by go_num,HN.out.1,HN.out.2⟩,by simp[intOf];omega⟩
    ·have t:((x:Int) !=0)=true:=by simp;omega
     have hB:=B_eq
     have t2:IntKind.u64.wrap ((x:Int)-1)=((x-1:Nat):Int):=by
      have e:(x:Int)-1=((x-1:Nat):Int):=by omega
      rw[e];exact u64_nat (by omega)
     have hnext:=hv.next (s:=x-1) (by omega) (by omega)
     have hval2:val (rs++[x-1])+y=val (seg xs ox (k+1)):=by
      rw[val_snoc,hv.len,hvs]
      obtain⟨x',rfl⟩:∃x',x=x'+1:=⟨x-1,by omega⟩
      rw[Nat.add_sub_cancel,Nat.mul_add];omega
     have hfin:=subVW_stop (rs:=rs++[x-1]) (j:=k+1) (y:=y) (by omega) hxl hnext.len hval2
     have HFIN:=Lh hfin
     obtain⟨xs',hx'⟩:=hnext.blk_x hx
     obtain⟨v,hvv⟩:∃v,v=x-1:=⟨_,rfl⟩
     rw[←hvv] at t2 hnext HFIN hx'
     have hptr:∀m,(binOp .neq 264 (.pointer (some ⟨bz,oz,none⟩)) (.pointer (some ⟨bx,ox,none⟩))).run Tryz.prog ((wr.setCell ⟨bz,oz+k,none⟩ (.int .u64 (v:Int))).drewN m)=.ok (.bool (!decide (bz=bx∧oz=ox))) _:=
      fun m=>wptr_neq (hnext.blk.drewN m) (hx'.drewN m)
     have HN:=Lh hnext
     have hk2:(k:Int)+1≤n:=by omega
     have hk3:k+1≤n:=by omega
     have hk4:(0:Int)≤(k:Int)+1:=by omega
     have hk5:IntKind.i64.wrap ((k:Int)+1)=(k:Int)+1:=IntWalk.i64_in _ (by omega)
     have hk6:((k:Int)+1).toNat=k+1:=by omega
     clear hx' hv hfin hval2 hval hvs hnext hvv hxk hmx hB
     rcases hax with ⟨rfl,rfl⟩|hne
     ·have hb:(!decide (bx=bx∧ox=ox))=false:=by simp
      obtain rfl:=hz.unique hx
      have T:=Lh (HN.out.tail_same hz hk3 hzl)
      clear hk5 hk6
      go_wp2_with fail
      go_quiet (fail)
      go_wp2_with fail
      go_ret
      exact⟨0,_,rfl,T.out.drewN nq,by omega,HFIN.out⟩
     ·have hb:(!decide (bz=bx∧oz=ox))=true:=by simp;exact .inl (Ne.symm hne)
      rw[hb] at hptr
      have T:=Lh (fun m=>(HN.out.drewN m).tail_copy hx hne hk3 hzl hxl hcz hcx)
      go_wp2_with fail
      go_quiet (fail)
      go_wp2_with fail
      obtain⟨w2,hrun,hv2⟩:=T.out (nq+1)
      go_still_tail 8,(by kernel_rfl)
      change wpList _ _ _ _ _ ((wr.setCell ⟨bz,oz+k,none⟩ (.int .u64 (v:Int))).drewN (nq+1))
      generalize (wr.setCell ⟨bz,oz+k,none⟩ (.int .u64 (v:Int))).drewN (nq+1)=w3 at*
      have HV2:=Lh hv2
      clear hv2 hptr
      go_wp2_with fail
      all_goals (go_ret;exact⟨0,_,rfl,HV2.out,by omega,HFIN.out⟩)
   ·obtain rfl:k=n:=by omega
    have HV:=Lh (Aj hv hval)
    clear hv hval
    go_wp2_with fail
    go_ret
    exact⟨1,rs,rfl,HV.out.1,by omega,by rw[Nat.mul_one];exact HV.out.2⟩
end Go.Proofs.YtcpjclakdpjjfaaGreatDoor
