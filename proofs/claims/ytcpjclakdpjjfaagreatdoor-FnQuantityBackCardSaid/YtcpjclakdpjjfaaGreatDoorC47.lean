/- Quantities added (resource/quantity. -/
import Derived.Test.YtcpjclakdpjjfaaGreatDoorC46
set_option maxHeartbeats 8000000
set_option maxRecDepth 20000
namespace Go.Proofs.YtcpjclakdpjjfaaGreatDoor
open Go.RowKit Wd Dg
theorem Q2.turn {w W W2:World} {bq:Nat} {V:Int} {f f2:Value} {bl:List Nat} {vy sy:Int} {dy sty fy:Value} {Vy:Int} {bly:List Nat} (h:Q2 w bq V f bl vy sy dy sty fy Vy bly W) (m:Mod [bq] W W2) (hq:Qy W2 bq V f2 bl):Q2 w bq V f2 bl vy sy dy sty fy Vy bly W2:=by
 have hne:=h.ne
 have hlo:=hq.lo
 have hn:∀k,k∈bly→k∉[bq]:=fun k hk hm=>h.nb (by rw[←List.mem_singleton.1 hm];exact hk)
 exact⟨h.env.mod m (by simp;exact hlo),hq,h.b.mod m (by simp;omega) hn,h.bd.mod m (by simp;omega),h.bk.mod m hn,h.mod.trans m,hne,h.dis,h.l1,h.l2,h.nb,Nat.lt_of_lt_of_le h.big m.size⟩
theorem Q2.rest {w W:World} {bq:Nat} {V:Int} {f:Value} {bl:List Nat} {vy sy:Int} {dy sty fy:Value} {Vy:Int} {bly:List Nat} (h:Q2 w bq V f bl vy sy dy sty fy Vy bly W) (f3:FuncId) (R:Int) (hB:VB R)
 (h3:∀(a b:Nat) (ca cb na nb:Int) (va vb:Value) (wx:World),Env wx→IA wx a (some ca) na va→IA wx b (some cb) nb vb→a≠b→DB na ca→DB nb cb→dV na ca=V→dV nb cb=Vy→Calls Tryz.prog f3 #[.pointer (some ⟨a,0,none⟩),.pointer (some ⟨a,0,none⟩),.pointer (some ⟨b,0,none⟩)] wx fun e w'=>e=.returned (.pointer (some ⟨a,0,none⟩))∧∃c' n' v',IntRes wx a va (some c') n' v' w'∧dV n' c'=R∧(c'=ca∨c'=cb)):
 Calls Tryz.prog 92 #[.pointer (some ⟨bq,0,none⟩)] W (ToDecRet W bq V f bl)∧∀b c n u w1,QDec W bq V f bl b c n u w1→Calls Tryz.prog 89 #[.pointer (some ⟨w.heap.size,0,none⟩)] w1 (AsDecRet w1 w.heap.size Vy fy bly)∧∀b2 c2 n2 u2 w2,QDec w1 w.heap.size Vy fy bly b2 c2 n2 u2 w2→w2.cell? ⟨bq,2,none⟩=some (.pointer (some ⟨b,0,none⟩))∧
  ∀k,Calls Tryz.prog f3 #[.pointer (some ⟨b,0,none⟩),.pointer (some ⟨b,0,none⟩),.pointer (some ⟨b2,0,none⟩)] (w2.drewN k) fun e w'=>e=.returned (.pointer (some ⟨b,0,none⟩))∧w'.cell? ⟨bq,2,none⟩=some (.pointer (some ⟨b,0,none⟩))∧QtR w bq bl R f w':=by
 refine⟨q_toDec bq V f bl W h.env.env h.q,fun b c n u w1 k1=>?_⟩
 obtain⟨q1,q2,q3,q4⟩:=h.second k1
 refine⟨q_asDec _ Vy fy bly w1 q2.env q1,fun b2 c2 n2 u2 w2 k2=>?_⟩
 obtain⟨r1,r2,r3⟩:=k1.apart k2 q3 q4
 have env2:Env2 w2:=q2.mod k2.mod (by have:=q1.lo;simp;omega)
 obtain⟨v5,s5,st5,hd5⟩:=k1.hd
 have hne:=h.ne
 have hlo:=h.q.lo
 have hd6:=hd5.mod k2.mod (by simp;omega)
 have hoff:bq∉b::sb u:=QOk.off (w:=w1) (v:=v5) (s:=s5) (V:=V) (.inr ⟨b,c,n,u,rfl,rfl,k1.ia,k1.db,k1.v⟩) hd5
 refine⟨hd6.cell rfl,fun j=>?_⟩
 refine(h3 b b2 c c2 n n2 u u2 (w2.drewN j) (env2.drewN j).env (r2.drewN j) (k2.ia.drewN j) r1 k1.db k2.db k1.v.symm k2.v.symm).mono ?_
 rintro e w' ⟨rfl,c',n',v',hr,hv,hc⟩
 have hd7:=(hd6.mod ((Mod.refl [] w2).drewN j) (by simp)).mod hr.mod hoff
 refine⟨rfl,hd7.cell rfl,(QtR.dec (w:=w) hd7 hlo ?_ hr.ia (VB.db (by rw[hv];exact hB) ?_ ?_) (fun x hx=>?_)).of hv⟩
 ·have m1:Mod (bq::bl) w w1:=((h.mod.trans k1.mod).mono (fun x hx=>.inl (by simp at hx;simp[hx])))
  have m2:Mod (bq::bl) w (w2.drewN j):=(m1.step k2.mod (fun x hx=>.inr (by rw[List.mem_singleton.1 hx];exact Nat.le_refl _))).drewN j
  exact m2.step hr.mod (fun x hx=>(k1.own x hx).elim (fun h=>.inl (by simp[h])) (fun h'=>.inr (Nat.le_trans h.mod.size h')))
 ·rcases hc with rfl|rfl
  ·exact k1.db.lo
  ·exact k2.db.lo
 ·rcases hc with rfl|rfl
  ·exact k1.db.hi
  ·exact k2.db.hi
 ·have hx2:x∈b::sb u∨w2.heap.size≤x:=by
   rcases List.mem_cons.1 hx with rfl|hx
   ·exact .inl (by simp)
   ·exact(hr.own x hx).imp (fun h=>by simp[h]) id
  rcases hx2 with h'|h'
  ·exact(k1.own x h').imp id (fun h''=>Nat.le_trans h.mod.size h'')
  ·exact .inr (Nat.le_trans h.mod.size (Nat.le_trans k1.mod.size (Nat.le_trans k2.mod.size h')))
theorem add3 (V Vy:Int) (a b:Nat) (ca cb na nb:Int) (va vb:Value) (wx:World) (he:Env wx) (ha:IA wx a (some ca) na va) (hb:IA wx b (some cb) nb vb) (hne:a≠b) (d1:DB na ca) (d2:DB nb cb) (e1:dV na ca=V) (e2:dV nb cb=Vy):
 Calls Tryz.prog 97 #[.pointer (some ⟨a,0,none⟩),.pointer (some ⟨a,0,none⟩),.pointer (some ⟨b,0,none⟩)] wx fun e w'=>e=.returned (.pointer (some ⟨a,0,none⟩))∧∃c' n' v',IntRes wx a va (some c') n' v' w'∧dV n' c'=V+Vy∧(c'=ca∨c'=cb):=by
 have q1:=d1.lo;have q2:=d1.hi;have q3:=d2.lo;have q4:=d2.hi
 refine(dec_add a b ca cb na nb va vb wx he ha hb hne (by omega) (by omega) (by omega) (by omega) (by omega) (by omega) d1.big d2.big (fun k hk=>d1.pow (by omega)) (fun k hk=>d2.pow (by omega))).mono ?_
 rintro e w' ⟨rfl,c',n',v',hr,hv,h1,h2,h3,h4⟩
 exact⟨rfl,c',n',v',hr,by rw[hv,e1,e2],h4⟩
theorem sub3 (V Vy:Int) (a b:Nat) (ca cb na nb:Int) (va vb:Value) (wx:World) (he:Env wx) (ha:IA wx a (some ca) na va) (hb:IA wx b (some cb) nb vb) (hne:a≠b) (d1:DB na ca) (d2:DB nb cb) (e1:dV na ca=V) (e2:dV nb cb=Vy):
 Calls Tryz.prog 99 #[.pointer (some ⟨a,0,none⟩),.pointer (some ⟨a,0,none⟩),.pointer (some ⟨b,0,none⟩)] wx fun e w'=>e=.returned (.pointer (some ⟨a,0,none⟩))∧∃c' n' v',IntRes wx a va (some c') n' v' w'∧dV n' c'=V-Vy∧(c'=ca∨c'=cb):=by
 have q1:=d1.lo;have q2:=d1.hi;have q3:=d2.lo;have q4:=d2.hi
 refine(dec_sub a b ca cb na nb va vb wx he ha hb hne (by omega) (by omega) (by omega) (by omega) (by omega) (by omega) d1.big d2.big (fun k hk=>d1.pow (by omega)) (fun k hk=>d2.pow (by omega))).mono ?_
 rintro e w' ⟨rfl,c',n',v',hr,hv,h1,h2,h3,h4⟩
 exact⟨rfl,c',n',v',hr,by rw[hv,e1,e2],h4⟩
end Go.Proofs.YtcpjclakdpjjfaaGreatDoor
namespace Go.Proofs.YtcpjclakdpjjfaaGreatDoor
open Go.RowKit Wd Dg
theorem Q2.format {w W:World} {bq:Nat} {V:Int} {f:Value} {bl:List Nat} {vy sy:Int} {dy sty fy:Value} {Vy:Int} {bly:List Nat} (h:Q2 w bq V f bl vy sy dy sty fy Vy bly W) {v s:Int} {d st:Value} (hd:Hd W bq 70 (qc v s d st f)) (hq:QOk W v s d V bl) (g:Value):
 Q2 w bq V g bl vy sy dy sty fy Vy bly (W.setCell ⟨bq,4,none⟩ g)∧Hd (W.setCell ⟨bq,4,none⟩ g) bq 70 (qc v s d st g)∧QOk (W.setCell ⟨bq,4,none⟩ g) v s d V bl:=by
 have m:Mod [bq] W (W.setCell ⟨bq,4,none⟩ g):=(Mod.refl [bq] W).setCell _ (.inl (by simp))
 have hd2:Hd (W.setCell ⟨bq,4,none⟩ g) bq 70 (qc v s d st g):=hd.set 4 g
 have hq2:=hq.mod m (fun k hk hm=>hq.off hd (by rw[←List.mem_singleton.1 hm];exact hk))
 exact⟨h.turn m ⟨⟨v,s,d,st,hd2,hq2⟩,h.q.lo⟩,hd2,hq2⟩
theorem Q2.amt {w W:World} {bq:Nat} {V:Int} {f:Value} {bl:List Nat} {vy sy:Int} {dy sty fy:Value} {Vy:Int} {bly:List Nat} (h:Q2 w bq V f bl vy sy dy sty fy Vy bly W) {v s y t:Int} {st:Value} (hbl:bl=[]) (hv:i64 v) (h1:-100≤s) (h2:s≤100) (h3:-100≤t) (h4:t≤100) (hV:V=v*sc s) {k:Nat} {e:Ending} {w':World} (hr:AddRet (W.drewN k) bq v s y t (.pointer none) st f e w'):
 (e=.returned (.bool true)∧QtR w bq bl (V+y*sc t) f w')∨(e=.returned (.bool false)∧Q2 w bq V f bl vy sy dy sty fy Vy bly w'∧w'.cell? ⟨bq,2,none⟩=some (.pointer none)):=by
 subst hbl
 obtain⟨m,hr⟩:=hr
 have m2:Mod [bq] W w':=((Mod.refl [bq] W).drewN k).trans m
 rcases hr with ⟨rfl,v',s',hd,hv',hs',hvv⟩|⟨rfl,hd⟩
 ·exact .inl ⟨rfl,(QtR.amt hd h.q.lo (h.mod.trans m2) hv' (by omega) (by omega)).of (by rw[hvv,hV])⟩
 ·exact .inr ⟨rfl,h.turn m2 ⟨⟨v,s,_,st,hd,.inl ⟨rfl,rfl,hv,h1,h2,hV⟩⟩,h.q.lo⟩,hd.cell rfl⟩
theorem q_add (bq:Nat) (V:Int) (f:ByteArray) (bl:List Nat) (vy sy:Int) (dy sty:Value) (fy:ByteArray) (Vy:Int) (bly:List Nat) (g:ByteArray) (hg:g=if V=0 then fy else f) (w:World) (he:Env2 w) (h:Qy w bq V (.string f) bl) (hy:QOk w vy sy dy Vy bly) (hdis:∀k,k∈bl→k∉bly) (hB:VB (V+Vy)):
 Calls Tryz.prog 54 #[.pointer (some ⟨bq,0,none⟩),qv vy sy dy sty (.string fy)] w fun e w'=>e=.returned (.tuple #[])∧QtR w bq bl (V+Vy) (.string g) w':=by
 have HG:=Lh hg
 clear hg
 have h0:=Q2.start (sty:=sty) (fy:=.string fy) he h hy hdis
 obtain⟨v,s,d,st,hd,hq⟩:=h0.q.q
 have lo:=h0.q.lo
 have f3:=hd.free
 have c3:=hd.cell (i:=3) (v:=st) rfl
 have m1:Mod [bq] (w.alloc (.cells (qc vy sy dy sty (.string fy)) 70)) ((w.alloc (.cells (qc vy sy dy sty (.string fy)) 70)).setCell ⟨bq,3,none⟩ (.string ⟨#[]⟩)):=(Mod.refl [bq] _).setCell _ (.inl (by simp))
 have hd1:Hd ((w.alloc (.cells (qc vy sy dy sty (.string fy)) 70)).setCell ⟨bq,3,none⟩ (.string ⟨#[]⟩)) bq 70 (qc v s d (.string ⟨#[]⟩) (.string f)):=hd.set 3 (.string ⟨#[]⟩)
 have hq1:=hq.mod m1 (fun k hk hm=>hq.off hd (by rw[←List.mem_singleton.1 hm];exact hk))
 have hh:=h0.turn m1 ⟨⟨v,s,d,_,hd1,hq1⟩,lo⟩
 have HW:=Lh (Aj hd1 (Aj hq1 hh))
 clear h0 hd hq m1 hd1 hq1 hh h hy hdis he
 unfold qv qc at*
 go_enter Tryz.func54,Tryz.ntmps54
 go_upto_region 2 with fail
 obtain⟨hd,hq,hh⟩:=HW.out
 clear f3 c3 HW
 generalize (w.alloc (.cells #[.int .i64 vy,.int .i32 sy,dy,sty,.string fy] 70)).setCell ⟨bq,3,none⟩ (.string ⟨#[]⟩)=W at*
 have hd':Hd W bq 70 (qc v s d (.string ⟨#[]⟩) (.string f)):=hd
 have c0:=hd'.cell (i:=0) (v:=.int .i64 v) rfl
 have c1:=hd'.cell (i:=1) (v:=.int .i32 s) rfl
 have c2:=hd'.cell (i:=2) (v:=d) rfl
 have c4:=hd'.cell (i:=4) (v:=.string f) rfl
 have fr:=hd'.free
 have e0:=hh.bd.cell (i:=0) (v:=.int .i64 vy) rfl
 have e1:=hh.bd.cell (i:=1) (v:=.int .i32 sy) rfl
 have e2:=hh.bd.cell (i:=2) (v:=dy) rfl
 have e4:=hh.bd.cell (i:=4) (v:=.string fy) rfl
 by_cases hnn:d=.pointer none∧dy=.pointer none
 ·obtain⟨rfl,rfl⟩:=hnn
  rcases hq with ⟨-,hbl,hv,h1,h2,hV⟩|⟨b,c,n,u,hx,-⟩
  ·rcases hh.bk with ⟨-,-,hvy,h4,h5,hVy⟩|⟨b,c,n,u,hx,-⟩
   ·by_cases hv0:v=0
    ·have tv:(v==0)=true:=by simp[hv0]
     have hV0:V=0:=by rw[hV,hv0,Int.zero_mul]
     obtain⟨hh2,hd2,-⟩:=hh.format hd' (.inl ⟨rfl,hbl,hv,h1,h2,hV⟩) (.string g)
     have hgf:g=fy:=by rw[HG.out,if_pos hV0]
     rw[←hgf] at e4
     clear hgf
     have a0:=hd2.cell (i:=0) (v:=.int .i64 v) rfl
     have b0:=hh2.bd.cell (i:=0) (v:=.int .i64 vy) rfl
     have b1:=hh2.bd.cell (i:=1) (v:=.int .i32 sy) rfl
     have HH:=Lh (Aj hh2 (Aj hd2 (Aj hbl (Aj hv (Aj h1 (Aj h2 (Aj h4 (Aj h5 (Aj hV (Aj hVy (Aj hvy hB)))))))))))
     clear hh hd hd' hh2 hd2 hbl hv h1 h2 hV hvy h4 h5 hVy hB lo hv0 hV0
     go_upto_region 5 with fail
     generalize W.setCell ⟨bq,4,none⟩ (.string g)=W5 at*
     have AC:=Lh (fun k=>amtAdd_calls bq v s vy sy (.pointer none) (.string ⟨#[]⟩) (.string g) (W5.drewN k) (HH.out.2.1.mod ((Mod.refl [] W5).drewN k) (by simp)) HH.out.2.2.2.1 HH.out.2.2.2.2.2.2.2.2.2.2.1 (by have:=HH.out.2.2.2.2.1;omega) (by have:=HH.out.2.2.2.2.2.1;omega) (by have:=HH.out.2.2.2.2.2.2.1;omega) (by have:=HH.out.2.2.2.2.2.2.2.1;omega))
     unfold amt at AC
     go_region_law (first|(go_simp;go_at_call 96;refine(AC.out _).mono ?_;rintro e w9 har;obtain⟨hh5,hd5,hbl,hv,h1,h2,h4,h5,hV,hVy,hvy,hB⟩:=HH.out;have hres:=hh5.amt hbl hv h1 h2 h4 h5 hV har;rw[←hVy] at hres;have HRES:=Lh hres;have hex:∃r,e=.returned (.bool r):=(hres.elim (fun q=>⟨true,q.1⟩) (fun q=>⟨false,q.1⟩));clear har hres hh5 hd5 hbl hv h1 h2 h4 h5 hV hVy hvy;obtain⟨r,rfl⟩:=hex;have HBB:=Lh hB;clear hB))
     all_goals
      cases r
      ·rcases HRES.out with ⟨h9,-⟩|⟨-,q2,hcn⟩
       ·cases h9
       ·have HR:=Lh (q2.rest 97 (V+Vy) HBB.out (add3 V Vy))
        clear q2
        obtain⟨RT,RF⟩:=HR.out
        have R1:=Lh RT
        have R2:=Lh RF
        clear RT RF
        go_wp2_with fail
        refine R1.out.mono ?_
        rintro e w6 ⟨b,c,n,u,rfl,k⟩
        obtain⟨AD,AF⟩:=R2.out b c n u w6 k
        have R3:=Lh AD
        have R4:=Lh AF
        clear AD AF k
        go_wp2_with fail
        refine R3.out.mono ?_
        rintro e w7 ⟨b2,c2',n2,u2,rfl,k2⟩
        obtain⟨g2,MU⟩:=R4.out b2 c2' n2 u2 w7 k2
        have R5:=Lh MU
        clear MU k2
        go_wp2_with fail
        go_region_held3 (fun w'=>w'.cell? ⟨bq,2,none⟩=some (.pointer (some ⟨b,0,none⟩))) (go_keep)
         (first|(go_at_call 97;refine(R5.out _).mono ?_;rintro e w8 ⟨rfl,g3,hq⟩;have R6:=Lh hq;clear hq))
        all_goals
         go_wp2_with fail
         refine bodyPost_end (results_none rfl _ _ _) rfl ?_
         exact⟨rfl,R6.out⟩
      ·rcases HRES.out with ⟨-,q2⟩|⟨h9,-⟩
       ·have HF:=Lh q2
        clear q2
        go_wp2_with fail
        refine bodyPost_ret (results_none rfl _ _ _) rfl ?_
        exact⟨rfl,HF.out⟩
       ·cases h9
    ·have tv:(v==0)=false:=by simpa using hv0
     have hV0:V≠0:=fun h=>by
      rw[hV] at h
      rcases Int.mul_eq_zero.1 h with h6|h6
      ·exact hv0 h6
      ·have:=sc_pos s;omega
     have hgf:g=f:=by rw[HG.out,if_neg hV0]
     subst hgf
     have HH:=Lh (Aj hh (Aj hd' (Aj hbl (Aj hv (Aj h1 (Aj h2 (Aj h4 (Aj h5 (Aj hV (Aj hVy (Aj hvy hB)))))))))))
     clear hh hd hd' hbl hv h1 h2 hV hvy h4 h5 hVy hB lo hv0 hV0
     go_upto_region 5 with fail
     generalize W=W5 at*
     have AC:=Lh (fun k=>amtAdd_calls bq v s vy sy (.pointer none) (.string ⟨#[]⟩) (.string g) (W5.drewN k) (HH.out.2.1.mod ((Mod.refl [] W5).drewN k) (by simp)) HH.out.2.2.2.1 HH.out.2.2.2.2.2.2.2.2.2.2.1 (by have:=HH.out.2.2.2.2.1;omega) (by have:=HH.out.2.2.2.2.2.1;omega) (by have:=HH.out.2.2.2.2.2.2.1;omega) (by have:=HH.out.2.2.2.2.2.2.2.1;omega))
     unfold amt at AC
     go_region_law (first|(go_simp;go_at_call 96;refine(AC.out _).mono ?_;rintro e w9 har;obtain⟨hh5,hd5,hbl,hv,h1,h2,h4,h5,hV,hVy,hvy,hB⟩:=HH.out;have hres:=hh5.amt hbl hv h1 h2 h4 h5 hV har;rw[←hVy] at hres;have HRES:=Lh hres;have hex:∃r,e=.returned (.bool r):=(hres.elim (fun q=>⟨true,q.1⟩) (fun q=>⟨false,q.1⟩));clear har hres hh5 hd5 hbl hv h1 h2 h4 h5 hV hVy hvy;obtain⟨r,rfl⟩:=hex;have HBB:=Lh hB;clear hB))
     all_goals
      cases r
      ·rcases HRES.out with ⟨h9,-⟩|⟨-,q2,hcn⟩
       ·cases h9
       ·have HR:=Lh (q2.rest 97 (V+Vy) HBB.out (add3 V Vy))
        clear q2
        obtain⟨RT,RF⟩:=HR.out
        have R1:=Lh RT
        have R2:=Lh RF
        clear RT RF
        go_wp2_with fail
        refine R1.out.mono ?_
        rintro e w6 ⟨b,c,n,u,rfl,k⟩
        obtain⟨AD,AF⟩:=R2.out b c n u w6 k
        have R3:=Lh AD
        have R4:=Lh AF
        clear AD AF k
        go_wp2_with fail
        refine R3.out.mono ?_
        rintro e w7 ⟨b2,c2',n2,u2,rfl,k2⟩
        obtain⟨g2,MU⟩:=R4.out b2 c2' n2 u2 w7 k2
        have R5:=Lh MU
        clear MU k2
        go_wp2_with fail
        go_region_held3 (fun w'=>w'.cell? ⟨bq,2,none⟩=some (.pointer (some ⟨b,0,none⟩))) (go_keep)
         (first|(go_at_call 97;refine(R5.out _).mono ?_;rintro e w8 ⟨rfl,g3,hq⟩;have R6:=Lh hq;clear hq))
        all_goals
         go_wp2_with fail
         refine bodyPost_end (results_none rfl _ _ _) rfl ?_
         exact⟨rfl,R6.out⟩
      ·rcases HRES.out with ⟨-,q2⟩|⟨h9,-⟩
       ·have HF:=Lh q2
        clear q2
        go_wp2_with fail
        refine bodyPost_ret (results_none rfl _ _ _) rfl ?_
        exact⟨rfl,HF.out⟩
       ·cases h9
   ·cases hx
  ·cases hx
 ·have hpn:(∃b0,d=.pointer (some ⟨b0,0,none⟩))∨(d=.pointer none∧∃b0,dy=.pointer (some ⟨b0,0,none⟩)):=by
   rcases hq with ⟨rfl,-⟩|⟨b,c,n,u,rfl,-⟩
   ·right
    rcases hh.bk with ⟨rfl,-⟩|⟨b,c,n,u,rfl,-⟩
    ·exact absurd ⟨rfl,rfl⟩ hnn
    ·exact⟨rfl,b,rfl⟩
   ·left;exact⟨b,rfl⟩
  have IZ:=Lh (q_isZero bq V (.string f) bl W hh.q)
  have HB:=Lh hB
  by_cases hV0:V=0
  ·have hgf:g=fy:=by rw[HG.out,if_pos hV0]
   rw[←hgf] at e4
   clear hgf
   obtain⟨hh2,hd2,-⟩:=hh.format hd' hq (.string g)
   have HR:=Lh (hh2.rest 97 (V+Vy) HB.out (add3 V Vy))
   have HZ:=Lh (decide_eq_true hV0)
   clear hh hd hd' hh2 hd2 hq hnn hV0 hB lo
   rcases hpn with ⟨b0,rfl⟩|⟨rfl,b0,rfl⟩
   all_goals
    have hp:=dptr_nil' b0
    go_wp2_with fail
    refine IZ.out.mono ?_
    rintro e w5 ⟨rfl,rfl⟩
    rw[HZ.out]
    obtain⟨RT,RF⟩:=HR.out
    have R1:=Lh RT
    have R2:=Lh RF
    clear RT RF
    go_wp2_with fail
    refine R1.out.mono ?_
    rintro e w6 ⟨b,c,n,u,rfl,k⟩
    obtain⟨AD,AF⟩:=R2.out b c n u w6 k
    have R3:=Lh AD
    have R4:=Lh AF
    clear AD AF k
    go_wp2_with fail
    refine R3.out.mono ?_
    rintro e w7 ⟨b2,c2',n2,u2,rfl,k2⟩
    obtain⟨g2,MU⟩:=R4.out b2 c2' n2 u2 w7 k2
    have R5:=Lh MU
    clear MU k2
    go_wp2_with fail
    go_region_held3 (fun w'=>w'.cell? ⟨bq,2,none⟩=some (.pointer (some ⟨b,0,none⟩))) (go_keep)
     (first|(go_at_call 97;refine(R5.out _).mono ?_;rintro e w8 ⟨rfl,g3,hq⟩;have R6:=Lh hq;clear hq))
    all_goals
     go_wp2_with fail
     refine bodyPost_end (results_none rfl _ _ _) rfl ?_
     exact⟨rfl,R6.out⟩
  ·have hgf:g=f:=by rw[HG.out,if_neg hV0]
   subst hgf
   have HR:=Lh (hh.rest 97 (V+Vy) HB.out (add3 V Vy))
   have HZ:=Lh (decide_eq_false hV0)
   clear hh hd hd' hq hnn hV0 hB lo
   rcases hpn with ⟨b0,rfl⟩|⟨rfl,b0,rfl⟩
   all_goals
    have hp:=dptr_nil' b0
    go_wp2_with fail
    refine IZ.out.mono ?_
    rintro e w5 ⟨rfl,rfl⟩
    rw[HZ.out]
    obtain⟨RT,RF⟩:=HR.out
    have R1:=Lh RT
    have R2:=Lh RF
    clear RT RF
    go_wp2_with fail
    refine R1.out.mono ?_
    rintro e w6 ⟨b,c,n,u,rfl,k⟩
    obtain⟨AD,AF⟩:=R2.out b c n u w6 k
    have R3:=Lh AD
    have R4:=Lh AF
    clear AD AF k
    go_wp2_with fail
    refine R3.out.mono ?_
    rintro e w7 ⟨b2,c2',n2,u2,rfl,k2⟩
    obtain⟨g2,MU⟩:=R4.out b2 c2' n2 u2 w7 k2
    have R5:=Lh MU
    clear MU k2
    go_wp2_with fail
    go_region_held3 (fun w'=>w'.cell? ⟨bq,2,none⟩=some (.pointer (some ⟨b,0,none⟩))) (go_keep)
     (first|(go_at_call 97;refine(R5.out _).mono ?_;rintro e w8 ⟨rfl,g3,hq⟩;have R6:=Lh hq;clear hq))
    all_goals
     go_wp2_with fail
     refine bodyPost_end (results_none rfl _ _ _) rfl ?_
     exact⟨rfl,R6.out⟩
end Go.Proofs.YtcpjclakdpjjfaaGreatDoor
namespace Go.Proofs.YtcpjclakdpjjfaaGreatDoor
open Go.RowKit Wd Dg
theorem Q2.drewN {w W:World} {bq:Nat} {V:Int} {f:Value} {bl:List Nat} {vy sy:Int} {dy sty fy:Value} {Vy:Int} {bly:List Nat} (h:Q2 w bq V f bl vy sy dy sty fy Vy bly W) (k:Nat):Q2 w bq V f bl vy sy dy sty fy Vy bly (W.drewN k):=
 h.turn ((Mod.refl [bq] W).drewN k) (h.q.mod ((Mod.refl [] W).drewN k) (by simp) (by simp))
def SubMid (w:World) (bq:Nat) (V:Int) (bl:List Nat) (vy sy:Int) (dy sty fy:Value) (Vy:Int) (bly:List Nat) (g:Value) (W:World) (v s:Int) (d:Value):Prop:=
 Q2 w bq V g bl vy sy dy sty fy Vy bly W∧Hd W bq 70 (qc v s d (.string ⟨#[]⟩) g)∧QOk W v s d V bl
theorem q_sub (bq:Nat) (V:Int) (f:ByteArray) (bl:List Nat) (vy sy:Int) (dy sty:Value) (fy:ByteArray) (Vy:Int) (bly:List Nat) (g:ByteArray) (hg:g=if V=0 then fy else f) (w:World) (he:Env2 w) (h:Qy w bq V (.string f) bl) (hy:QOk w vy sy dy Vy bly) (hdis:∀k,k∈bl→k∉bly) (hmin:vy≠-9223372036854775808) (hB:VB (V-Vy)):
 Calls Tryz.prog 55 #[.pointer (some ⟨bq,0,none⟩),qv vy sy dy sty (.string fy)] w fun e w'=>e=.returned (.tuple #[])∧QtR w bq bl (V-Vy) (.string g) w':=by
 have HG:=Lh hg
 clear hg
 have h0:=Q2.start (sty:=sty) (fy:=.string fy) he h hy hdis
 obtain⟨v,s,d,st,hd,hq⟩:=h0.q.q
 have lo:=h0.q.lo
 have f3:=hd.free
 have c3:=hd.cell (i:=3) (v:=st) rfl
 have m1:Mod [bq] (w.alloc (.cells (qc vy sy dy sty (.string fy)) 70)) ((w.alloc (.cells (qc vy sy dy sty (.string fy)) 70)).setCell ⟨bq,3,none⟩ (.string ⟨#[]⟩)):=(Mod.refl [bq] _).setCell _ (.inl (by simp))
 have hd1:Hd ((w.alloc (.cells (qc vy sy dy sty (.string fy)) 70)).setCell ⟨bq,3,none⟩ (.string ⟨#[]⟩)) bq 70 (qc v s d (.string ⟨#[]⟩) (.string f)):=hd.set 3 (.string ⟨#[]⟩)
 have hq1:=hq.mod m1 (fun k hk hm=>hq.off hd (by rw[←List.mem_singleton.1 hm];exact hk))
 have hh:=h0.turn m1 ⟨⟨v,s,d,_,hd1,hq1⟩,lo⟩
 have HW:=Lh (Aj hd1 (Aj hq1 hh))
 clear h0 hd hq m1 hd1 hq1 hh h hy hdis he
 unfold qv qc at*
 go_enter Tryz.func55,Tryz.ntmps55
 go_upto_region 2 with fail
 obtain⟨hd,hq,hh⟩:=HW.out
 clear f3 c3 HW
 generalize (w.alloc (.cells #[.int .i64 vy,.int .i32 sy,dy,sty,.string fy] 70)).setCell ⟨bq,3,none⟩ (.string ⟨#[]⟩)=W at*
 have hd':Hd W bq 70 (qc v s d (.string ⟨#[]⟩) (.string f)):=hd
 have c4:=hd'.cell (i:=4) (v:=.string f) rfl
 have fr:=hd'.free
 have e4:=hh.bd.cell (i:=4) (v:=.string fy) rfl
 have IZ:=Lh (q_isZero bq V (.string f) bl W hh.q)
 have HB:=Lh (Aj hB (Aj lo hmin))
 have MIDF:∀W4,W4=(if V=0 then W.setCell ⟨bq,4,none⟩ (.string g) else W)→SubMid w bq V bl vy sy dy sty (.string fy) Vy bly (.string g) W4 v s d:=by
  intro W4 hW4
  by_cases hV0:V=0
  ·rw[if_pos hV0] at hW4
   subst hW4
   exact hh.format hd' hq (.string g)
  ·rw[if_neg hV0] at hW4
   have hgf:g=f:=by rw[HG.out,if_neg hV0]
   subst hW4
   rw[hgf]
   exact⟨hh,hd',hq⟩
 have HM:=Lh MIDF
 have HGG:=Lh (show V=0→g=fy from fun h=>by rw[HG.out,if_pos h])
 clear hd hd' hq hh hB lo hmin MIDF
 by_cases hV0:V=0
 ·rw[←HGG.out hV0] at e4
  have HZ:=Lh (decide_eq_true hV0)
  have HM4:=Lh (HM.out (W.setCell ⟨bq,4,none⟩ (.string g)) (by rw[if_pos hV0]))
  clear hV0 HM HGG
  go_wp2_with fail
  refine IZ.out.mono ?_
  rintro e w5 ⟨rfl,rfl⟩
  rw[HZ.out]
  go_upto_region 4 with fail
  clear c4 fr e4 IZ
  generalize W.setCell ⟨bq,4,none⟩ (.string g)=W4 at*
  obtain⟨hh,hd,hq⟩:=HM4.out
  have c0:=hd.cell (i:=0) (v:=.int .i64 v) rfl
  have c1:=hd.cell (i:=1) (v:=.int .i32 s) rfl
  have c2:=hd.cell (i:=2) (v:=d) rfl
  have e0:=hh.bd.cell (i:=0) (v:=.int .i64 vy) rfl
  have e1:=hh.bd.cell (i:=1) (v:=.int .i32 sy) rfl
  have e2:=hh.bd.cell (i:=2) (v:=dy) rfl
  rcases hq with ⟨rfl,hbl,hv,h1,h2,hV⟩|⟨b0,c0',n0,u0,rfl,-⟩
  ·rcases hh.bk with ⟨rfl,-,hvy,h4,h5,hVy⟩|⟨b0,c0',n0,u0,rfl,-⟩
   ·have AC:=Lh (fun k=>amtSub_calls bq v s vy sy (.pointer none) (.string ⟨#[]⟩) (.string g) (W4.drewN k) (hd.mod ((Mod.refl [] W4).drewN k) (by simp)) hv hvy HB.out.2.2 (by omega) (by omega) (by omega) (by omega))
    have HH:=Lh (Aj hh (Aj hbl (Aj hv (Aj h1 (Aj h2 (Aj h4 (Aj h5 (Aj hV hVy))))))))
    clear hh hd hbl hv h1 h2 hV hvy h4 h5 hVy
    unfold amt at AC
    go_region_law (first|(go_simp;go_at_call 98;refine(AC.out _).mono ?_;rintro e w9 har;obtain⟨hh5,hbl,hv,h1,h2,h4,h5,hV,hVy⟩:=HH.out;have hres:=hh5.amt hbl hv h1 h2 h4 h5 hV har;rw[Int.neg_mul,←hVy,←Int.sub_eq_add_neg] at hres;have HRES:=Lh hres;have hex:∃r,e=.returned (.bool r):=(hres.elim (fun q=>⟨true,q.1⟩) (fun q=>⟨false,q.1⟩));clear har hres hh5 hbl hv h1 h2 h4 h5 hV hVy;obtain⟨r,rfl⟩:=hex))
    all_goals
     cases r
     ·rcases HRES.out with ⟨h9,-⟩|⟨-,q2,hcn⟩
      ·cases h9
      ·have HR:=Lh (q2.rest 99 (V-Vy) HB.out.1 (sub3 V Vy))
       clear q2
       obtain⟨RT,RF⟩:=HR.out
       have R1:=Lh RT
       have R2:=Lh RF
       clear RT RF
       go_wp2_with fail
       refine R1.out.mono ?_
       rintro e w6 ⟨b,c,n,u,rfl,k⟩
       obtain⟨AD,AF⟩:=R2.out b c n u w6 k
       have R3:=Lh AD
       have R4:=Lh AF
       clear AD AF k
       go_wp2_with fail
       refine R3.out.mono ?_
       rintro e w7 ⟨b2,c2',n2,u2,rfl,k2⟩
       obtain⟨g2,MU⟩:=R4.out b2 c2' n2 u2 w7 k2
       have R5:=Lh MU
       clear MU k2
       go_wp2_with fail
       go_region_held3 (fun w'=>w'.cell? ⟨bq,2,none⟩=some (.pointer (some ⟨b,0,none⟩))) (go_keep)
        (first|(go_at_call 99;refine(R5.out _).mono ?_;rintro e w8 ⟨rfl,g3,hq⟩;have R6:=Lh hq;clear hq))
       all_goals
        go_wp2_with fail
        refine bodyPost_end (results_none rfl _ _ _) rfl ?_
        exact⟨rfl,R6.out⟩
     ·rcases HRES.out with ⟨-,q2⟩|⟨h9,-⟩
      ·have HF:=Lh q2
       clear q2
       go_wp2_with fail
       refine bodyPost_ret (results_none rfl _ _ _) rfl ?_
       exact⟨rfl,HF.out⟩
      ·cases h9
   ·have hp:=dptr_nil' b0
    have HR0:=Lh (fun k=>(hh.drewN k).rest 99 (V-Vy) HB.out.1 (sub3 V Vy))
    clear hh hd hbl hv h1 h2 hV
    go_quiet (fail)
    have HR:=Lh (HR0.out nq)
    obtain⟨RT,RF⟩:=HR.out
    have R1:=Lh RT
    have R2:=Lh RF
    clear RT RF
    go_wp2_with fail
    refine R1.out.mono ?_
    rintro e w6 ⟨b,c,n,u,rfl,k⟩
    obtain⟨AD,AF⟩:=R2.out b c n u w6 k
    have R3:=Lh AD
    have R4:=Lh AF
    clear AD AF k
    go_wp2_with fail
    refine R3.out.mono ?_
    rintro e w7 ⟨b2,c2',n2,u2,rfl,k2⟩
    obtain⟨g2,MU⟩:=R4.out b2 c2' n2 u2 w7 k2
    have R5:=Lh MU
    clear MU k2
    go_wp2_with fail
    go_region_held3 (fun w'=>w'.cell? ⟨bq,2,none⟩=some (.pointer (some ⟨b,0,none⟩))) (go_keep)
     (first|(go_at_call 99;refine(R5.out _).mono ?_;rintro e w8 ⟨rfl,g3,hq⟩;have R6:=Lh hq;clear hq))
    all_goals
     go_wp2_with fail
     refine bodyPost_end (results_none rfl _ _ _) rfl ?_
     exact⟨rfl,R6.out⟩
  ·have hp:=dptr_nil' b0
   have HR0:=Lh (fun k=>(hh.drewN k).rest 99 (V-Vy) HB.out.1 (sub3 V Vy))
   clear hh hd
   go_quiet (fail)
   have HR:=Lh (HR0.out nq)
   obtain⟨RT,RF⟩:=HR.out
   have R1:=Lh RT
   have R2:=Lh RF
   clear RT RF
   go_wp2_with fail
   refine R1.out.mono ?_
   rintro e w6 ⟨b,c,n,u,rfl,k⟩
   obtain⟨AD,AF⟩:=R2.out b c n u w6 k
   have R3:=Lh AD
   have R4:=Lh AF
   clear AD AF k
   go_wp2_with fail
   refine R3.out.mono ?_
   rintro e w7 ⟨b2,c2',n2,u2,rfl,k2⟩
   obtain⟨g2,MU⟩:=R4.out b2 c2' n2 u2 w7 k2
   have R5:=Lh MU
   clear MU k2
   go_wp2_with fail
   go_region_held3 (fun w'=>w'.cell? ⟨bq,2,none⟩=some (.pointer (some ⟨b,0,none⟩))) (go_keep)
    (first|(go_at_call 99;refine(R5.out _).mono ?_;rintro e w8 ⟨rfl,g3,hq⟩;have R6:=Lh hq;clear hq))
   all_goals
    go_wp2_with fail
    refine bodyPost_end (results_none rfl _ _ _) rfl ?_
    exact⟨rfl,R6.out⟩
 ·have HZ:=Lh (decide_eq_false hV0)
  have HM4:=Lh (HM.out W (by rw[if_neg hV0]))
  clear hV0 HM HGG
  go_wp2_with fail
  refine IZ.out.mono ?_
  rintro e w5 ⟨rfl,rfl⟩
  rw[HZ.out]
  go_upto_region 4 with fail
  clear c4 fr e4 IZ
  generalize W=W4 at*
  obtain⟨hh,hd,hq⟩:=HM4.out
  have c0:=hd.cell (i:=0) (v:=.int .i64 v) rfl
  have c1:=hd.cell (i:=1) (v:=.int .i32 s) rfl
  have c2:=hd.cell (i:=2) (v:=d) rfl
  have e0:=hh.bd.cell (i:=0) (v:=.int .i64 vy) rfl
  have e1:=hh.bd.cell (i:=1) (v:=.int .i32 sy) rfl
  have e2:=hh.bd.cell (i:=2) (v:=dy) rfl
  rcases hq with ⟨rfl,hbl,hv,h1,h2,hV⟩|⟨b0,c0',n0,u0,rfl,-⟩
  ·rcases hh.bk with ⟨rfl,-,hvy,h4,h5,hVy⟩|⟨b0,c0',n0,u0,rfl,-⟩
   ·have AC:=Lh (fun k=>amtSub_calls bq v s vy sy (.pointer none) (.string ⟨#[]⟩) (.string g) (W4.drewN k) (hd.mod ((Mod.refl [] W4).drewN k) (by simp)) hv hvy HB.out.2.2 (by omega) (by omega) (by omega) (by omega))
    have HH:=Lh (Aj hh (Aj hbl (Aj hv (Aj h1 (Aj h2 (Aj h4 (Aj h5 (Aj hV hVy))))))))
    clear hh hd hbl hv h1 h2 hV hvy h4 h5 hVy
    unfold amt at AC
    go_region_law (first|(go_simp;go_at_call 98;refine(AC.out _).mono ?_;rintro e w9 har;obtain⟨hh5,hbl,hv,h1,h2,h4,h5,hV,hVy⟩:=HH.out;have hres:=hh5.amt hbl hv h1 h2 h4 h5 hV har;rw[Int.neg_mul,←hVy,←Int.sub_eq_add_neg] at hres;have HRES:=Lh hres;have hex:∃r,e=.returned (.bool r):=(hres.elim (fun q=>⟨true,q.1⟩) (fun q=>⟨false,q.1⟩));clear har hres hh5 hbl hv h1 h2 h4 h5 hV hVy;obtain⟨r,rfl⟩:=hex))
    all_goals
     cases r
     ·rcases HRES.out with ⟨h9,-⟩|⟨-,q2,hcn⟩
      ·cases h9
      ·have HR:=Lh (q2.rest 99 (V-Vy) HB.out.1 (sub3 V Vy))
       clear q2
       obtain⟨RT,RF⟩:=HR.out
       have R1:=Lh RT
       have R2:=Lh RF
       clear RT RF
       go_wp2_with fail
       refine R1.out.mono ?_
       rintro e w6 ⟨b,c,n,u,rfl,k⟩
       obtain⟨AD,AF⟩:=R2.out b c n u w6 k
       have R3:=Lh AD
       have R4:=Lh AF
       clear AD AF k
       go_wp2_with fail
       refine R3.out.mono ?_
       rintro e w7 ⟨b2,c2',n2,u2,rfl,k2⟩
       obtain⟨g2,MU⟩:=R4.out b2 c2' n2 u2 w7 k2
       have R5:=Lh MU
       clear MU k2
       go_wp2_with fail
       go_region_held3 (fun w'=>w'.cell? ⟨bq,2,none⟩=some (.pointer (some ⟨b,0,none⟩))) (go_keep)
        (first|(go_at_call 99;refine(R5.out _).mono ?_;rintro e w8 ⟨rfl,g3,hq⟩;have R6:=Lh hq;clear hq))
       all_goals
        go_wp2_with fail
        refine bodyPost_end (results_none rfl _ _ _) rfl ?_
        exact⟨rfl,R6.out⟩
     ·rcases HRES.out with ⟨-,q2⟩|⟨h9,-⟩
      ·have HF:=Lh q2
       clear q2
       go_wp2_with fail
       refine bodyPost_ret (results_none rfl _ _ _) rfl ?_
       exact⟨rfl,HF.out⟩
      ·cases h9
   ·have hp:=dptr_nil' b0
    have HR0:=Lh (fun k=>(hh.drewN k).rest 99 (V-Vy) HB.out.1 (sub3 V Vy))
    clear hh hd hbl hv h1 h2 hV
    go_quiet (fail)
    have HR:=Lh (HR0.out nq)
    obtain⟨RT,RF⟩:=HR.out
    have R1:=Lh RT
    have R2:=Lh RF
    clear RT RF
    go_wp2_with fail
    refine R1.out.mono ?_
    rintro e w6 ⟨b,c,n,u,rfl,k⟩
    obtain⟨AD,AF⟩:=R2.out b c n u w6 k
    have R3:=Lh AD
    have R4:=Lh AF
    clear AD AF k
    go_wp2_with fail
    refine R3.out.mono ?_
    rintro e w7 ⟨b2,c2',n2,u2,rfl,k2⟩
    obtain⟨g2,MU⟩:=R4.out b2 c2' n2 u2 w7 k2
    have R5:=Lh MU
    clear MU k2
    go_wp2_with fail
    go_region_held3 (fun w'=>w'.cell? ⟨bq,2,none⟩=some (.pointer (some ⟨b,0,none⟩))) (go_keep)
     (first|(go_at_call 99;refine(R5.out _).mono ?_;rintro e w8 ⟨rfl,g3,hq⟩;have R6:=Lh hq;clear hq))
    all_goals
     go_wp2_with fail
     refine bodyPost_end (results_none rfl _ _ _) rfl ?_
     exact⟨rfl,R6.out⟩
  ·have hp:=dptr_nil' b0
   have HR0:=Lh (fun k=>(hh.drewN k).rest 99 (V-Vy) HB.out.1 (sub3 V Vy))
   clear hh hd
   go_quiet (fail)
   have HR:=Lh (HR0.out nq)
   obtain⟨RT,RF⟩:=HR.out
   have R1:=Lh RT
   have R2:=Lh RF
   clear RT RF
   go_wp2_with fail
   refine R1.out.mono ?_
   rintro e w6 ⟨b,c,n,u,rfl,k⟩
   obtain⟨AD,AF⟩:=R2.out b c n u w6 k
   have R3:=Lh AD
   have R4:=Lh AF
   clear AD AF k
   go_wp2_with fail
   refine R3.out.mono ?_
   rintro e w7 ⟨b2,c2',n2,u2,rfl,k2⟩
   obtain⟨g2,MU⟩:=R4.out b2 c2' n2 u2 w7 k2
   have R5:=Lh MU
   clear MU k2
   go_wp2_with fail
   go_region_held3 (fun w'=>w'.cell? ⟨bq,2,none⟩=some (.pointer (some ⟨b,0,none⟩))) (go_keep)
    (first|(go_at_call 99;refine(R5.out _).mono ?_;rintro e w8 ⟨rfl,g3,hq⟩;have R6:=Lh hq;clear hq))
   all_goals
    go_wp2_with fail
    refine bodyPost_end (results_none rfl _ _ _) rfl ?_
    exact⟨rfl,R6.out⟩
end Go.Proofs.YtcpjclakdpjjfaaGreatDoor
