/- The parser's pieces and its suffix, of a text of a number (resource/quantity. -/
import Derived.Test.YtcpjclakdpjjfaaGreatDoorC36
import Derived.Test.YtcpjclakdpjjfaaGreatDoorC37
import Derived.Test.YtcpjclakdpjjfaaGreatDoorC39
import Derived.Test.YtcpjclakdpjjfaaGreatDoorC28
import Derived.Test.YtcpjclakdpjjfaaGreatDoorC18
namespace Go.Proofs.YtcpjclakdpjjfaaGreatDoor
open Go.RowKit Wd Dg
structure Prt (s:ByteArray) (g A D S:List UInt8) (dot:Bool) (fn:Nat) (x:Int):Prop where
 tx:s.data.toList=g++(A++((if dot then 46::D else [])++S))
 g:g=[]∨g=[43]∨g=[45]
 a:BD A
 d:BD D
 nd:dot=false→D=[]
 ne:A++D≠[]
 s:Sfx S fn x
 len:A.length+D.length≤110
theorem WordT.parts {s:ByteArray} {fn:Nat} {V:Int} (h:WordT s fn V):∃g A D S dot x,Prt s g A D S dot fn x∧V=qV (decide (g=[45])) A D fn x:=by
 obtain⟨g,A,D,S,dot,x,h1,h2,h3,h4,h5,h6,h7,h8,h9⟩:=h.w
 exact⟨g,A,D,S,dot,x,⟨h1,h2,h3,h4,h5,h6,h7,h8⟩,h9⟩
def PcRet (neg:Bool) (A D S:List UInt8) (w:World) (e:Ending) (w':World):Prop:=
 (∃value num denom sfx,e=.returned (.tuple #[.bool (!neg),.string value,.string num,.string denom,.string sfx,.nilIface])∧PsR value num denom sfx neg A D S)∧Mod [] w w'
theorem pieces_calls (s:ByteArray) (g A D S:List UInt8) (dot:Bool) (fn:Nat) (x:Int) (h:Prt s g A D S dot fn x) (w:World):Calls Tryz.prog 59 #[.string s] w (PcRet (decide (g=[45])) A D S w):=by
 obtain⟨L,G,P,rfl,hL,hG,hP,hel,hS⟩:=sfx_parts h.s
 have hg1:g.length≤1:=by rcases h.g with e|e|e<;>simp[e]
 have hW:Wrd s g A D L G P dot:=⟨h.tx,h.g,h.a,h.d,h.nd,h.ne,hL,hG,hP,hel,by
  have:s.size=s.data.toList.length:=rfl
  rw[this,h.tx]
  have hl:=h.len
  have hdl:((if dot then 46::D else []):List UInt8).length≤D.length+1:=by cases dot<;>simp
  rw[List.length_append,List.length_append,List.length_append]
  omega⟩
 obtain⟨z,A',hA,hz⟩:=split_zeros A
 have hp:=hW.pos hA hz rfl rfl rfl rfl rfl rfl
 refine(split_calls s _ _ _ _ _ _ _ dot hp w).mono ?_
 rintro e w' ⟨⟨value,num,denom,sfx,rfl,hr⟩,m⟩
 exact⟨⟨value,num,denom,sfx,rfl,PsRaw.mean hW hA rfl rfl rfl (by have:=h.len;omega) hr⟩,m⟩
theorem intp_calls {w0 w:World} {b:Nat} (h:PB w0 w b binL1 binL3 decL1 decL3) (s:ByteArray) (S:List UInt8) (fn:Nat) (x:Int) (hs:s.data.toList=S) (hS:Sfx S fn x):
 Calls Tryz.prog 334 #[.agg #[.pointer (some ⟨b,0,none⟩)],.string s] w (IntpRet fn x w):=by
 obtain rfl:s=⟨S.toArray⟩:=by ext1;apply Array.ext';rw[hs]
 have hPB:∀w1,Mod [] w w1→PB w0 w1 b binL1 binL3 decL1 decL3:=fun w1 m=>h.mod m
 by_cases h0:fn=0
 ·obtain⟨c,r,hx⟩:=sfx_xp hS h0
  subst h0
  have hr:=List.length_pos_iff.2 hx.ne
  refine interp_on b _ 0 x w (fun l hl he=>?_) (fun w1 m=>interp_exp (hPB w1 m) _ c r x hx)
  have h1:∀l:List UInt8,l∈[[],[110],[117],[109],[107],[77],[71]]→l.length≤1:=by decide
  have h2:=h1 l hl
  rw[←he,hx.tx] at h2
  simp at h2
  exact hx.ne h2
 ·rcases hS with ⟨rfl,hc⟩|⟨rfl,k,k1,k2,rfl,rfl⟩|⟨hf,-⟩
  ·rcases hc with ⟨rfl,rfl⟩|⟨rfl,rfl⟩|⟨rfl,rfl⟩|⟨rfl,rfl⟩|⟨rfl,rfl⟩|⟨rfl,rfl⟩|⟨rfl,rfl⟩|⟨rfl,rfl⟩
   ·exact interp_7 b ([],0) (by decide) w
   ·exact interp_7 b ([109],-3) (by decide) w
   ·exact interp_7 b ([107],3) (by decide) w
   ·exact interp_7 b ([77],6) (by decide) w
   ·exact interp_7 b ([71],9) (by decide) w
   ·exact interp_on b _ 2 12 w (by decide) (fun w1 m=>interp_dec (hPB w1 m) _ (by decide) 12 rfl)
   ·exact interp_on b _ 2 15 w (by decide) (fun w1 m=>interp_dec (hPB w1 m) _ (by decide) 15 rfl)
   ·exact interp_on b _ 2 18 w (by decide) (fun w1 m=>interp_dec (hPB w1 m) _ (by decide) 18 rfl)
  ·have hk:k=1∨k=2∨k=3∨k=4∨k=5∨k=6:=by omega
   rcases hk with rfl|rfl|rfl|rfl|rfl|rfl
   ·exact interp_on b _ 1 10 w (by decide) (fun w1 m=>interp_bin (hPB w1 m) _ (by decide) 10 rfl rfl)
   ·exact interp_on b _ 1 20 w (by decide) (fun w1 m=>interp_bin (hPB w1 m) _ (by decide) 20 rfl rfl)
   ·exact interp_on b _ 1 30 w (by decide) (fun w1 m=>interp_bin (hPB w1 m) _ (by decide) 30 rfl rfl)
   ·exact interp_on b _ 1 40 w (by decide) (fun w1 m=>interp_bin (hPB w1 m) _ (by decide) 40 rfl rfl)
   ·exact interp_on b _ 1 50 w (by decide) (fun w1 m=>interp_bin (hPB w1 m) _ (by decide) 50 rfl rfl)
   ·exact interp_on b _ 1 60 w (by decide) (fun w1 m=>interp_bin (hPB w1 m) _ (by decide) 60 rfl rfl)
  ·exact(h0 hf).elim
end Go.Proofs.YtcpjclakdpjjfaaGreatDoor
namespace Go.Proofs.YtcpjclakdpjjfaaGreatDoor
open Go.RowKit Wd Dg
def PqRet (fn:Nat) (V:Int) (w:World) (e:Ending) (w':World):Prop:=
 ∃v s q st fb bl,e=.returned (.tuple #[qv v s (.pointer q) (.string st) (.string fb),.nilIface])∧Fmt fb fn∧QOk w' v s (.pointer q) V bl∧(∀k,k∈bl→w.heap.size≤k)∧v≠-9223372036854775808∧Mod [] w w'
structure PqS (w:World) (bq ba:Nat) (c n:Int) (u:Value) (wx:World):Prop where
 mod:Mod [] w wx
 env:Env2 wx
 q:Hd wx bq 70 (qc 0 0 (.pointer none) (.string ⟨#[]⟩) (.string ⟨#[]⟩))
 qlo:w.heap.size≤bq
 ia:IA wx ba (some c) n u
 off:bq∉ba::sb u
 own:∀k,k∈ba::sb u→w.heap.size≤k
theorem PqS.still {w wx w':World} {bq ba:Nat} {c n:Int} {u:Value} (h:PqS w bq ba c n u wx) (m:Mod [] wx w'):PqS w bq ba c n u w':=
 ⟨h.mod.trans m,h.env.mod m (by simp),h.q.mod m (by simp),h.qlo,h.ia.mod m (by simp) (by simp),h.off,h.own⟩
theorem PqS.turn {w wx w':World} {bq ba:Nat} {c n c' n':Int} {u u':Value} (h:PqS w bq ba c n u wx) (r:IntRes wx ba u (some c') n' u' w'):PqS w bq ba c' n' u' w':=by
 have hold:∀k,k∈ba::sb u'→k∈ba::sb u∨wx.heap.size≤k:=fun k hk=>by
  rcases List.mem_cons.1 hk with rfl|hk
  ·exact .inl (by simp)
  ·exact(r.own k hk).imp (fun h=>by simp[h]) id
 refine⟨h.mod.step r.mod (fun x hx=>.inr (h.own x hx)),h.env.mod r.mod (fun k hk=>?_),h.q.mod r.mod h.off,h.qlo,r.ia,fun hb=>?_,fun k hk=>?_⟩
 ·rcases List.mem_cons.1 hk with rfl|hk
  ·exact h.ia.lo
  ·exact h.ia.vlo k hk
 ·rcases hold _ hb with hb|hb
  ·exact h.off hb
  ·have:=h.q.lt;omega
 ·rcases hold _ hk with hk|hk
  ·exact h.own k hk
  ·exact Nat.le_trans h.mod.size hk
theorem PqS.fin {w wx w':World} {bq ba:Nat} {c n V:Int} {u:Value} {st fb:ByteArray} {fn:Nat} (h:PqS w bq ba c n u wx) (hV:dV n c=V) (db:DB n c) (hf:Fmt fb fn) (m:Mod [bq] wx w'):
 PqRet fn V w (.returned (.tuple #[qv 0 0 (.pointer (some ⟨ba,0,none⟩)) (.string st) (.string fb),.nilIface])) w':=
 ⟨0,0,_,st,fb,ba::sb u,rfl,hf,.inr ⟨ba,c,n,u,rfl,rfl,h.ia.mod m (fun hm=>h.off (by rw[List.mem_singleton.1 hm];simp)) (fun k hk hm=>h.off (by rw[←List.mem_singleton.1 hm];simp[hk])),db,hV.symm⟩,h.own,by decide,h.mod.step m (fun x hx=>.inr (by rw[List.mem_singleton.1 hx];exact h.qlo))⟩
theorem PqRet.short {w wx w':World} {bq:Nat} {v s V:Int} {st fb:ByteArray} {fn:Nat} (m0:Mod [] w wx) (hq:w.heap.size≤bq) (hf:Fmt fb fn) (ok:QOk w' v s (.pointer none) V []) (hv:v≠-9223372036854775808) (m:Mod [bq] wx w'):
 PqRet fn V w (.returned (.tuple #[qv v s (.pointer none) (.string st) (.string fb),.nilIface])) w':=
 ⟨v,s,_,st,fb,[],rfl,hf,ok,by simp,hv,m0.step m (fun x hx=>.inr (by rw[List.mem_singleton.1 hx];exact hq))⟩
theorem Prt.nought {g A D S:List UInt8} {dot:Bool} {fn:Nat} {x:Int} (h:Prt ⟨#[48]⟩ g A D S dot fn x):fn=2∧qV (decide (g=[45])) A D fn x=0:=by
 have ht:[48]=g++(A++((if dot then 46::D else [])++S)):=h.tx
 have hlen:=congrArg List.length ht
 have hA0:0<A.length+D.length:=by
  have:=List.length_pos_iff.2 h.ne
  rwa [List.length_append] at this
 have hall:∀c,c∈A++D→c=48:=by
  intro c hc
  have hm:c∈[(48:UInt8)]:=by
   rw[ht]
   rcases List.mem_append.1 hc with hc|hc
   ·simp[hc]
   ·have hd:dot=true:=by
     cases hd:dot with
     |true=>rfl
     |false=>rw[h.nd hd] at hc;simp at hc
    simp[hd,hc]
  exact List.mem_singleton.1 hm
 have hb:bv (A++D)=0:=by
  rw[List.eq_replicate_iff.2 ⟨rfl,hall⟩,←List.append_nil (List.replicate (A++D).length (48:UInt8)),bv_zeros];rfl
 have hS:S=[]:=by
  refine List.eq_nil_of_length_eq_zero ?_
  simp only[List.length_append,List.length_cons,List.length_nil] at hlen
  cases hd:dot with
  |false=>rw[h.nd hd] at hA0;rw[hd] at hlen;simp at hlen hA0;omega
  |true=>rw[hd] at hlen;simp at hlen;omega
 have hfn:fn=2:=by
  rcases h.s with ⟨h1,-⟩|⟨-,k,k1,k2,hk,-⟩|⟨-,c,g,P,hk,-⟩
  ·exact h1
  ·exfalso
   rw[hS] at hk
   have hk':k=1∨k=2∨k=3∨k=4∨k=5∨k=6:=by omega
   rcases hk' with rfl|rfl|rfl|rfl|rfl|rfl<;>simp[sfxB] at hk
  ·rw[hS] at hk;simp at hk
 refine⟨hfn,?_⟩
 rw[qV_ten (by omega),hb]
 simp
theorem results35 (tmps:Array Value) (w:World) (b:Nat) (v0 v1 v2 v3 v4:Value) (h:Hd w b 70 #[v0,v1,v2,v3,v4]) (h2:tmps.getD 2 undef=.pointer (some ⟨b,0,none⟩)) (h3:tmps.getD 3 undef=.nilIface):
 (results Tryz.f35 tmps).run Tryz.prog w=.ok (.tuple #[.agg #[v0,v1,v2,v3,v4],.nilIface]) w:=by
 have q0:=h.cell (i:=0) rfl
 have q1:=h.cell (i:=1) rfl
 have q2:=h.cell (i:=2) rfl
 have q3:=h.cell (i:=3) rfl
 have q4:=h.cell (i:=4) rfl
 rw[Array.getD_eq_getD_getElem?] at h2 h3
 simp[results,go_sem,h2,h3,q0,q1,q2,q3,q4]
theorem put5 {w:World} {b:Nat} {a0 a1:Int} {a2 a3 a4:Value} (h:Hd w b 70 (qc a0 a1 a2 a3 a4)) (v0 v1 v2 v3 v4:Value):
 ∃W',((((w.setCell ⟨b,0,none⟩ v0).setCell ⟨b,1,none⟩ v1).setCell ⟨b,2,none⟩ v2).setCell ⟨b,3,none⟩ v3).setCell ⟨b,4,none⟩ v4=W'∧Hd W' b 70 #[v0,v1,v2,v3,v4]∧Mod [b] w W':=
 ⟨_,rfl,((((h.set 0 v0).set 1 v1).set 2 v2).set 3 v3).set 4 v4,(((((Mod.refl [b] w).setCell v0 (.inl (by simp))).setCell v1 (.inl (by simp))).setCell v2 (.inl (by simp))).setCell v3 (.inl (by simp))).setCell v4 (.inl (by simp))⟩
theorem fmt_dec {fb:ByteArray} {fn:Nat} (h:Fmt fb fn) (hf:fn≠1):((fb.toList==[68,101,99,105,109,97,108,69,120,112,111,110,101,110,116])=true∨((fb.toList==[68,101,99,105,109,97,108,69,120,112,111,110,101,110,116])=false∧(fb.toList==[68,101,99,105,109,97,108,83,73])=true))∧(fb.toList==[66,105,110,97,114,121,83,73])=false:=by
 rw[Lib.toList_data]
 rcases h with ⟨rfl,-⟩|⟨-,h⟩|⟨rfl,-⟩
 ·exact⟨.inl rfl,rfl⟩
 ·exact(hf h).elim
 ·exact⟨.inr ⟨rfl,rfl⟩,rfl⟩
theorem wrap64_zero:wrap64 0=0:=by unfold wrap64;omega
theorem sfx_range {S:List UInt8} {fn:Nat} {x:Int} (h:Sfx S fn x):-60≤x∧x≤60:=by
 rcases h with ⟨-,h⟩|⟨-,k,h1,h2,-,rfl⟩|⟨-,c,g,P,-,-,-,-,-,-,-,h1,h2⟩
 ·rcases h with ⟨-,rfl⟩|⟨-,rfl⟩|⟨-,rfl⟩|⟨-,rfl⟩|⟨-,rfl⟩|⟨-,rfl⟩|⟨-,rfl⟩|⟨-,rfl⟩<;>decide
 ·omega
 ·exact⟨h1,h2⟩
end Go.Proofs.YtcpjclakdpjjfaaGreatDoor
