/- A part of a proof, joined by a program out of smaller texts (conditions: those that each theorem names). -/
import Derived.Test.YtkdialecadjedaaGreatDoorB4
namespace Go.Proofs.YtkdialecadjedaaGreatDoor
set_option linter.unusedVariables false
set_option linter.unusedSimpArgs false
set_option linter.unusedSectionVars false
set_option maxRecDepth 100000
set_option maxHeartbeats 8000000
open Go
theorem c88 {F:Fr} {w:World} {ex:List Ex} {ro:List Ro} {p:Pk} {cells:List Value} (H:Sat F w ex ro) (hp:Ro.deep p.dat cells∈ro) (hF:FoOk p) :
  Calls pg 88 #[.agg cells.toArray] w (FmPost F ex ro p):=by
 have lo:=hF.lo
 have hi:=hF.hi
 have hpz:p.size=p.reports.length+p.ext.length+csz p.chunks+p.sources.length+p.text.size+p.data.length+p.pairs.length+p.slices.length+p.entries.length+bsz p.blocks+ssz p.statuses+p.deltas.length:=rfl
 obtain ⟨a7,a8,a9,a10,a13,a14,a15,a16,a18,a24,a25,c7,c8,c9,c10,c13,c14,c15,c16,c18,c24,c25,R,rfl,hr,H,m7,m8,m9,m10,m13,m14,m15,m16,m18,m24,m25⟩:=H.pkF hp
 apply of88
 refine sNew H ?_;clear H;intro b1 w _ H
 replace H:Sat F w (.blk b1 63 (pkC p a7 a8 a9 a10 a13 a14 a15 a16 a18 a24 a25 c7 c8 c9 c10 c13 c14 c15 c16 c18 c24 c25)::ex) R:=H
 refine sNew H ?_;clear H;intro b3 w _ H
 refine sNew H ?_;clear H;intro b5 w _ H
 refine sSt0 H (by rfl) (by kernel_rfl) (by rfl) (by rfl) ?_;clear H;intro w _ H
 replace H:Sat F w (.blk b5 4 [.bool true]::.blk b3 42 [.bool false,.int .u8 0,.int .u8 0,.int .u16 0]::.blk b1 63 (pkC p a7 a8 a9 a10 a13 a14 a15 a16 a18 a24 a25 c7 c8 c9 c10 c13 c14 c15 c16 c18 c24 c25)::ex) R:=H
 have hkn:p.kind.toNat < 14:=by omega
 refine ⟨fun _ w=>Sat F w (.blk b5 4 [.bool true]::.blk b3 42 [.bool false,.int .u8 (cntK p.kind),.int .u8 (typK p.kind),.int .u16 0]::.blk b1 63 (pkC p a7 a8 a9 a10 a13 a14 a15 a16 a18 a24 a25 c7 c8 c9 c10 c13 c14 c15 c16 c18 c24 c25)::ex) R,?_,?_⟩
 ·refine ⟨none,?_⟩;replace H:=H.drew;generalize w.drew=w at H ⊢;obtain ⟨F2,ex2,S,back1,back2,hm⟩:=H.regN
  refine ⟨nn,H.b2.row,_,(H.b2.at0 rfl),?_⟩
  refine ⟨nn,H.b2.row,_,(H.b2.at0 rfl),?_⟩
  clear H;have H:=S;clear S
  refine ⟨?_,?_⟩
  ·refine sNew H ?_;clear H;intro b14 w _ H
   refine ⟨(back1 H).1,_,rfl,by omega,by omega,?_⟩
   refine ⟨?_,?_⟩
   ·refine ⟨_,(tabC (L:=typL) (by exact H.b0) hkn),(back1 H).1,?_⟩
    refine sNew H ?_;clear H;intro b18 w _ H
    refine ⟨(back2 H).1,_,rfl,by omega,by omega,?_⟩
    refine ⟨_,(tabC (L:=cntL) (by exact H.b0) hkn),(back2 H).1,?_⟩
    replace H:=(back2 H).2;clear back1 back2 hm
    refine sSw3 H rfl (by kernel_rfl) (by rfl) (by rfl) ?_;clear H;intro w _ H
    exact H.sub ((sc1).trans (sc1)) (fun _ h=>h)
   ·refine sNew H ?_;clear H;intro b23 w _ H
    refine ⟨(back2 H).1,_,rfl,by omega,by omega,?_⟩
    refine ⟨?_,?_⟩
    ·refine ⟨_,(tabC (L:=typL) (by exact H.b1) hkn),(back2 H).1,_,(tabC (L:=cntL) (by exact H.b0) hkn),(back2 H).1,?_⟩
     replace H:=(back2 H).2;clear back1 back2 hm
     refine sSw3 H rfl (by kernel_rfl) (by rfl) (by rfl) ?_;clear H;intro w _ H
     exact H.sub ((sc1).trans (sc1)) (fun _ h=>h)
    ·refine ⟨_,(tabC (L:=cntL) (by exact H.b0) hkn),(back2 H).1,_,(tabC (L:=typL) (by exact H.b1) hkn),(back2 H).1,?_⟩
     replace H:=(back2 H).2;clear back1 back2 hm
     refine sSw3 H rfl (by kernel_rfl) (by rfl) (by rfl) ?_;clear H;intro w _ H
     exact H.sub ((sc1).trans (sc1)) (fun _ h=>h)
  ·refine sNew H ?_;clear H;intro b32 w _ H
   refine ⟨(back1 H).1,_,rfl,by omega,by omega,?_⟩
   refine ⟨?_,?_⟩
   ·refine sNew H ?_;clear H;intro b35 w _ H
    refine ⟨(back2 H).1,_,rfl,by omega,by omega,?_⟩
    refine ⟨?_,?_⟩
    ·refine ⟨_,(tabC (L:=typL) (by exact H.b0) hkn),(back2 H).1,_,(tabC (L:=cntL) (by exact H.b1) hkn),(back2 H).1,?_⟩
     replace H:=(back2 H).2;clear back1 back2 hm
     refine sSw3 H rfl (by kernel_rfl) (by rfl) (by rfl) ?_;clear H;intro w _ H
     exact H.sub ((sc1).trans (sc1)) (fun _ h=>h)
    ·refine ⟨_,(tabC (L:=cntL) (by exact H.b1) hkn),(back2 H).1,_,(tabC (L:=typL) (by exact H.b0) hkn),(back2 H).1,?_⟩
     replace H:=(back2 H).2;clear back1 back2 hm
     refine sSw3 H rfl (by kernel_rfl) (by rfl) (by rfl) ?_;clear H;intro w _ H
     exact H.sub ((sc1).trans (sc1)) (fun _ h=>h)
   ·refine ⟨_,(tabC (L:=cntL) (by exact H.b0) hkn),(back1 H).1,?_⟩
    refine sNew H ?_;clear H;intro b45 w _ H
    refine ⟨(back2 H).1,_,rfl,by omega,by omega,?_⟩
    refine ⟨_,(tabC (L:=typL) (by exact H.b0) hkn),(back2 H).1,?_⟩
    replace H:=(back2 H).2;clear back1 back2 hm
    refine sSw3 H rfl (by kernel_rfl) (by rfl) (by rfl) ?_;clear H;intro w _ H
    exact H.sub ((sc1).trans (sc1)) (fun _ h=>h)
 clear H;rintro dd w H
 refine ⟨none,?_⟩;replace H:=H.drew;generalize w.drew=w at H ⊢;obtain ⟨F2,ex2,S,back1,back2,hm⟩:=H.regN
 refine ⟨nn,H.b2.row,_,(H.b2.at0 rfl),?_⟩
 refine ⟨nn,H.b2.row,_,(H.b2.at0 rfl),?_⟩
 clear H;have H:=S;clear S
 refine call_j (c112 (B:=[]) (H.nilOwn 5 1) hF.s (by omega)) ?_
 clear H;rintro _ w ⟨aa,ka,ra,rfl,H⟩
 refine ⟨_,_,_,rfl,(back1 H).1,?_⟩
 refine call_j (c112 H hF.m (by omega)) ?_
 clear H;rintro _ w ⟨ab,kt,rt,rfl,H⟩
 refine ⟨_,_,_,rfl,?_⟩
 replace H:=(back1 H).2;clear back1 back2 hm
 rw [List.nil_append] at H
 refine ⟨fun b bl bc _ w=>FmJ F p ex R b5 b3 b1 (pkC p a7 a8 a9 a10 a13 a14 a15 a16 a18 a24 a25 c7 c8 c9 c10 c13 c14 c15 c16 c18 c24 c25) b bl bc w,?_,?_⟩
 ·have hkk:p.kind=0\/p.kind=1\/p.kind=2\/p.kind=3\/p.kind=4\/p.kind=5\/p.kind=6\/p.kind=7\/p.kind=8\/p.kind=9\/p.kind=10\/p.kind=11\/p.kind=12\/p.kind=13:=by omega
  rcases hkk with hk | hk | hk | hk | hk | hk | hk | hk | hk | hk | hk | hk | hk | hk
  ·
   replace H:=H.d1
   refine ⟨_,(H.b2.at0 rfl),?_⟩
   rw [hk]
   refine ⟨fun b _ w=>b=false/\Sat F w (.blk b5 4 [.bool true]::.blk b3 42 [.bool false,.int .u8 (cntK p.kind),.int .u8 (typK p.kind),.int .u16 0]::.blk b1 63 (pkC p a7 a8 a9 a10 a13 a14 a15 a16 a18 a24 a25 c7 c8 c9 c10 c13 c14 c15 c16 c18 c24 c25)::ex) R,⟨fun hc=>⟨(absurd hc (by decide)),H⟩,fun hc=>⟨(by decide),H⟩⟩,?_⟩
   clear H;rintro ddj bj w ⟨rfl,H⟩
   refine fF ?_
   refine fF ?_
   refine fF ?_
   refine fF ?_
   refine fF ?_
   refine ⟨fun b _ w=>b=false/\Sat F w (.blk b5 4 [.bool true]::.blk b3 42 [.bool false,.int .u8 (cntK p.kind),.int .u8 (typK p.kind),.int .u16 0]::.blk b1 63 (pkC p a7 a8 a9 a10 a13 a14 a15 a16 a18 a24 a25 c7 c8 c9 c10 c13 c14 c15 c16 c18 c24 c25)::ex) R,⟨fun hc=>⟨(absurd hc (by decide)),H⟩,fun hc=>⟨(by decide),H⟩⟩,?_⟩
   clear H;rintro ddj bj w ⟨rfl,H⟩
   refine fF ?_
   refine fF ?_
   refine fF ?_
   refine fF ?_
   refine fF ?_
   refine sSt0 H (by rfl) (by kernel_rfl) (by rfl) (by rfl) ?_;clear H;intro w _ H
   rw [show cntK p.kind=0 by rw [hk];rfl] at H
   exact ⟨none,[],0,false,rfl,H.nilOwn 5 1,⟨by decide,by decide⟩,Nat.zero_le _,(fun h=>(by cases h))⟩
  ·
   replace H:=H.d1
   refine ⟨_,(H.b2.at0 rfl),?_⟩
   rw [hk]
   refine ⟨fun b _ w=>b=true/\Sat F w (.blk b5 4 [.bool true]::.blk b3 42 [.bool false,.int .u8 (cntK p.kind),.int .u8 (typK p.kind),.int .u16 0]::.blk b1 63 (pkC p a7 a8 a9 a10 a13 a14 a15 a16 a18 a24 a25 c7 c8 c9 c10 c13 c14 c15 c16 c18 c24 c25)::ex) R,⟨fun hc=>⟨(by decide),H⟩,fun hc=>⟨(absurd hc (by decide)),H⟩⟩,?_⟩
   clear H;rintro ddj bj w ⟨rfl,H⟩
   refine fT ?_
   refine ⟨_,(H.b2.at0 rfl),?_⟩
   refine call_j (c112 (B:=[]) (H.nilOwn 5 1) hF.s (by omega)) ?_
   clear H;rintro _ w ⟨a3,k3,r3,rfl,H⟩
   rw [List.nil_append] at H
   refine ⟨_,_,_,rfl,?_⟩
   obtain ⟨PRE,hPRE⟩:∃PRE:List Int,PRE=b32 p.sender++b64 p.ntp++b32 p.rtp++b32 p.packets++b32 p.octets:=⟨_,rfl⟩
   have hPl:PRE.length=24:=by rw [hPRE];rfl
   have hsz:=hF.sz (by omega)
   unfold Pk.size at hsz
   refine ⟨fun b bl bc _ w=>∃r,bl=PRE.length/\Sat F w (.own 5 1 b bl bc r (ob (PRE))::.blk b5 4 [.bool true]::.blk b3 42 [.bool false,.int .u8 (cntK p.kind),.int .u8 (typK p.kind),.int .u16 0]::.blk b1 63 (pkC p a7 a8 a9 a10 a13 a14 a15 a16 a18 a24 a25 c7 c8 c9 c10 c13 c14 c15 c16 c18 c24 c25)::ex) R,?_,?_⟩
   ·refine ⟨_,(H.b3.at0 rfl),?_⟩
    refine ⟨fun _=>?_,fun hc=>absurd hc (by rw [hk];decide)⟩
    have hntp:=hF.ntp
    refine ⟨r3,?_⟩;replace H:=H.drew;generalize w.drew=w at H ⊢;obtain ⟨F2,ex2,S,back1,back2,hm⟩:=H.regO
    refine ⟨(H.ne (mt (mt (mt ms))) ms),H.b3.row,_,(H.b3.at0 rfl),?_⟩
    refine ⟨(H.ne (mt (mt (mt ms))) ms),H.b3.row,_,(H.b3.at0 rfl),?_⟩
    refine ⟨(H.ne (mt (mt (mt ms))) ms),H.b3.row,_,(H.b3.at0 rfl),?_⟩
    refine ⟨(H.ne (mt (mt (mt ms))) ms),H.b3.row,_,(H.b3.at0 rfl),?_⟩
    refine ⟨(H.ne (mt (mt (mt ms))) ms),H.b3.row,_,(H.b3.at0 rfl),?_⟩
    clear H;have H:=S;clear S
    rw [ishr_of (b:=(32:Int)) 32 (by rfl) (by decide),wu32,wu32,show p.ntp / 2 ^ 32 % 4294967296=p.ntp / 4294967296 by omega]
    refine call_j (c112 H (by omega) (by omega)) ?_
    clear H;rintro _ w ⟨a4,k4,r4,rfl,H⟩
    refine ⟨_,_,_,rfl,(back1 H).1,?_⟩
    refine call_j (c112 H (by omega) (by omega)) ?_
    clear H;rintro _ w ⟨a5,k5,r5,rfl,H⟩
    refine ⟨_,_,_,rfl,(back1 H).1,?_⟩
    refine call_j (c112 H hF.rtp (by omega)) ?_
    clear H;rintro _ w ⟨a6,k6,r6,rfl,H⟩
    refine ⟨_,_,_,rfl,(back1 H).1,?_⟩
    refine call_j (c112 H hF.pks (by omega)) ?_
    clear H;rintro _ w ⟨aq,kq,rq,rfl,H⟩
    refine ⟨_,_,_,rfl,(back1 H).1,?_⟩
    refine call_j (c112 H hF.ocs (by omega)) ?_
    clear H;rintro _ w ⟨ar,kr,rr,rfl,H⟩
    refine ⟨_,_,_,rfl,?_⟩
    replace H:=(back1 H).2;clear back1 back2 hm
    refine ⟨rr,by rw [hPl],?_⟩
    rw [hPRE]
    exact H
   clear H;rintro dd2 b bl bc w ⟨r,hbl,H⟩
   refine ⟨_,_,_,(H.b3.at0 rfl),?_⟩
   replace H:=H.u2
   refine call_j (c111 H (by omega)) ?_
   clear H;rintro _ w ⟨rfl,ok1,H,hok1⟩
   refine ⟨rfl,?_⟩
   replace H:=H.r2
   refine ⟨_,_,_,(H.b3.at0 rfl),?_⟩
   refine ⟨fun b bl bc x q w=>∃(j:Nat) (r:Option Nat) (ok:Bool) (B:List Int),x=(j:Int)/\j+q=p.reports.length/\bl=B.length/\B.length<=24+24*j/\(ok=true->ok1=true/\B=PRE++(p.reports.take j).flatMap wRep/\∀y∈p.reports.take j,y.2.2.1 < 16777216)/\Sat F w (.own 5 1 b bl bc r (ob (B))::.blk b5 4 [.bool ok]::.blk b3 42 [.bool false,.int .u8 ((p.reports.length % 32:Nat):Int),.int .u8 (typK p.kind),.int .u16 0]::.blk b1 63 (pkC p a7 a8 a9 a10 a13 a14 a15 a16 a18 a24 a25 c7 c8 c9 c10 c13 c14 c15 c16 c18 c24 c25)::ex) R,⟨p.reports.length,0,r,ok1,PRE,rfl,by omega,hbl,by omega,fun h=>⟨h,by simp,by simp⟩,H⟩,?_⟩
   clear H;rintro dd3 b bl bc x q w ⟨j,r,ok,B,rfl,hjq,rfl,hBl,hok,H⟩
   refine ⟨fun hc=>?_,fun hc=>?_⟩
   ·rw [decide_eq_true_eq] at hc
    have hjl:j < p.reports.length:=by omega
    obtain ⟨pp,us,e,hus,hcell,H1⟩:=H.eltF Rep.dat_len' (by decide) m7 (j:=j) hjl
    have htk:p.reports.take (j+1)=p.reports.take j++[p.reports[j]]:=by rw [List.take_add_one,List.getElem?_eq_getElem hjl];rfl
    have hRj:=hF.reps p.reports[j] (List.getElem_mem hjl)
    clear H
    generalize p.reports[j]=D at H1 htk hRj
    obtain ⟨d0,d1,d2,d3,d4,d5,d6⟩:=D
    refine ⟨pp,e,by omega,by omega,?_⟩
    obtain rfl:=H1.ones (us:=[.int .u32 d0,.int .u8 d1,.int .u32 d2,.int .u32 d3,.int .u32 d4,.int .u32 d5,.int .u32 d6]) ms
    refine ⟨_,_,_,_,_,_,_,LdC [.int .u32 d0,.int .u8 d1,.int .u32 d2,.int .u32 d3,.int .u32 d4,.int .u32 d5,.int .u32 d6] (by kernel_rfl) (by rw [show (j:Int).toNat*7=j*7 by omega];exact hcell),?_⟩
    have H:=H1
    clear H1 hcell
    refine sNew H ?_;clear H;intro b4 w _ H
    refine sSw0 H rfl (by kernel_rfl) (by rfl) (by rfl) ?_;clear H;intro w _ H
    refine ⟨_,_,_,_,_,_,_,H.b0.ld,?_⟩
    refine call_j (c113 H hRj) ?_
    clear H;rintro _ w ⟨xa,xc,xr,X,okx,rfl,H,hXl,hokx⟩
    refine ⟨_,_,_,_,rfl,?_⟩
    replace H:=H.freeze.r1
    refine ⟨r,?_⟩;replace H:=H.drew;generalize w.drew=w at H ⊢;obtain ⟨F2,ex2,S,back1,back2,hm⟩:=H.regO
    refine ⟨(H.ne (mt (mt ms)) ms),H.b2.row,_,(by exact Ce (by rfl) H.b2 rfl),?_⟩
    clear H;have H:=S;clear S
    refine sAppV H ms (by omega) ?_
    clear H;intro a5 n5 k5 r5 w hn5 _ H
    refine ⟨(back1 H).1,?_⟩
    replace H:=(back1 H).2;clear back1 back2 hm
    have hl2:n5=(B++X).length:=by rw [List.length_append];exact hn5
    have hl3:(B++X).length<=24+24*(j+1):=by rw [List.length_append];omega
    refine ⟨fun ht=>?_,fun ht=>?_⟩
    ·refine sSt2 H (by rfl) (by kernel_rfl) (by rfl) (by rfl) ?_;clear H;intro w _ H
     refine ⟨q - 1,by omega,j+1,r5,okx,B++X,by rw [wi64_of (by omega) (by omega)];simp,by omega,hl2,hl3,fun h=>?_,H.ds (fun r h=>by simp [h])⟩
     obtain ⟨h1,h2,h3⟩:=hok ht
     obtain ⟨h4,h5⟩:=hokx h
     refine ⟨h1,?_,?_⟩
     ·rw [h2,h4,htk,List.flatMap_append,List.append_assoc];simp
     ·rw [htk]
      intro y hy
      rcases List.mem_append.1 hy with hy | hy
      ·exact h3 y hy
      ·rw [List.mem_singleton.1 hy];exact h5
    ·refine sSt2 H (by rfl) (by kernel_rfl) (by rfl) (by rfl) ?_;clear H;intro w _ H
     exact ⟨q - 1,by omega,j+1,r5,false,B++X,by rw [wi64_of (by omega) (by omega)];simp,by omega,hl2,hl3,(fun h=>(by cases h)),H.ds (fun r h=>by simp [h])⟩
   rw [decide_eq_false_iff_not] at hc
   obtain rfl:j=p.reports.length:=by omega
   rw [List.take_length] at hok
   refine ⟨r,?_⟩;replace H:=H.drew;generalize w.drew=w at H ⊢;obtain ⟨F2,ex2,S,back1,back2,hm⟩:=H.regO
   refine ⟨(H.ne (mt (mt (mt ms))) ms),H.b3.row,_,_,_,(H.b3.at0 rfl),?_⟩
   refine ⟨(H.ne (mt ms) ms),H.b1.row,_,(by exact Ce (by rfl) H.b1 rfl),?_⟩
   clear H;have H:=S;clear S
   refine sAppV H m8 (by omega) ?_
   clear H;intro a5 n5 k5 r5 w hn5 _ H
   refine ⟨(back1 H).1,?_⟩
   replace H:=(back1 H).2;clear back1 back2 hm
   have hl2:n5=(B++p.ext).length:=by rw [List.length_append];exact hn5
   have hl3:(B++p.ext).length<=24*p.size+40:=by rw [List.length_append];omega
   refine ⟨fun ht=>?_,fun ht=>?_⟩
   ·refine ⟨_,_,_,(H.b3.at0 rfl),?_⟩
    refine ⟨by decide,?_⟩
    refine sSt1 H (by rfl) (by kernel_rfl) (by rfl) (by rfl) ?_;clear H;intro w _ H
    refine ⟨r5,B++p.ext,_,_,hl2,H,⟨by omega,by omega⟩,hl3,fun h=>?_⟩
    obtain ⟨h1,h2,h3⟩:=hok ht
    exact fm1z hk hF (by rw [h2,hPRE]) (hok1 h1).2 h3 (tmod4 h)
   ·refine sSt1 H (by rfl) (by kernel_rfl) (by rfl) (by rfl) ?_;clear H;intro w _ H
    exact ⟨r5,B++p.ext,_,false,hl2,H,⟨by omega,by omega⟩,hl3,(fun h=>(by cases h))⟩
  ·
   replace H:=H.d1
   refine ⟨_,(H.b2.at0 rfl),?_⟩
   rw [hk]
   refine ⟨fun b _ w=>b=true/\Sat F w (.blk b5 4 [.bool true]::.blk b3 42 [.bool false,.int .u8 (cntK p.kind),.int .u8 (typK p.kind),.int .u16 0]::.blk b1 63 (pkC p a7 a8 a9 a10 a13 a14 a15 a16 a18 a24 a25 c7 c8 c9 c10 c13 c14 c15 c16 c18 c24 c25)::ex) R,⟨fun hc=>⟨(absurd hc (by decide)),H⟩,fun hc=>⟨(by decide),H⟩⟩,?_⟩
   clear H;rintro ddj bj w ⟨rfl,H⟩
   refine fT ?_
   refine ⟨_,(H.b2.at0 rfl),?_⟩
   refine call_j (c112 (B:=[]) (H.nilOwn 5 1) hF.s (by omega)) ?_
   clear H;rintro _ w ⟨a3,k3,r3,rfl,H⟩
   rw [List.nil_append] at H
   refine ⟨_,_,_,rfl,?_⟩
   obtain ⟨PRE,hPRE⟩:∃PRE:List Int,PRE=b32 p.sender:=⟨_,rfl⟩
   have hPl:PRE.length=4:=by rw [hPRE];rfl
   have hsz:=hF.sz (by omega)
   unfold Pk.size at hsz
   refine ⟨fun b bl bc _ w=>∃r,bl=PRE.length/\Sat F w (.own 5 1 b bl bc r (ob (PRE))::.blk b5 4 [.bool true]::.blk b3 42 [.bool false,.int .u8 (cntK p.kind),.int .u8 (typK p.kind),.int .u16 0]::.blk b1 63 (pkC p a7 a8 a9 a10 a13 a14 a15 a16 a18 a24 a25 c7 c8 c9 c10 c13 c14 c15 c16 c18 c24 c25)::ex) R,?_,?_⟩
   ·refine ⟨_,(H.b3.at0 rfl),?_⟩
    refine ⟨fun hc=>absurd hc (by rw [hk];decide),fun _=>?_⟩
    refine ⟨r3,by rw [hPl],?_⟩
    rw [hPRE]
    exact H
   clear H;rintro dd2 b bl bc w ⟨r,hbl,H⟩
   refine ⟨_,_,_,(H.b3.at0 rfl),?_⟩
   replace H:=H.u2
   refine call_j (c111 H (by omega)) ?_
   clear H;rintro _ w ⟨rfl,ok1,H,hok1⟩
   refine ⟨rfl,?_⟩
   replace H:=H.r2
   refine ⟨_,_,_,(H.b3.at0 rfl),?_⟩
   refine ⟨fun b bl bc x q w=>∃(j:Nat) (r:Option Nat) (ok:Bool) (B:List Int),x=(j:Int)/\j+q=p.reports.length/\bl=B.length/\B.length<=24+24*j/\(ok=true->ok1=true/\B=PRE++(p.reports.take j).flatMap wRep/\∀y∈p.reports.take j,y.2.2.1 < 16777216)/\Sat F w (.own 5 1 b bl bc r (ob (B))::.blk b5 4 [.bool ok]::.blk b3 42 [.bool false,.int .u8 ((p.reports.length % 32:Nat):Int),.int .u8 (typK p.kind),.int .u16 0]::.blk b1 63 (pkC p a7 a8 a9 a10 a13 a14 a15 a16 a18 a24 a25 c7 c8 c9 c10 c13 c14 c15 c16 c18 c24 c25)::ex) R,⟨p.reports.length,0,r,ok1,PRE,rfl,by omega,hbl,by omega,fun h=>⟨h,by simp,by simp⟩,H⟩,?_⟩
   clear H;rintro dd3 b bl bc x q w ⟨j,r,ok,B,rfl,hjq,rfl,hBl,hok,H⟩
   refine ⟨fun hc=>?_,fun hc=>?_⟩
   ·rw [decide_eq_true_eq] at hc
    have hjl:j < p.reports.length:=by omega
    obtain ⟨pp,us,e,hus,hcell,H1⟩:=H.eltF Rep.dat_len' (by decide) m7 (j:=j) hjl
    have htk:p.reports.take (j+1)=p.reports.take j++[p.reports[j]]:=by rw [List.take_add_one,List.getElem?_eq_getElem hjl];rfl
    have hRj:=hF.reps p.reports[j] (List.getElem_mem hjl)
    clear H
    generalize p.reports[j]=D at H1 htk hRj
    obtain ⟨d0,d1,d2,d3,d4,d5,d6⟩:=D
    refine ⟨pp,e,by omega,by omega,?_⟩
    obtain rfl:=H1.ones (us:=[.int .u32 d0,.int .u8 d1,.int .u32 d2,.int .u32 d3,.int .u32 d4,.int .u32 d5,.int .u32 d6]) ms
    refine ⟨_,_,_,_,_,_,_,LdC [.int .u32 d0,.int .u8 d1,.int .u32 d2,.int .u32 d3,.int .u32 d4,.int .u32 d5,.int .u32 d6] (by kernel_rfl) (by rw [show (j:Int).toNat*7=j*7 by omega];exact hcell),?_⟩
    have H:=H1
    clear H1 hcell
    refine sNew H ?_;clear H;intro b4 w _ H
    refine sSw0 H rfl (by kernel_rfl) (by rfl) (by rfl) ?_;clear H;intro w _ H
    refine ⟨_,_,_,_,_,_,_,H.b0.ld,?_⟩
    refine call_j (c113 H hRj) ?_
    clear H;rintro _ w ⟨xa,xc,xr,X,okx,rfl,H,hXl,hokx⟩
    refine ⟨_,_,_,_,rfl,?_⟩
    replace H:=H.freeze.r1
    refine ⟨r,?_⟩;replace H:=H.drew;generalize w.drew=w at H ⊢;obtain ⟨F2,ex2,S,back1,back2,hm⟩:=H.regO
    refine ⟨(H.ne (mt (mt ms)) ms),H.b2.row,_,(by exact Ce (by rfl) H.b2 rfl),?_⟩
    clear H;have H:=S;clear S
    refine sAppV H ms (by omega) ?_
    clear H;intro a5 n5 k5 r5 w hn5 _ H
    refine ⟨(back1 H).1,?_⟩
    replace H:=(back1 H).2;clear back1 back2 hm
    have hl2:n5=(B++X).length:=by rw [List.length_append];exact hn5
    have hl3:(B++X).length<=24+24*(j+1):=by rw [List.length_append];omega
    refine ⟨fun ht=>?_,fun ht=>?_⟩
    ·refine sSt2 H (by rfl) (by kernel_rfl) (by rfl) (by rfl) ?_;clear H;intro w _ H
     refine ⟨q - 1,by omega,j+1,r5,okx,B++X,by rw [wi64_of (by omega) (by omega)];simp,by omega,hl2,hl3,fun h=>?_,H.ds (fun r h=>by simp [h])⟩
     obtain ⟨h1,h2,h3⟩:=hok ht
     obtain ⟨h4,h5⟩:=hokx h
     refine ⟨h1,?_,?_⟩
     ·rw [h2,h4,htk,List.flatMap_append,List.append_assoc];simp
     ·rw [htk]
      intro y hy
      rcases List.mem_append.1 hy with hy | hy
      ·exact h3 y hy
      ·rw [List.mem_singleton.1 hy];exact h5
    ·refine sSt2 H (by rfl) (by kernel_rfl) (by rfl) (by rfl) ?_;clear H;intro w _ H
     exact ⟨q - 1,by omega,j+1,r5,false,B++X,by rw [wi64_of (by omega) (by omega)];simp,by omega,hl2,hl3,(fun h=>(by cases h)),H.ds (fun r h=>by simp [h])⟩
   rw [decide_eq_false_iff_not] at hc
   obtain rfl:j=p.reports.length:=by omega
   rw [List.take_length] at hok
   refine ⟨r,?_⟩;replace H:=H.drew;generalize w.drew=w at H ⊢;obtain ⟨F2,ex2,S,back1,back2,hm⟩:=H.regO
   refine ⟨(H.ne (mt (mt (mt ms))) ms),H.b3.row,_,_,_,(H.b3.at0 rfl),?_⟩
   refine ⟨(H.ne (mt ms) ms),H.b1.row,_,(by exact Ce (by rfl) H.b1 rfl),?_⟩
   clear H;have H:=S;clear S
   refine sAppV H m8 (by omega) ?_
   clear H;intro a5 n5 k5 r5 w hn5 _ H
   refine ⟨(back1 H).1,?_⟩
   replace H:=(back1 H).2;clear back1 back2 hm
   have hl2:n5=(B++p.ext).length:=by rw [List.length_append];exact hn5
   have hl3:(B++p.ext).length<=24*p.size+40:=by rw [List.length_append];omega
   refine ⟨fun ht=>?_,fun ht=>?_⟩
   ·refine ⟨_,_,_,(H.b3.at0 rfl),?_⟩
    refine ⟨by decide,?_⟩
    refine sSt1 H (by rfl) (by kernel_rfl) (by rfl) (by rfl) ?_;clear H;intro w _ H
    refine ⟨r5,B++p.ext,_,_,hl2,H,⟨by omega,by omega⟩,hl3,fun h=>?_⟩
    obtain ⟨h1,h2,h3⟩:=hok ht
    exact fm2z hk hF (by rw [h2,hPRE]) (hok1 h1).2 h3 (tmod4 h)
   ·refine sSt1 H (by rfl) (by kernel_rfl) (by rfl) (by rfl) ?_;clear H;intro w _ H
    exact ⟨r5,B++p.ext,_,false,hl2,H,⟨by omega,by omega⟩,hl3,(fun h=>(by cases h))⟩
  ·
   replace H:=H.d1
   refine ⟨_,(H.b2.at0 rfl),?_⟩
   rw [hk]
   refine ⟨fun b _ w=>b=false/\Sat F w (.blk b5 4 [.bool true]::.blk b3 42 [.bool false,.int .u8 (cntK p.kind),.int .u8 (typK p.kind),.int .u16 0]::.blk b1 63 (pkC p a7 a8 a9 a10 a13 a14 a15 a16 a18 a24 a25 c7 c8 c9 c10 c13 c14 c15 c16 c18 c24 c25)::ex) R,⟨fun hc=>⟨(absurd hc (by decide)),H⟩,fun hc=>⟨(by decide),H⟩⟩,?_⟩
   clear H;rintro ddj bj w ⟨rfl,H⟩
   refine fF ?_
   refine fT ?_
   have hsz:=hF.sz (by omega)
   unfold Pk.size at hsz
   have hcl:=csz_len p.chunks
   have hcm:=csz_mem p.chunks
   have hbl:=wChk_le p.chunks
   refine ⟨_,_,_,(H.b2.at0 rfl),?_⟩
   refine call_j (c111 H (by omega)) ?_
   clear H;rintro _ w ⟨rfl,ok1,H,hok1⟩
   refine ⟨rfl,?_⟩
   refine ⟨_,_,_,(H.b2.at0 rfl),?_⟩
   refine ⟨fun b bl bc x q w=>∃(j:Nat) (r:Option Nat) (ok:Bool) (B:List Int),x=(j:Int)/\j+q=p.chunks.length/\bl=B.length/\B.length=((p.chunks.take j).flatMap wChk).length/\(ok=true->ok1=true/\B=(p.chunks.take j).flatMap wChk/\∀y∈p.chunks.take j,∀i∈y.2,ItmR i)/\Sat F w (.own 5 1 b bl bc r (ob (B))::.blk b5 4 [.bool ok]::.blk b3 42 [.bool false,.int .u8 ((p.chunks.length % 32:Nat):Int),.int .u8 (typK p.kind),.int .u16 0]::.blk b1 63 (pkC p a7 a8 a9 a10 a13 a14 a15 a16 a18 a24 a25 c7 c8 c9 c10 c13 c14 c15 c16 c18 c24 c25)::ex) R,⟨p.chunks.length,0,none,ok1,[],rfl,by omega,rfl,by rw [List.take_zero,List.flatMap_nil],fun h=>⟨h,by simp,by simp⟩,H.nilOwn 5 1⟩,?_⟩
   clear H;rintro dd3 b bl bc x q w ⟨j,r,ok,B,rfl,hjq,rfl,hBl,hok,H⟩
   refine ⟨fun hc=>?_,fun hc=>?_⟩
   ·rw [decide_eq_true_eq] at hc
    have hjl:j < p.chunks.length:=by omega
    obtain ⟨pp,us,e,hus,hcell,H1⟩:=H.eltF Chk.dat_len' (by decide) m9 (j:=j) hjl
    have htk:p.chunks.take (j+1)=p.chunks.take j++[p.chunks[j]]:=by rw [List.take_add_one,List.getElem?_eq_getElem hjl];rfl
    have h0:=hF.chks p.chunks[j] (List.getElem_mem hjl)
    have hDm:=hcm p.chunks[j] (List.getElem_mem hjl)
    have hpre:=pre_le wChk hjl
    rw [wChk_len] at hpre
    clear H
    generalize p.chunks[j]=D at H1 htk h0 hDm hpre
    obtain ⟨d0,msz⟩:=D
    replace hDm:msz.length<=csz p.chunks:=hDm
    replace hpre:((p.chunks.take j).flatMap wChk).length+up4 (4+itLen msz+1)<=(p.chunks.flatMap wChk).length:=hpre
    have hup:4+itLen msz+1<=up4 (4+itLen msz+1):=by unfold up4;omega
    refine ⟨pp,e,by omega,by omega,?_⟩
    obtain ⟨x0,us0,rfl,H2⟩:=H1.uncons ms
    obtain ⟨x1,us1,rfl,H3⟩:=H2.uncons (mt ms)
    obtain rfl:us1=[]:=by simpa using hus
    obtain rfl:=H2.one1 ms
    obtain ⟨sa,sn,sc,rfl,hsl⟩:=H3.rowS ms
    rw [flat_len Itm.dat_len] at hsl
    obtain rfl:sn=msz.length:=by omega
    refine ⟨_,_,_,_,LdC [.int .u32 d0,.slice sa msz.length sc] (by kernel_rfl) (by rw [show (j:Int).toNat*2=j*2 by omega];exact hcell),?_⟩
    have H:Sat F w _ (.deep [.row 2 (msz.flatMap Itm.dat)] [.slice sa msz.length sc]::R):=H3.sub (List.Sublist.refl _) (fun r h=>by rcases List.mem_cons.1 h with rfl | h;exact ms;simp [h])
    clear H1 H2 H3 hcell
    refine sNew H ?_;clear H;intro b4 w _ H
    refine sSw0 H rfl (by kernel_rfl) (by rfl) (by rfl) ?_;clear H;intro w _ H
    refine ⟨_,(H.b0.at0 rfl),?_⟩
    replace H:=H.r1
    refine call_j (c112 H h0 (by omega)) ?_
    clear H;rintro _ w ⟨a4,k4,r4,rfl,H⟩
    refine ⟨_,_,_,rfl,?_⟩
    obtain ⟨B0,hB0⟩:∃B0,B0=B++b32 d0:=⟨_,rfl⟩
    rw [<-hB0] at H
    have hB0l:B0.length=B.length+4:=by rw [hB0];simp only [List.length_append,b32_len]
    refine ⟨_,_,_,(H.b1.at0 rfl),?_⟩
    refine ⟨fun b' bl' bc' x' q' w=>∃(i:Nat) (r':Option Nat) (ok3:Bool) (X:List Int),x'=(i:Int)/\i+q'=msz.length/\bl'=(B0++X).length/\X.length=itLen (msz.take i)/\(ok3=true->ok=true/\X=(msz.take i).flatMap wItm/\∀m∈msz.take i,ItmR m)/\Sat F w (.own 5 1 b' bl' bc' r' (ob (B0++X))::.blk b4 147 [.int .u32 d0,.slice sa msz.length sc]::.blk b5 4 [.bool ok3]::.blk b3 42 [.bool false,.int .u8 ((p.chunks.length % 32:Nat):Int),.int .u8 (typK p.kind),.int .u16 0]::.blk b1 63 (pkC p a7 a8 a9 a10 a13 a14 a15 a16 a18 a24 a25 c7 c8 c9 c10 c13 c14 c15 c16 c18 c24 c25)::ex) (.deep [.row 2 (msz.flatMap Itm.dat)] [.slice sa msz.length sc]::R),⟨msz.length,0,r4,ok,[],rfl,by omega,by rw [List.append_nil,hB0l],rfl,fun h=>⟨h,by simp,by simp⟩,by rw [List.append_nil];exact H⟩,?_⟩
    clear H;rintro dd5 b' bl' bc' x' q' w ⟨i,r',ok3,X,rfl,hiq,hbl',hXl,hok3,H⟩
    have hbl2:bl'=B0.length+X.length:=by rw [hbl',List.length_append]
    refine ⟨fun hc2=>?_,fun hc2=>?_⟩
    ·rw [decide_eq_true_eq] at hc2
     have hil:i < msz.length:=by omega
     obtain ⟨p2,us,e2',hus2,hcell,H1⟩:=H.eltF Itm.dat_len (by decide) ms (j:=i) hil
     have htk2:msz.take (i+1)=msz.take i++[msz[i]]:=by rw [List.take_add_one,List.getElem?_eq_getElem hil];rfl
     have hle:=itLen_tk hil
     clear H
     generalize msz[i]=E at H1 htk2 hle
     obtain ⟨e0,e1⟩:=E
     replace hle:itLen (msz.take i)+(2+e1.size)<=itLen msz:=hle
     refine ⟨p2,e2',by omega,by omega,?_⟩
     obtain rfl:=H1.ones (us:=[.int .u8 e0,.string e1]) ms
     refine ⟨_,_,LdC [.int .u8 e0,.string e1] (by kernel_rfl) (by rw [show (i:Int).toNat*2=i*2 by omega];exact hcell),?_⟩
     have H:=H1.sub (List.Sublist.refl _) (fun r h=>mt h)
     clear H1 hcell
     refine sNew H ?_;clear H;intro b7 w _ H
     refine sSw0 H rfl (by kernel_rfl) (by rfl) (by rfl) ?_;clear H;intro w _ H
     refine ⟨fun _ w=>∃ok4:Bool,(ok4=true->ok3=true/\e0≠0/\e1.size<=255)/\Sat F w (.blk b7 149 [.int .u8 e0,.string e1]::.own 5 1 b' bl' bc' r' (ob (B0++X))::.blk b4 147 [.int .u32 d0,.slice sa msz.length sc]::.blk b5 4 [.bool ok4]::.blk b3 42 [.bool false,.int .u8 ((p.chunks.length % 32:Nat):Int),.int .u8 (typK p.kind),.int .u16 0]::.blk b1 63 (pkC p a7 a8 a9 a10 a13 a14 a15 a16 a18 a24 a25 c7 c8 c9 c10 c13 c14 c15 c16 c18 c24 c25)::ex) (.deep [.row 2 (msz.flatMap Itm.dat)] [.slice sa msz.length sc]::R),?_,?_⟩
     ·refine ⟨_,(by exact Ce (by rfl) H.b3 rfl),?_⟩
      refine ⟨fun h2=>?_,fun h2=>?_⟩
      ·refine ⟨_,(H.b0.at0 rfl),?_⟩
       refine ⟨fun h3=>?_,fun h3=>?_⟩
       ·refine ⟨_,(H.b0.at0 rfl),?_⟩
        refine sSt3 H (by rfl) (by kernel_rfl) (by rfl) (by rfl) ?_;clear H;intro w _ H
        exact ⟨decide (((e1.size:Nat):Int)<=(255:Int)),fun h=>⟨h2,by simpa using h3,by rw [decide_eq_true_eq] at h;omega⟩,H⟩
       ·refine sSt3 H (by rfl) (by kernel_rfl) (by rfl) (by rfl) ?_;clear H;intro w _ H
        exact ⟨false,(fun h=>(by cases h)),H⟩
      ·refine sSt3 H (by rfl) (by kernel_rfl) (by rfl) (by rfl) ?_;clear H;intro w _ H
       exact ⟨false,(fun h=>(by cases h)),H⟩
     clear H;rintro dd6 w ⟨ok4,hok4,H⟩
     have w1:IntKind.u8.wrap ((e1.size:Nat):Int)=((e1.size % 256:Nat):Int):=by rw [wu8];omega
     replace H:=H.r1
     refine ⟨r',?_⟩;replace H:=H.drew;generalize w.drew=w at H ⊢;obtain ⟨F2,ex2,S,back1,back2,hm⟩:=H.regO
     refine ⟨(H.ne (mt ms) ms),H.b1.row,_,(H.b1.at0 rfl),?_⟩
     refine ⟨(H.ne (mt ms) ms),H.b1.row,_,(H.b1.at0 rfl),?_⟩
     refine ⟨(H.ne (mt ms) ms),H.b1.row,_,(H.b1.at0 rfl),?_⟩
     clear H;have H:=S;clear S
     rw [w1]
     refine sNew H ?_;clear H;intro b8 w _ H
     refine ⟨(back2 H).1,?_⟩
     refine sApp1 H (bytes:=1) (by kernel_rfl) [.int .u8 e0,.int .u8 ((e1.size % 256:Nat):Int)] (ob [e0,((e1.size % 256:Nat):Int)]) (by rfl) (fun j u hu=>by rw [add_flat,Nat.zero_add];exact H.b0.cell hu) (fun G h=>DeepL.ones [_,_]) (by simp [Value.oneCell']) (by unfold maxLen;omega) (by omega) ?_
     clear H;intro a6 n6 k6 r6 w hn6 _ H
     refine ⟨(back2 H).1,?_⟩
     rw [<-ob_append] at H
     replace H:=H.r1
     refine sAppS H e1 (by omega) (by omega) ?_
     clear H;intro aw kw rw' w H
     replace H:=(back2 H).2;clear back1 back2 hm
     have hX:B0++X++[e0,((e1.size % 256:Nat):Int)]++sbs e1=B0++(X++([e0,((e1.size % 256:Nat):Int)]++sbs e1)):=by simp only [List.append_assoc]
     rw [hX] at H
     have hl1:(X++([e0,((e1.size % 256:Nat):Int)]++sbs e1)).length=X.length+(2+e1.size):=by rw [List.length_append,List.length_append,sbs_len];rfl
     refine ⟨q' - 1,by omega,i+1,rw',ok4,_,by rw [wi64_of (by omega) (by omega)];simp,by omega,by rw [List.length_append,hl1];omega,by rw [hl1,htk2,itLen_snoc,hXl],fun h=>?_,H.dr⟩
     obtain ⟨h0,h1,h2⟩:=hok4 h
     obtain ⟨h3,h4,h5⟩:=hok3 h0
     refine ⟨h3,?_,?_⟩
     ·rw [h4,htk2,List.flatMap_append,Nat.mod_eq_of_lt (show e1.size < 256 by omega)]
      simp only [fm1,fm2,fm3]
      rfl
     ·rw [htk2]
      intro y hy
      rcases List.mem_append.1 hy with hy | hy
      ·exact h5 y hy
      ·rw [List.mem_singleton.1 hy];exact ⟨h1,h2⟩
    rw [decide_eq_false_iff_not] at hc2
    obtain rfl:i=msz.length:=by omega
    rw [List.take_length] at hok3 hXl
    refine ⟨rfl,?_⟩
    refine sPush0 H (bytes:=1) (by kernel_rfl) (ob [0]) (by rfl) (fun G h=>DeepL.ones [_]) (by rfl) (by unfold maxLen;omega) (by omega) ?_
    clear H;intro a6 n6 k6 r6 w hn6 _ H
    rw [<-ob_append] at H
    refine call_j (c114 H (by omega)) ?_
    clear H;rintro _ w ⟨a8,k8,r8,rfl,H⟩
    refine ⟨_,_,_,rfl,?_⟩
    have h4:=wChk_4 (p.chunks.take j)
    have hpad:pad4 n6=pad4 (4+itLen msz+1):=by unfold pad4;omega
    have hu4:up4 (4+itLen msz+1)=4+itLen msz+1+pad4 (4+itLen msz+1):=by unfold up4 pad4;omega
    have hl:n6+pad4 n6=(B0++X++[0]++List.replicate (pad4 n6) 0).length:=by rw [List.length_append,List.length_append,List.length_append,List.length_replicate];simp only [List.length_cons,List.length_nil];omega
    refine ⟨q - 1,by omega,j+1,r8,ok3,_,by rw [wi64_of (by omega) (by omega)];simp,by omega,hl,?_,fun h=>?_,H.ds (fun r h=>mt h)⟩
    ·rw [<-hl,htk,List.flatMap_append,List.length_append]
     simp only [fm1,fm2,fm3]
     rw [wChk_len]
     show _=_+up4 (4+itLen msz+1)
     omega
    ·obtain ⟨h2,h3,h5⟩:=hok3 h
     obtain ⟨h6,h7,h8⟩:=hok h2
     refine ⟨h6,?_,?_⟩
     ·have hq:(b32 d0++msz.flatMap wItm++[0]).length=4+itLen msz+1:=by rw [List.length_append,List.length_append,b32_len,wItm_it];rfl
      rw [hpad,hB0,h7,h3,htk,List.flatMap_append]
      simp only [List.flatMap_cons,List.flatMap_nil,List.append_nil,wChk]
      rw [hq]
      simp only [List.append_assoc]
     ·rw [htk]
      intro y hy
      rcases List.mem_append.1 hy with hy | hy
      ·exact h8 y hy
      ·rw [List.mem_singleton.1 hy];exact h5
   rw [decide_eq_false_iff_not] at hc
   obtain rfl:j=p.chunks.length:=by omega
   rw [List.take_length] at hBl hok
   exact ⟨r,B,_,ok,rfl,H,⟨by omega,by omega⟩,by omega,fun h=>fm3z hk hF (hok h).2.1 (hok1 (hok h).1).2 (hok h).2.2⟩
  ·
   replace H:=H.d1
   refine ⟨_,(H.b2.at0 rfl),?_⟩
   rw [hk]
   refine ⟨fun b _ w=>b=false/\Sat F w (.blk b5 4 [.bool true]::.blk b3 42 [.bool false,.int .u8 (cntK p.kind),.int .u8 (typK p.kind),.int .u16 0]::.blk b1 63 (pkC p a7 a8 a9 a10 a13 a14 a15 a16 a18 a24 a25 c7 c8 c9 c10 c13 c14 c15 c16 c18 c24 c25)::ex) R,⟨fun hc=>⟨(absurd hc (by decide)),H⟩,fun hc=>⟨(by decide),H⟩⟩,?_⟩
   clear H;rintro ddj bj w ⟨rfl,H⟩
   refine fF ?_
   refine fF ?_
   refine fT ?_
   have hsz:=hF.sz (by omega)
   unfold Pk.size at hsz
   have w1:IntKind.u8.wrap ((p.text.size:Nat):Int)=((p.text.size % 256:Nat):Int):=by rw [wu8];omega
   refine ⟨_,_,_,(H.b2.at0 rfl),?_⟩
   refine call_j (c111 H (by omega)) ?_
   clear H;rintro _ w ⟨rfl,ok1,H,hok1⟩
   refine ⟨rfl,?_⟩
   refine ⟨_,_,_,(H.b2.at0 rfl),?_⟩
   refine ⟨fun b bl bc x q w=>∃(j:Nat) (r:Option Nat),x=(j:Int)/\j+q=p.sources.length/\bl=4*j/\Sat F w (.own 5 1 b bl bc r (ob ((p.sources.take j).flatMap b32))::.blk b5 4 [.bool ok1]::.blk b3 42 [.bool false,.int .u8 ((p.sources.length % 32:Nat):Int),.int .u8 (typK p.kind),.int .u16 0]::.blk b1 63 (pkC p a7 a8 a9 a10 a13 a14 a15 a16 a18 a24 a25 c7 c8 c9 c10 c13 c14 c15 c16 c18 c24 c25)::ex) R,⟨p.sources.length,0,none,rfl,by omega,rfl,by rw [List.take_zero,List.flatMap_nil];exact H.nilOwn 5 1⟩,?_⟩
   clear H;rintro dd3 b bl bc x q w ⟨j,r,rfl,hjq,rfl,H⟩
   refine ⟨fun hc=>?_,fun hc=>?_⟩
   ·rw [decide_eq_true_eq] at hc
    have hjl:j < p.sources.length:=by omega
    have htk:p.sources.take (j+1)=p.sources.take j++[p.sources[j]]:=by rw [List.take_add_one,List.getElem?_eq_getElem hjl];rfl
    have hRj:=hF.srcs p.sources[j] (List.getElem_mem hjl)
    obtain ⟨bb,oo,hle,hcell⟩:=H.elt m10 (by omega)
    have hc1:=hcell j (.int .u32 p.sources[j]) (by rw [oi_get _ _ _ hjl];simp [List.getD,List.getElem?_eq_getElem hjl])
    refine ⟨_,hle,by omega,by omega,?_⟩
    refine ⟨_,(by rw [show (j:Int).toNat*1=j by omega,add_flat];exact hc1),?_⟩
    clear hcell hc1
    refine call_j (c112 H hRj (by omega)) ?_
    clear H;rintro _ w ⟨a6,k6,r6,rfl,H⟩
    refine ⟨_,_,_,rfl,?_⟩
    refine ⟨q - 1,by omega,j+1,r6,by rw [wi64_of (by omega) (by omega)];simp,by omega,by omega,?_⟩
    rw [htk,List.flatMap_append]
    simp only [fm1,fm2,fm3]
    exact H
   rw [decide_eq_false_iff_not] at hc
   obtain rfl:j=p.sources.length:=by omega
   rw [List.take_length] at H
   refine ⟨_,(by exact Ce (by rfl) H.b1 rfl),?_⟩
   refine ⟨fun hok=>?_,fun hok=>?_⟩
   ·refine ⟨_,(H.b3.at0 rfl),?_⟩
    refine sSt1 H (by rfl) (by kernel_rfl) (by rfl) (by rfl) ?_;clear H;intro w _ H
    obtain ⟨ok2,hok2e⟩:∃ok2,ok2=decide (((p.text.size:Nat):Int)<=(255:Int)):=⟨_,rfl⟩
    have hok2:ok2=true->p.text.size<=255:=fun h=>by rw [hok2e,decide_eq_true_eq] at h;omega
    rw [<-hok2e] at H
    clear hok2e
    refine ⟨_,(H.b3.at0 rfl),?_⟩
    rw [noStr]
    refine ⟨fun h0=>?_,fun h0=>?_⟩
    ·have hs0:p.text.size≠0:=by simpa using h0
     refine ⟨r,?_⟩;replace H:=H.drew;generalize w.drew=w at H ⊢;obtain ⟨F2,ex2,S,back1,back2,hm⟩:=H.regO
     refine ⟨(H.ne (mt (mt (mt ms))) ms),H.b3.row,_,(H.b3.at0 rfl),?_⟩
     refine ⟨(H.ne (mt (mt (mt ms))) ms),H.b3.row,_,(H.b3.at0 rfl),?_⟩
     clear H;have H:=S;clear S
     refine ⟨rfl,?_⟩
     refine sNew H ?_;clear H;intro b6 w _ H
     refine ⟨(back2 H).1,?_⟩
     rw [w1] at H
     refine sApp1 H (bytes:=1) (by kernel_rfl) [.int .u8 ((p.text.size % 256:Nat):Int)] (ob [((p.text.size % 256:Nat):Int)]) (by rfl) (fun j u hu=>by rw [add_flat,Nat.zero_add];exact H.b0.cell hu) (fun G h=>DeepL.ones [_]) (by simp [Value.oneCell']) (by unfold maxLen;omega) (by omega) ?_
     clear H;intro a6 n6 k6 r6 w hn6 _ H
     refine ⟨(back2 H).1,?_⟩
     rw [<-ob_append] at H
     replace H:=H.r1
     refine sAppS H p.text (by omega) (by omega) ?_
     clear H;intro a7' k7 r7 w H
     replace H:=(back2 H).2;clear back1 back2 hm
     refine call_j (c114 H (by omega)) ?_
     clear H;rintro _ w ⟨a8',k8,r8,rfl,H⟩
     refine ⟨_,_,_,rfl,?_⟩
     have hl:n6+p.text.size+pad4 (n6+p.text.size)=(p.sources.flatMap b32++[((p.text.size % 256:Nat):Int)]++sbs p.text++List.replicate (pad4 (n6+p.text.size)) 0).length:=by
      rw [List.length_append,List.length_append,List.length_append,fl32,sbs_len,List.length_replicate];simp only [List.length_cons,List.length_nil];omega
     have hp3:pad4 (n6+p.text.size)<=3:=by unfold pad4;omega
     refine ⟨r8,_,_,ok2,hl,H.dr,⟨by omega,by omega⟩,by rw [<-hl];omega,fun h=>?_⟩
     have hts:=hok2 h
     refine fm4 hk hF ?_ (hok1 hok).2 hts
     unfold wBye
     rw [if_neg hs0,Nat.mod_eq_of_lt (show p.text.size < 256 by omega),show pad4 (n6+p.text.size)=pad4 (1+p.text.size) by unfold pad4;omega]
     simp only [List.append_assoc]
    ·have hs0:p.text.size=0:=by simpa using h0
     exact ⟨r,_,_,ok2,by rw [fl32],H,⟨by omega,by omega⟩,by rw [fl32];omega,fun h=>fm4 hk hF (by unfold wBye;rw [if_pos hs0,List.append_nil]) (hok1 hok).2 (hok2 h)⟩

   ·refine sSt1 H (by rfl) (by kernel_rfl) (by rfl) (by rfl) ?_;clear H;intro w _ H
    refine ⟨_,(H.b3.at0 rfl),?_⟩
    rw [noStr]
    refine ⟨fun h0=>?_,fun h0=>?_⟩
    ·have hs0:p.text.size≠0:=by simpa using h0
     refine ⟨r,?_⟩;replace H:=H.drew;generalize w.drew=w at H ⊢;obtain ⟨F2,ex2,S,back1,back2,hm⟩:=H.regO
     refine ⟨(H.ne (mt (mt (mt ms))) ms),H.b3.row,_,(H.b3.at0 rfl),?_⟩
     refine ⟨(H.ne (mt (mt (mt ms))) ms),H.b3.row,_,(H.b3.at0 rfl),?_⟩
     clear H;have H:=S;clear S
     refine ⟨rfl,?_⟩
     refine sNew H ?_;clear H;intro b6 w _ H
     refine ⟨(back2 H).1,?_⟩
     rw [w1] at H
     refine sApp1 H (bytes:=1) (by kernel_rfl) [.int .u8 ((p.text.size % 256:Nat):Int)] (ob [((p.text.size % 256:Nat):Int)]) (by rfl) (fun j u hu=>by rw [add_flat,Nat.zero_add];exact H.b0.cell hu) (fun G h=>DeepL.ones [_]) (by simp [Value.oneCell']) (by unfold maxLen;omega) (by omega) ?_
     clear H;intro a6 n6 k6 r6 w hn6 _ H
     refine ⟨(back2 H).1,?_⟩
     rw [<-ob_append] at H
     replace H:=H.r1
     refine sAppS H p.text (by omega) (by omega) ?_
     clear H;intro a7' k7 r7 w H
     replace H:=(back2 H).2;clear back1 back2 hm
     refine call_j (c114 H (by omega)) ?_
     clear H;rintro _ w ⟨a8',k8,r8,rfl,H⟩
     refine ⟨_,_,_,rfl,?_⟩
     have hl:n6+p.text.size+pad4 (n6+p.text.size)=(p.sources.flatMap b32++[((p.text.size % 256:Nat):Int)]++sbs p.text++List.replicate (pad4 (n6+p.text.size)) 0).length:=by
      rw [List.length_append,List.length_append,List.length_append,fl32,sbs_len,List.length_replicate];simp only [List.length_cons,List.length_nil];omega
     have hp3:pad4 (n6+p.text.size)<=3:=by unfold pad4;omega
     refine ⟨r8,_,_,false,hl,H.dr,⟨by omega,by omega⟩,by rw [<-hl];omega,(fun h=>(by cases h))⟩
    ·have hs0:p.text.size=0:=by simpa using h0
     exact ⟨r,_,_,false,by rw [fl32],H,⟨by omega,by omega⟩,by rw [fl32];omega,(fun h=>(by cases h))⟩
  ·
   replace H:=H.d1
   refine ⟨_,(H.b2.at0 rfl),?_⟩
   rw [hk]
   refine ⟨fun b _ w=>b=false/\Sat F w (.blk b5 4 [.bool true]::.blk b3 42 [.bool false,.int .u8 (cntK p.kind),.int .u8 (typK p.kind),.int .u16 0]::.blk b1 63 (pkC p a7 a8 a9 a10 a13 a14 a15 a16 a18 a24 a25 c7 c8 c9 c10 c13 c14 c15 c16 c18 c24 c25)::ex) R,⟨fun hc=>⟨(absurd hc (by decide)),H⟩,fun hc=>⟨(by decide),H⟩⟩,?_⟩
   clear H;rintro ddj bj w ⟨rfl,H⟩
   refine fF ?_
   refine fF ?_
   refine fF ?_
   refine fT ?_
   have hsz:=hF.sz (by omega)
   unfold Pk.size at hsz
   have hsub:=hF.sub
   refine ⟨_,(H.b2.at0 rfl),?_⟩
   rw [show IntKind.i64.wrap p.sub=((p.sub.toNat:Nat):Int) by rw [wi64_of (by omega) (by omega)];omega]
   refine call_j (c111 H (by omega)) ?_
   clear H;rintro _ w ⟨rfl,ok1,H,hok1⟩
   refine ⟨rfl,?_⟩
   refine ⟨none,?_⟩;replace H:=H.drew;generalize w.drew=w at H ⊢;obtain ⟨F2,ex2,S,back1,back2,hm⟩:=H.regN
   refine ⟨nn,H.b2.row,_,(H.b2.at0 rfl),?_⟩
   refine ⟨nn,H.b2.row,_,(H.b2.at0 rfl),?_⟩
   refine ⟨nn,H.b2.row,_,_,_,(H.b2.at0 rfl),?_⟩
   refine ⟨nn,H.b0.row,_,(by exact Ce (by rfl) H.b0 rfl),?_⟩
   clear H;have H:=S;clear S
   refine call_j (c112 (B:=[]) (H.nilOwn 5 1) hF.s (by omega)) ?_
   clear H;rintro _ w ⟨a4,k4,r4,rfl,H⟩
   refine ⟨_,_,_,rfl,(back1 H).1,?_⟩
   rw [List.nil_append] at H
   refine sAppS H p.text (by omega) (by omega) ?_
   clear H;intro a5 k5 r5 w H
   refine ⟨(back1 H).1,?_⟩
   refine sAppV H m13 (by omega) ?_
   clear H;intro a6 n6 k6 r6 w hn6 _ H
   refine ⟨(back1 H).1,?_⟩
   replace H:=(back1 H).2;clear back1 back2 hm
   have hl:n6=(b32 p.sender++sbs p.text++p.data).length:=by rw [List.length_append,List.length_append,b32_len,sbs_len];omega
   have hl2:(b32 p.sender++sbs p.text++p.data).length<=24*p.size+40:=by omega
   refine ⟨fun hok=>?_,fun hok=>?_⟩
   ·refine ⟨_,(H.b3.at0 rfl),?_⟩
    refine ⟨fun ht=>?_,fun ht=>?_⟩
    ·have ht:((p.text.size:Nat):Int)=4:=by simpa using ht
     refine ⟨_,_,_,(H.b3.at0 rfl),?_⟩
     refine ⟨by decide,?_⟩
     refine ⟨fun hd=>?_,fun hd=>?_⟩
     ·refine ⟨_,_,_,(H.b3.at0 rfl),?_⟩
      refine sSt1 H (by rfl) (by kernel_rfl) (by rfl) (by rfl) ?_;clear H;intro w _ H
      exact ⟨r6,_,_,_,hl,H,⟨by omega,by omega⟩,hl2,fun h=>fm5 hk hF rfl (hok1 hok).2 (by omega) (tmod4 hd) (by rw [decide_eq_true_eq] at h;omega)⟩
     ·refine sSt1 H (by rfl) (by kernel_rfl) (by rfl) (by rfl) ?_;clear H;intro w _ H
      exact ⟨r6,_,_,false,hl,H,⟨by omega,by omega⟩,hl2,(fun h=>(by cases h))⟩
    ·refine sSt1 H (by rfl) (by kernel_rfl) (by rfl) (by rfl) ?_;clear H;intro w _ H
     exact ⟨r6,_,_,false,hl,H,⟨by omega,by omega⟩,hl2,(fun h=>(by cases h))⟩
   ·refine sSt1 H (by rfl) (by kernel_rfl) (by rfl) (by rfl) ?_;clear H;intro w _ H
    exact ⟨r6,_,_,false,hl,H,⟨by omega,by omega⟩,hl2,(fun h=>(by cases h))⟩
  ·
   refine ⟨_,(H.b3.at0 rfl),?_⟩
   rw [hk]
   refine ⟨fun b _ w=>b=false/\Sat F w (.own 5 1 ab (0+4+4) kt rt (ob (b32 p.sender++b32 p.media))::.blk b5 4 [.bool true]::.blk b3 42 [.bool false,.int .u8 (cntK p.kind),.int .u8 (typK p.kind),.int .u16 0]::.blk b1 63 (pkC p a7 a8 a9 a10 a13 a14 a15 a16 a18 a24 a25 c7 c8 c9 c10 c13 c14 c15 c16 c18 c24 c25)::ex) R,⟨fun hc=>⟨(absurd hc (by decide)),H⟩,fun hc=>⟨(by decide),H⟩⟩,?_⟩
   clear H;rintro ddj bj w ⟨rfl,H⟩
   refine fF ?_
   refine fF ?_
   refine fF ?_
   refine fF ?_
   refine fT ?_
   rw [show cntK p.kind=1 by rw [hk];rfl] at H
   have hsz:=hF.sz (by omega)
   unfold Pk.size at hsz
   refine ⟨fun b bl bc _ w=>∃(r:Option Nat) (ok:Bool),bl=8/\(ok=true->0 < p.pairs.length/\p.pairs.length<=253)/\Sat F w (.own 5 1 b bl bc r (ob (b32 p.sender++b32 p.media))::.blk b5 4 [.bool ok]::.blk b3 42 [.bool false,.int .u8 1,.int .u8 (typK p.kind),.int .u16 0]::.blk b1 63 (pkC p a7 a8 a9 a10 a13 a14 a15 a16 a18 a24 a25 c7 c8 c9 c10 c13 c14 c15 c16 c18 c24 c25)::ex) R,?_,?_⟩
   ·replace H:=H.drew;generalize w.drew=w at H ⊢
    refine ⟨_,_,_,(H.b3.at0 rfl),?_⟩
    refine ⟨fun hc=>?_,fun hc=>?_⟩
    ·rw [decide_eq_true_eq] at hc
     refine ⟨_,_,_,(H.b3.at0 rfl),?_⟩
     refine sSt1 H (by rfl) (by kernel_rfl) (by rfl) (by rfl) ?_;clear H;intro w _ H
     exact ⟨rt,_,rfl,fun h=>by rw [decide_eq_true_eq] at h;omega,H⟩
    ·refine sSt1 H (by rfl) (by kernel_rfl) (by rfl) (by rfl) ?_;clear H;intro w _ H
     exact ⟨rt,false,rfl,(fun h=>(by cases h)),H⟩
   clear H;rintro dd2 b bl bc w ⟨r,ok1,rfl,hok1,H⟩
   refine ⟨_,_,_,(H.b3.at0 rfl),?_⟩
   refine ⟨fun b bl bc x q w=>∃(j:Nat) (r:Option Nat),x=(j:Int)/\j+q=p.pairs.length/\bl=8+4*j/\Sat F w (.own 5 1 b bl bc r (ob (b32 p.sender++b32 p.media++(p.pairs.take j).flatMap wPar))::.blk b5 4 [.bool ok1]::.blk b3 42 [.bool false,.int .u8 1,.int .u8 (typK p.kind),.int .u16 0]::.blk b1 63 (pkC p a7 a8 a9 a10 a13 a14 a15 a16 a18 a24 a25 c7 c8 c9 c10 c13 c14 c15 c16 c18 c24 c25)::ex) R,⟨p.pairs.length,0,r,rfl,by omega,rfl,by rw [List.take_zero,List.flatMap_nil,List.append_nil];exact H⟩,?_⟩
   clear H;rintro dd3 b bl bc x q w ⟨j,r,rfl,hjq,rfl,H⟩
   refine ⟨fun hc=>?_,fun hc=>?_⟩
   ·rw [decide_eq_true_eq] at hc
    have hjl:j < p.pairs.length:=by omega
    obtain ⟨pp,us,e,hus,hcell,H1⟩:=H.eltF Par.dat_lenK (by decide) m14 (j:=j) hjl
    have htk:p.pairs.take (j+1)=p.pairs.take j++[p.pairs[j]]:=by rw [List.take_add_one,List.getElem?_eq_getElem hjl];rfl
    have hRj:=hF.prs p.pairs[j] (List.getElem_mem hjl)
    clear H
    generalize p.pairs[j]=D at H1 htk hRj
    obtain ⟨e0,e1⟩:=D
    refine ⟨pp,e,by omega,by omega,?_⟩
    obtain rfl:=H1.ones (us:=[.int .u16 e0,.int .u16 e1]) ms
    refine ⟨_,_,LdC [.int .u16 e0,.int .u16 e1] (by kernel_rfl) (by rw [show (j:Int).toNat*2=j*2 by omega];exact hcell),?_⟩
    have H:=H1.sub (List.Sublist.refl _) (fun r h=>mt h)
    clear H1 hcell
    refine sNew H ?_;clear H;intro b4 w _ H
    refine sSw0 H rfl (by kernel_rfl) (by rfl) (by rfl) ?_;clear H;intro w _ H
    replace H:=H.r1
    refine ⟨r,?_⟩;replace H:=H.drew;generalize w.drew=w at H ⊢;obtain ⟨F2,ex2,S,back1,back2,hm⟩:=H.regO
    refine ⟨(H.ne (mt ms) ms),H.b1.row,_,(H.b1.at0 rfl),?_⟩
    refine ⟨(H.ne (mt ms) ms),H.b1.row,_,(H.b1.at0 rfl),?_⟩
    clear H;have H:=S;clear S
    refine call_j (c49 H hRj.1 (by omega)) ?_
    clear H;rintro _ w ⟨a5,k5,r5,rfl,H⟩
    refine ⟨_,_,_,rfl,(back1 H).1,?_⟩
    refine call_j (c49 H hRj.2 (by omega)) ?_
    clear H;rintro _ w ⟨a6,k6,r6,rfl,H⟩
    refine ⟨_,_,_,rfl,?_⟩
    replace H:=(back1 H).2;clear back1 back2 hm
    refine ⟨q - 1,by omega,j+1,r6,by rw [wi64_of (by omega) (by omega)];simp,by omega,by omega,?_⟩
    rw [htk,List.flatMap_append]
    simp only [fm1,fm2,fm3]
    rw [List.append_assoc,List.append_assoc] at H
    exact H.dr
   rw [decide_eq_false_iff_not] at hc
   obtain rfl:j=p.pairs.length:=by omega
   rw [List.take_length] at H
   exact ⟨r,_,1,ok1,by rw [List.length_append,flat_bd wPar_len];rfl,H,⟨by decide,by decide⟩,by rw [List.length_append,flat_bd wPar_len];show 8+_<=_;omega,fun h=>fm6 hk hF rfl (hok1 h).1 (hok1 h).2⟩
  ·
   refine ⟨_,(H.b3.at0 rfl),?_⟩
   rw [hk]
   refine ⟨fun b _ w=>b=false/\Sat F w (.own 5 1 ab (0+4+4) kt rt (ob (b32 p.sender++b32 p.media))::.blk b5 4 [.bool true]::.blk b3 42 [.bool false,.int .u8 (cntK p.kind),.int .u8 (typK p.kind),.int .u16 0]::.blk b1 63 (pkC p a7 a8 a9 a10 a13 a14 a15 a16 a18 a24 a25 c7 c8 c9 c10 c13 c14 c15 c16 c18 c24 c25)::ex) R,⟨fun hc=>⟨(absurd hc (by decide)),H⟩,fun hc=>⟨(by decide),H⟩⟩,?_⟩
   clear H;rintro ddj bj w ⟨rfl,H⟩
   refine fF ?_
   refine fF ?_
   refine fF ?_
   refine fF ?_
   refine fF ?_
   refine ⟨fun b _ w=>b=true/\Sat F w (.own 5 1 ab (0+4+4) kt rt (ob (b32 p.sender++b32 p.media))::.blk b5 4 [.bool true]::.blk b3 42 [.bool false,.int .u8 (cntK p.kind),.int .u8 (typK p.kind),.int .u16 0]::.blk b1 63 (pkC p a7 a8 a9 a10 a13 a14 a15 a16 a18 a24 a25 c7 c8 c9 c10 c13 c14 c15 c16 c18 c24 c25)::ex) R,⟨fun hc=>⟨(by decide),H⟩,fun hc=>⟨(absurd hc (by decide)),H⟩⟩,?_⟩
   clear H;rintro ddj bj w ⟨rfl,H⟩
   refine fT ?_
   rw [show cntK p.kind=5 by rw [hk];rfl] at H
   exact ⟨rt,b32 p.sender++b32 p.media,5,true,rfl,H,⟨by decide,by decide⟩,by show 8<=24*p.size+40;omega,fun _=>fm7 hk hF rfl⟩
  ·
   replace H:=H.d1
   refine ⟨_,(H.b2.at0 rfl),?_⟩
   rw [hk]
   refine ⟨fun b _ w=>b=false/\Sat F w (.blk b5 4 [.bool true]::.blk b3 42 [.bool false,.int .u8 (cntK p.kind),.int .u8 (typK p.kind),.int .u16 0]::.blk b1 63 (pkC p a7 a8 a9 a10 a13 a14 a15 a16 a18 a24 a25 c7 c8 c9 c10 c13 c14 c15 c16 c18 c24 c25)::ex) R,⟨fun hc=>⟨(absurd hc (by decide)),H⟩,fun hc=>⟨(by decide),H⟩⟩,?_⟩
   clear H;rintro ddj bj w ⟨rfl,H⟩
   refine fF ?_
   refine fF ?_
   refine fF ?_
   refine fF ?_
   refine fF ?_
   refine ⟨fun b _ w=>b=false/\Sat F w (.blk b5 4 [.bool true]::.blk b3 42 [.bool false,.int .u8 (cntK p.kind),.int .u8 (typK p.kind),.int .u16 0]::.blk b1 63 (pkC p a7 a8 a9 a10 a13 a14 a15 a16 a18 a24 a25 c7 c8 c9 c10 c13 c14 c15 c16 c18 c24 c25)::ex) R,⟨fun hc=>⟨(absurd hc (by decide)),H⟩,fun hc=>⟨(by decide),H⟩⟩,?_⟩
   clear H;rintro ddj bj w ⟨rfl,H⟩
   refine fF ?_
   refine fF ?_
   refine fF ?_
   refine fF ?_
   refine fT ?_
   rw [show cntK p.kind=11 by rw [hk];rfl] at H
   have hsz:=hF.sz (by omega)
   unfold Pk.size at hsz
   have hcl:=bsz_len p.blocks
   have hcm:=bsz_mem p.blocks
   have hbl:=wBlo_le p.blocks
   refine ⟨none,?_⟩;replace H:=H.drew;generalize w.drew=w at H ⊢;obtain ⟨F2,ex2,S,back1,back2,hm⟩:=H.regN
   refine ⟨nn,H.b2.row,_,(H.b2.at0 rfl),?_⟩
   refine ⟨nn,H.b2.row,_,_,_,(H.b2.at0 rfl),?_⟩
   clear H;have H:=S;clear S
   refine call_j (c112 (B:=[]) (H.nilOwn 5 1) hF.s (by omega)) ?_
   clear H;rintro _ w ⟨a3,k3,r3,rfl,H⟩
   refine ⟨_,_,_,rfl,(back1 H).1,?_⟩
   replace H:=(back1 H).2;clear back1 back2 hm
   rw [List.nil_append] at H
   refine sSt1 H (by rfl) (by kernel_rfl) (by rfl) (by rfl) ?_;clear H;intro w _ H
   have hg:decide (((p.blocks.length:Nat):Int) > (0:Int))=true->p.blocks≠[]:=fun h e=>by rw [e] at h;exact absurd h (by decide)
   generalize decide (((p.blocks.length:Nat):Int) > (0:Int))=ok0 at H hg
   refine ⟨_,_,_,(H.b3.at0 rfl),?_⟩
   refine ⟨fun b bl bc x q w=>∃(j:Nat) (r:Option Nat) (ok:Bool) (B:List Int),x=(j:Int)/\j+q=p.blocks.length/\bl=B.length/\B.length=4+((p.blocks.take j).flatMap wBlo).length/\(ok=true->(ok0=true/\B=b32 p.sender++(p.blocks.take j).flatMap wBlo)/\∀y∈p.blocks.take j,y.2.2.length<=16384/\∀m∈y.2.2,m.2.1 < 4/\m.2.2 < 8192/\MetF m)/\Sat F w (.own 5 1 b bl bc r (ob (B))::.blk b5 4 [.bool ok]::.blk b3 42 [.bool false,.int .u8 11,.int .u8 (typK p.kind),.int .u16 0]::.blk b1 63 (pkC p a7 a8 a9 a10 a13 a14 a15 a16 a18 a24 a25 c7 c8 c9 c10 c13 c14 c15 c16 c18 c24 c25)::ex) R,⟨p.blocks.length,0,r3,ok0,b32 p.sender,rfl,by omega,rfl,by rw [List.take_zero,List.flatMap_nil];rfl,fun h=>⟨⟨h,by simp⟩,by simp⟩,H⟩,?_⟩
   clear H;rintro dd3 b bl bc x q w ⟨j,r,ok,B,rfl,hjq,rfl,hBl,hok,H⟩
   refine ⟨fun hc=>?_,fun hc=>?_⟩
   ·rw [decide_eq_true_eq] at hc
    have hjl:j < p.blocks.length:=by omega
    obtain ⟨pp,us,e,hus,hcell,H1⟩:=H.eltF Blo.dat_len' (by decide) m18 (j:=j) hjl
    have htk:p.blocks.take (j+1)=p.blocks.take j++[p.blocks[j]]:=by rw [List.take_add_one,List.getElem?_eq_getElem hjl];rfl
    have hRj:=hF.bls p.blocks[j] (List.getElem_mem hjl)
    have hDm:=hcm p.blocks[j] (List.getElem_mem hjl)
    have hpre:=pre_le wBlo hjl
    rw [wBlo_len] at hpre
    clear H
    generalize p.blocks[j]=D at H1 htk hRj hDm hpre
    obtain ⟨d0,d1,msz⟩:=D
    replace hDm:msz.length<=bsz p.blocks:=hDm
    replace hpre:((p.blocks.take j).flatMap wBlo).length+bLen msz.length<=(p.blocks.flatMap wBlo).length:=hpre
    have hbL:bLen msz.length=8+2*(msz.length+msz.length % 2):=rfl
    obtain ⟨h0,h1,hms⟩:u32R d0/\(0<=d1/\d1 < 65536)/\∀m∈msz,(0<=m.2.1/\m.2.1 < 256)/\0<=m.2.2/\m.2.2 < 65536:=hRj
    refine ⟨pp,e,by omega,by omega,?_⟩
    obtain ⟨x0,us0,rfl,H2⟩:=H1.uncons ms
    obtain ⟨x1,us1,rfl,H3⟩:=H2.uncons (mt ms)
    obtain ⟨x2,us2,rfl,H4⟩:=H3.uncons (mt ms)
    obtain rfl:us2=[]:=by simpa using hus
    obtain rfl:=H2.one1 ms
    obtain rfl:=H3.one1 ms
    obtain ⟨sa,sn,sc,rfl,hsl⟩:=H4.rowS ms
    rw [flat_len Met.dat_len'] at hsl
    obtain rfl:sn=msz.length:=by omega
    refine ⟨_,_,_,_,_,LdC [.int .u32 d0,.int .u16 d1,.slice sa msz.length sc] (by kernel_rfl) (by rw [show (j:Int).toNat*3=j*3 by omega];exact hcell),?_⟩
    have H:Sat F w _ (.deep [.row 3 (msz.flatMap Met.dat)] [.slice sa msz.length sc]::R):=H4.sub (List.Sublist.refl _) (fun r h=>by rcases List.mem_cons.1 h with rfl | h;exact ms;simp [h])
    clear H1 H2 H3 H4 hcell
    refine sNew H ?_;clear H;intro b4 w _ H
    refine sSw0 H rfl (by kernel_rfl) (by rfl) (by rfl) ?_;clear H;intro w _ H
    refine ⟨fun _ w=>∃ok2:Bool,(ok2=true->ok=true/\msz.length<=16384)/\Sat F w (.blk b4 158 [.int .u32 d0,.int .u16 d1,.slice sa msz.length sc]::.own 5 1 b B.length bc r (ob (B))::.blk b5 4 [.bool ok2]::.blk b3 42 [.bool false,.int .u8 11,.int .u8 (typK p.kind),.int .u16 0]::.blk b1 63 (pkC p a7 a8 a9 a10 a13 a14 a15 a16 a18 a24 a25 c7 c8 c9 c10 c13 c14 c15 c16 c18 c24 c25)::ex) (.deep [.row 3 (msz.flatMap Met.dat)] [.slice sa msz.length sc]::R),?_,?_⟩
    ·refine ⟨_,(by exact Ce (by rfl) H.b2 rfl),?_⟩
     refine ⟨fun h2=>?_,fun h2=>?_⟩
     ·refine ⟨_,_,_,(H.b0.at0 rfl),?_⟩
      refine sSt2 H (by rfl) (by kernel_rfl) (by rfl) (by rfl) ?_;clear H;intro w _ H
      exact ⟨decide (((msz.length:Nat):Int)<=(16384:Int)),fun h=>⟨h2,by rw [decide_eq_true_eq] at h;omega⟩,H⟩
     ·refine sSt2 H (by rfl) (by kernel_rfl) (by rfl) (by rfl) ?_;clear H;intro w _ H
      exact ⟨false,(fun h=>(by cases h)),H⟩
    clear H;rintro dd4 w ⟨ok2,hok2,H⟩
    have w1:IntKind.u16.wrap ((msz.length:Nat):Int)=((msz.length % 65536:Nat):Int):=by rw [wu16];omega
    replace H:=H.r1
    refine ⟨r,?_⟩;replace H:=H.drew;generalize w.drew=w at H ⊢;obtain ⟨F2,ex2,S,back1,back2,hm⟩:=H.regO
    refine ⟨(H.ne (mt ms) ms),H.b1.row,_,(H.b1.at0 rfl),?_⟩
    refine ⟨(H.ne (mt ms) ms),H.b1.row,_,(H.b1.at0 rfl),?_⟩
    refine ⟨(H.ne (mt ms) ms),H.b1.row,_,_,_,(H.b1.at0 rfl),?_⟩
    clear H;have H:=S;clear S
    rw [w1]
    refine call_j (c112 H h0 (by omega)) ?_
    clear H;rintro _ w ⟨a4,k4,r4,rfl,H⟩
    refine ⟨_,_,_,rfl,(back1 H).1,?_⟩
    refine call_j (c49 H h1 (by omega)) ?_
    clear H;rintro _ w ⟨a5,k5,r5,rfl,H⟩
    refine ⟨_,_,_,rfl,(back1 H).1,?_⟩
    refine call_j (c49 H (by omega) (by omega)) ?_
    clear H;rintro _ w ⟨a6,k6,r6,rfl,H⟩
    refine ⟨_,_,_,rfl,?_⟩
    replace H:=(back1 H).2;clear back1 back2 hm
    obtain ⟨B0,hB0⟩:∃B0,B0=B++b32 d0++b16 d1++b16 ((msz.length % 65536:Nat):Int):=⟨_,rfl⟩
    rw [<-hB0] at H
    have hB0l:B0.length=B.length+8:=by rw [hB0];simp only [List.length_append,b32_len,b16_len]
    refine ⟨_,_,_,(H.b1.at0 rfl),?_⟩
    refine ⟨fun b' bl' bc' x' q' w=>∃(i:Nat) (r':Option Nat) (ok3:Bool) (X:List Int),x'=(i:Int)/\i+q'=msz.length/\bl'=(B0++X).length/\X.length=2*i/\(ok3=true->ok2=true/\X=(msz.take i).flatMap wMet/\∀m∈msz.take i,m.2.1 < 4/\m.2.2 < 8192/\MetF m)/\Sat F w (.own 5 1 b' bl' bc' r' (ob (B0++X))::.blk b4 158 [.int .u32 d0,.int .u16 d1,.slice sa msz.length sc]::.blk b5 4 [.bool ok3]::.blk b3 42 [.bool false,.int .u8 11,.int .u8 (typK p.kind),.int .u16 0]::.blk b1 63 (pkC p a7 a8 a9 a10 a13 a14 a15 a16 a18 a24 a25 c7 c8 c9 c10 c13 c14 c15 c16 c18 c24 c25)::ex) (.deep [.row 3 (msz.flatMap Met.dat)] [.slice sa msz.length sc]::R),⟨msz.length,0,r6,ok2,[],rfl,by omega,by rw [List.append_nil,hB0l],rfl,fun h=>⟨h,by simp,by simp⟩,by rw [List.append_nil];exact H⟩,?_⟩
    clear H;rintro dd5 b' bl' bc' x' q' w ⟨i,r',ok3,X,rfl,hiq,hbl',hXl,hok3,H⟩
    have hbl2:bl'=B0.length+X.length:=by rw [hbl',List.length_append]
    refine ⟨fun hc2=>?_,fun hc2=>?_⟩
    ·rw [decide_eq_true_eq] at hc2
     have hil:i < msz.length:=by omega
     obtain ⟨p2,us,e2',hus2,hcell,H1⟩:=H.eltF Met.dat_len' (by decide) ms (j:=i) hil
     have htk2:msz.take (i+1)=msz.take i++[msz[i]]:=by rw [List.take_add_one,List.getElem?_eq_getElem hil];rfl
     have hEj:=hms msz[i] (List.getElem_mem hil)
     clear H
     generalize msz[i]=E at H1 htk2 hEj
     obtain ⟨e0,e1,e2⟩:=E
     refine ⟨p2,e2',by omega,by omega,?_⟩
     obtain rfl:=H1.ones (us:=[.bool e0,.int .u8 e1,.int .u16 e2]) ms
     refine ⟨_,_,_,LdC [.bool e0,.int .u8 e1,.int .u16 e2] (by kernel_rfl) (by rw [show (i:Int).toNat*3=i*3 by omega];exact hcell),?_⟩
     have H:=H1.sub (List.Sublist.refl _) (fun r h=>mt h)
     clear H1 hcell
     refine sNew H ?_;clear H;intro b7 w _ H
     refine sSw0 H rfl (by kernel_rfl) (by rfl) (by rfl) ?_;clear H;intro w _ H
     refine ⟨fun _ w=>∃ok4:Bool,(ok4=true->ok3=true/\e1 < 4/\e2 < 8192/\MetF (e0,e1,e2))/\Sat F w (.blk b7 160 [.bool e0,.int .u8 e1,.int .u16 e2]::.own 5 1 b' bl' bc' r' (ob (B0++X))::.blk b4 158 [.int .u32 d0,.int .u16 d1,.slice sa msz.length sc]::.blk b5 4 [.bool ok4]::.blk b3 42 [.bool false,.int .u8 11,.int .u8 (typK p.kind),.int .u16 0]::.blk b1 63 (pkC p a7 a8 a9 a10 a13 a14 a15 a16 a18 a24 a25 c7 c8 c9 c10 c13 c14 c15 c16 c18 c24 c25)::ex) (.deep [.row 3 (msz.flatMap Met.dat)] [.slice sa msz.length sc]::R),?_,?_⟩
     ·refine ⟨_,(by exact Ce (by rfl) H.b3 rfl),?_⟩
      refine ⟨fun h2=>?_,fun h2=>?_⟩
      ·refine ⟨_,(H.b0.at0 rfl),?_⟩
       refine ⟨fun h3=>?_,fun h3=>?_⟩
       ·refine ⟨_,(H.b0.at0 rfl),?_⟩
        refine ⟨fun h4=>?_,fun h4=>?_⟩
        ·rw [decide_eq_true_eq] at h3 h4
         refine ⟨_,(H.b0.at0 rfl),?_⟩
         refine ⟨fun h5=>?_,fun h5=>?_⟩
         ·refine sSt3 H (by rfl) (by kernel_rfl) (by rfl) (by rfl) ?_;clear H;intro w _ H
          exact ⟨true,fun _=>⟨h2,h3,h4,Or.inl h5⟩,H⟩
         ·refine ⟨_,(H.b0.at0 rfl),?_⟩
          refine ⟨fun h6=>?_,fun h6=>?_⟩
          ·refine ⟨_,(H.b0.at0 rfl),?_⟩
           refine sSt3 H (by rfl) (by kernel_rfl) (by rfl) (by rfl) ?_;clear H;intro w _ H
           exact ⟨e2 == (0:Int),fun h=>⟨h2,h3,h4,Or.inr ⟨by simpa using h6,by simpa using h⟩⟩,H⟩
          ·refine sSt3 H (by rfl) (by kernel_rfl) (by rfl) (by rfl) ?_;clear H;intro w _ H
           exact ⟨false,(fun h=>(by cases h)),H⟩
        ·refine sSt3 H (by rfl) (by kernel_rfl) (by rfl) (by rfl) ?_;clear H;intro w _ H
         exact ⟨false,(fun h=>(by cases h)),H⟩
       ·refine sSt3 H (by rfl) (by kernel_rfl) (by rfl) (by rfl) ?_;clear H;intro w _ H
        exact ⟨false,(fun h=>(by cases h)),H⟩
      ·refine sSt3 H (by rfl) (by kernel_rfl) (by rfl) (by rfl) ?_;clear H;intro w _ H
       exact ⟨false,(fun h=>(by cases h)),H⟩
     clear H;rintro dd6 w ⟨ok4,hok4,H⟩
     refine ⟨_,(H.b0.at0 rfl),?_⟩
     refine ⟨_,(H.b0.at0 rfl),?_⟩
     refine ⟨_,(H.b0.at0 rfl),?_⟩
     refine ⟨fun he=>?_,fun he=>?_⟩
     ·
      have ev:ok4=true->ior .u16 (ior .u16 (ishl .u16 (IntKind.u16.wrap e1) (13:Int)) e2) (32768:Int)=metN (e0,e1,e2):=by
       intro h
       obtain ⟨_,h1,h2,_⟩:=hok4 h
       rw [he]
       exact met_t ⟨hEj.1.1,h1⟩ ⟨hEj.2.1,h2⟩
      have hvr:0<=ior .u16 (ior .u16 (ishl .u16 (IntKind.u16.wrap e1) (13:Int)) e2) (32768:Int)/\ior .u16 (ior .u16 (ishl .u16 (IntKind.u16.wrap e1) (13:Int)) e2) (32768:Int) < 65536:=ior_u16 _ _
      generalize ior .u16 (ior .u16 (ishl .u16 (IntKind.u16.wrap e1) (13:Int)) e2) (32768:Int)=V at ev hvr ⊢
      replace H:=H.r1
      refine call_j (c49 H hvr (by omega)) ?_
      clear H;rintro _ w ⟨a6,k6,r6,rfl,H⟩
      refine ⟨_,_,_,rfl,?_⟩
      rw [List.append_assoc] at H
      refine ⟨q' - 1,by omega,i+1,r6,ok4,X++b16 V,by rw [wi64_of (by omega) (by omega)];simp,by omega,by rw [hbl',List.length_append,List.length_append,List.length_append,b16_len];omega,by rw [List.length_append,b16_len];omega,fun h=>?_,H.dr⟩
      obtain ⟨h0,h1⟩:=hok4 h
      obtain ⟨h2,h3,h4⟩:=hok3 h0
      refine ⟨h2,?_,?_⟩
      ·rw [h3,htk2,List.flatMap_append,ev h]
       simp only [fm1,fm2,fm3]
       rfl
      ·rw [htk2]
       intro y hy
       rcases List.mem_append.1 hy with hy | hy
       ·exact h4 y hy
       ·rw [List.mem_singleton.1 hy];exact h1

     ·
      have ev:ok4=true->ior .u16 (ishl .u16 (IntKind.u16.wrap e1) (13:Int)) e2=metN (e0,e1,e2):=by
       intro h
       obtain ⟨_,h1,h2,_⟩:=hok4 h
       rw [he]
       exact met_f ⟨hEj.1.1,h1⟩ ⟨hEj.2.1,h2⟩
      have hvr:0<=ior .u16 (ishl .u16 (IntKind.u16.wrap e1) (13:Int)) e2/\ior .u16 (ishl .u16 (IntKind.u16.wrap e1) (13:Int)) e2 < 65536:=ior_u16 _ _
      generalize ior .u16 (ishl .u16 (IntKind.u16.wrap e1) (13:Int)) e2=V at ev hvr ⊢
      replace H:=H.r1
      refine call_j (c49 H hvr (by omega)) ?_
      clear H;rintro _ w ⟨a6,k6,r6,rfl,H⟩
      refine ⟨_,_,_,rfl,?_⟩
      rw [List.append_assoc] at H
      refine ⟨q' - 1,by omega,i+1,r6,ok4,X++b16 V,by rw [wi64_of (by omega) (by omega)];simp,by omega,by rw [hbl',List.length_append,List.length_append,List.length_append,b16_len];omega,by rw [List.length_append,b16_len];omega,fun h=>?_,H.dr⟩
      obtain ⟨h0,h1⟩:=hok4 h
      obtain ⟨h2,h3,h4⟩:=hok3 h0
      refine ⟨h2,?_,?_⟩
      ·rw [h3,htk2,List.flatMap_append,ev h]
       simp only [fm1,fm2,fm3]
       rfl
      ·rw [htk2]
       intro y hy
       rcases List.mem_append.1 hy with hy | hy
       ·exact h4 y hy
       ·rw [List.mem_singleton.1 hy];exact h1

    rw [decide_eq_false_iff_not] at hc2
    obtain rfl:i=msz.length:=by omega
    rw [List.take_length] at hok3
    refine call_j (c114 H (by omega)) ?_
    clear H;rintro _ w ⟨a8,k8,r8,rfl,H⟩
    refine ⟨_,_,_,rfl,?_⟩
    have h4:=wBlo_4 (p.blocks.take j)
    have hpad:pad4 bl'=2*(msz.length % 2):=by unfold pad4;omega
    have hl:bl'+pad4 bl'=(B0++X++List.replicate (pad4 bl') 0).length:=by rw [List.length_append,List.length_append,List.length_replicate];omega
    refine ⟨q - 1,by omega,j+1,r8,ok3,_,by rw [wi64_of (by omega) (by omega)];simp,by omega,hl,?_,fun h=>?_,H.ds (fun r h=>mt h)⟩
    ·rw [<-hl,htk,List.flatMap_append,List.length_append]
     simp only [fm1,fm2,fm3]
     rw [wBlo_len]
     show _=4+(_+bLen msz.length)
     omega
    ·obtain ⟨h2,h3,h5⟩:=hok3 h
     obtain ⟨h6,h7⟩:=hok2 h2
     obtain ⟨⟨h00,h8⟩,h9⟩:=hok h6
     refine ⟨⟨h00,?_⟩,?_⟩
     ·rw [hpad,hB0,h8,h3,htk,List.flatMap_append,Nat.mod_eq_of_lt (show msz.length < 65536 by omega)]
      simp only [List.flatMap_cons,List.flatMap_nil,List.append_nil,wBlo,List.append_assoc]
     ·rw [htk]
      intro y hy
      rcases List.mem_append.1 hy with hy | hy
      ·exact h9 y hy
      ·rw [List.mem_singleton.1 hy];exact ⟨h7,h5⟩
   rw [decide_eq_false_iff_not] at hc
   obtain rfl:j=p.blocks.length:=by omega
   rw [List.take_length] at hBl hok
   refine ⟨_,(H.b3.at0 rfl),?_⟩
   refine call_j (c112 H hF.tim (by omega)) ?_
   clear H;rintro _ w ⟨a8,k8,r8,rfl,H⟩
   refine ⟨_,_,_,rfl,?_⟩
   exact ⟨r8,B++b32 p.time,11,ok,by rw [List.length_append];rfl,H,⟨by decide,by decide⟩,by rw [List.length_append,b32_len];omega,fun h=>fm8 hk hF (by rw [(hok h).1.2]) (hg (hok h).1.1) (hok h).2⟩
  ·
   refine ⟨_,(H.b3.at0 rfl),?_⟩
   rw [hk]
   refine ⟨fun b _ w=>b=false/\Sat F w (.own 5 1 ab (0+4+4) kt rt (ob (b32 p.sender++b32 p.media))::.blk b5 4 [.bool true]::.blk b3 42 [.bool false,.int .u8 (cntK p.kind),.int .u8 (typK p.kind),.int .u16 0]::.blk b1 63 (pkC p a7 a8 a9 a10 a13 a14 a15 a16 a18 a24 a25 c7 c8 c9 c10 c13 c14 c15 c16 c18 c24 c25)::ex) R,⟨fun hc=>⟨(absurd hc (by decide)),H⟩,fun hc=>⟨(by decide),H⟩⟩,?_⟩
   clear H;rintro ddj bj w ⟨rfl,H⟩
   refine fF ?_
   refine fF ?_
   refine fF ?_
   refine fF ?_
   refine fF ?_
   refine ⟨fun b _ w=>b=true/\Sat F w (.own 5 1 ab (0+4+4) kt rt (ob (b32 p.sender++b32 p.media))::.blk b5 4 [.bool true]::.blk b3 42 [.bool false,.int .u8 (cntK p.kind),.int .u8 (typK p.kind),.int .u16 0]::.blk b1 63 (pkC p a7 a8 a9 a10 a13 a14 a15 a16 a18 a24 a25 c7 c8 c9 c10 c13 c14 c15 c16 c18 c24 c25)::ex) R,⟨fun hc=>⟨(absurd hc (by decide)),H⟩,fun hc=>⟨(by decide),H⟩⟩,?_⟩
   clear H;rintro ddj bj w ⟨rfl,H⟩
   refine fT ?_
   rw [show cntK p.kind=1 by rw [hk];rfl] at H
   exact ⟨rt,b32 p.sender++b32 p.media,1,true,rfl,H,⟨by decide,by decide⟩,by show 8<=24*p.size+40;omega,fun _=>fm9 hk hF rfl⟩
  ·
   refine ⟨_,(H.b3.at0 rfl),?_⟩
   rw [hk]
   refine ⟨fun b _ w=>b=false/\Sat F w (.own 5 1 ab (0+4+4) kt rt (ob (b32 p.sender++b32 p.media))::.blk b5 4 [.bool true]::.blk b3 42 [.bool false,.int .u8 (cntK p.kind),.int .u8 (typK p.kind),.int .u16 0]::.blk b1 63 (pkC p a7 a8 a9 a10 a13 a14 a15 a16 a18 a24 a25 c7 c8 c9 c10 c13 c14 c15 c16 c18 c24 c25)::ex) R,⟨fun hc=>⟨(absurd hc (by decide)),H⟩,fun hc=>⟨(by decide),H⟩⟩,?_⟩
   clear H;rintro ddj bj w ⟨rfl,H⟩
   refine fF ?_
   refine fF ?_
   refine fF ?_
   refine fF ?_
   refine fF ?_
   refine ⟨fun b _ w=>b=false/\Sat F w (.own 5 1 ab (0+4+4) kt rt (ob (b32 p.sender++b32 p.media))::.blk b5 4 [.bool true]::.blk b3 42 [.bool false,.int .u8 (cntK p.kind),.int .u8 (typK p.kind),.int .u16 0]::.blk b1 63 (pkC p a7 a8 a9 a10 a13 a14 a15 a16 a18 a24 a25 c7 c8 c9 c10 c13 c14 c15 c16 c18 c24 c25)::ex) R,⟨fun hc=>⟨(absurd hc (by decide)),H⟩,fun hc=>⟨(by decide),H⟩⟩,?_⟩
   clear H;rintro ddj bj w ⟨rfl,H⟩
   refine fF ?_
   refine fT ?_
   rw [show cntK p.kind=2 by rw [hk];rfl] at H
   have hsz:=hF.sz (by omega)
   unfold Pk.size at hsz
   refine ⟨fun b bl bc _ w=>∃(r:Option Nat) (ok:Bool),bl=8/\(ok=true->0 < p.slices.length/\p.slices.length<=253)/\Sat F w (.own 5 1 b bl bc r (ob (b32 p.sender++b32 p.media))::.blk b5 4 [.bool ok]::.blk b3 42 [.bool false,.int .u8 2,.int .u8 (typK p.kind),.int .u16 0]::.blk b1 63 (pkC p a7 a8 a9 a10 a13 a14 a15 a16 a18 a24 a25 c7 c8 c9 c10 c13 c14 c15 c16 c18 c24 c25)::ex) R,?_,?_⟩
   ·replace H:=H.drew;generalize w.drew=w at H ⊢
    refine ⟨_,_,_,(H.b3.at0 rfl),?_⟩
    refine ⟨fun hc=>?_,fun hc=>?_⟩
    ·rw [decide_eq_true_eq] at hc
     refine ⟨_,_,_,(H.b3.at0 rfl),?_⟩
     refine sSt1 H (by rfl) (by kernel_rfl) (by rfl) (by rfl) ?_;clear H;intro w _ H
     exact ⟨rt,_,rfl,fun h=>by rw [decide_eq_true_eq] at h;omega,H⟩
    ·refine sSt1 H (by rfl) (by kernel_rfl) (by rfl) (by rfl) ?_;clear H;intro w _ H
     exact ⟨rt,false,rfl,(fun h=>(by cases h)),H⟩
   clear H;rintro dd2 b bl bc w ⟨r,ok1,rfl,hok1,H⟩
   refine ⟨_,_,_,(H.b3.at0 rfl),?_⟩
   refine ⟨fun b bl bc x q w=>∃(j:Nat) (r:Option Nat) (ok:Bool) (B:List Int),x=(j:Int)/\j+q=p.slices.length/\bl=B.length/\B.length=8+4*j/\(ok=true->ok1=true/\B=b32 p.sender++b32 p.media++(p.slices.take j).flatMap wSli/\∀x∈p.slices.take j,x.1 < 8192/\x.2.1 < 8192/\x.2.2 < 64)/\Sat F w (.own 5 1 b bl bc r (ob (B))::.blk b5 4 [.bool ok]::.blk b3 42 [.bool false,.int .u8 2,.int .u8 (typK p.kind),.int .u16 0]::.blk b1 63 (pkC p a7 a8 a9 a10 a13 a14 a15 a16 a18 a24 a25 c7 c8 c9 c10 c13 c14 c15 c16 c18 c24 c25)::ex) R,⟨p.slices.length,0,r,ok1,b32 p.sender++b32 p.media,rfl,by omega,rfl,rfl,fun h=>⟨h,by simp,by simp⟩,H⟩,?_⟩
   clear H;rintro dd3 b bl bc x q w ⟨j,r,ok,B,rfl,hjq,rfl,hBl,hok,H⟩
   refine ⟨fun hc=>?_,fun hc=>?_⟩
   ·rw [decide_eq_true_eq] at hc
    have hjl:j < p.slices.length:=by omega
    obtain ⟨pp,us,e,hus,hcell,H1⟩:=H.eltF Sli.dat_lenK (by decide) m15 (j:=j) hjl
    have htk:p.slices.take (j+1)=p.slices.take j++[p.slices[j]]:=by rw [List.take_add_one,List.getElem?_eq_getElem hjl];rfl
    have hRj:=hF.sls p.slices[j] (List.getElem_mem hjl)
    clear H
    generalize p.slices[j]=D at H1 htk hRj
    obtain ⟨e0,e1,e2⟩:=D
    refine ⟨pp,e,by omega,by omega,?_⟩
    obtain rfl:=H1.ones (us:=[.int .u16 e0,.int .u16 e1,.int .u8 e2]) ms
    refine ⟨_,_,_,LdC [.int .u16 e0,.int .u16 e1,.int .u8 e2] (by kernel_rfl) (by rw [show (j:Int).toNat*3=j*3 by omega];exact hcell),?_⟩
    have H:=H1.sub (List.Sublist.refl _) (fun r h=>mt h)
    clear H1 hcell
    refine sNew H ?_;clear H;intro b4 w _ H
    refine sSw0 H rfl (by kernel_rfl) (by rfl) (by rfl) ?_;clear H;intro w _ H
    refine ⟨fun _ w=>∃ok2:Bool,(ok2=true->ok=true/\e0 < 8192/\e1 < 8192/\e2 < 64)/\Sat F w (.blk b4 153 [.int .u16 e0,.int .u16 e1,.int .u8 e2]::.own 5 1 b B.length bc r (ob (B))::.blk b5 4 [.bool ok2]::.blk b3 42 [.bool false,.int .u8 2,.int .u8 (typK p.kind),.int .u16 0]::.blk b1 63 (pkC p a7 a8 a9 a10 a13 a14 a15 a16 a18 a24 a25 c7 c8 c9 c10 c13 c14 c15 c16 c18 c24 c25)::ex) R,?_,?_⟩
    ·refine ⟨_,(by exact Ce (by rfl) H.b2 rfl),?_⟩
     refine ⟨fun h1=>?_,fun h1=>?_⟩
     ·refine ⟨_,(H.b0.at0 rfl),?_⟩
      refine ⟨fun h2=>?_,fun h2=>?_⟩
      ·refine ⟨_,(H.b0.at0 rfl),?_⟩
       refine ⟨fun h3=>?_,fun h3=>?_⟩
       ·refine ⟨_,(H.b0.at0 rfl),?_⟩
        refine sSt2 H (by rfl) (by kernel_rfl) (by rfl) (by rfl) ?_;clear H;intro w _ H
        exact ⟨_,fun h=>⟨h1,by rw [decide_eq_true_eq] at h2;exact h2,by rw [decide_eq_true_eq] at h3;exact h3,by rw [decide_eq_true_eq] at h;exact h⟩,H⟩
       ·refine sSt2 H (by rfl) (by kernel_rfl) (by rfl) (by rfl) ?_;clear H;intro w _ H
        exact ⟨false,(fun h=>(by cases h)),H⟩
      ·refine sSt2 H (by rfl) (by kernel_rfl) (by rfl) (by rfl) ?_;clear H;intro w _ H
       exact ⟨false,(fun h=>(by cases h)),H⟩
     ·refine sSt2 H (by rfl) (by kernel_rfl) (by rfl) (by rfl) ?_;clear H;intro w _ H
      exact ⟨false,(fun h=>(by cases h)),H⟩
    clear H;rintro dd4 w ⟨ok2,hok2,H⟩
    refine ⟨_,(H.b0.at0 rfl),?_⟩
    refine ⟨_,(H.b0.at0 rfl),?_⟩
    refine ⟨_,(H.b0.at0 rfl),?_⟩
    have ev:ok2=true->ior .u32 (ior .u32 (ishl .u32 (IntKind.u32.wrap e0) (19:Int)) (ishl .u32 (IntKind.u32.wrap e1) (6:Int))) (IntKind.u32.wrap e2)=e0*524288+e1*64+e2:=by
     intro h
     obtain ⟨_,h0,h1,h2⟩:=hok2 h
     exact sli_w ⟨hRj.1.1,h0⟩ ⟨hRj.2.1.1,h1⟩ ⟨hRj.2.2.1,h2⟩
    have hvr:=ior_u32 (ior .u32 (ishl .u32 (IntKind.u32.wrap e0) (19:Int)) (ishl .u32 (IntKind.u32.wrap e1) (6:Int))) (IntKind.u32.wrap e2)
    generalize ior .u32 (ior .u32 (ishl .u32 (IntKind.u32.wrap e0) (19:Int)) (ishl .u32 (IntKind.u32.wrap e1) (6:Int))) (IntKind.u32.wrap e2)=V at ev hvr ⊢
    replace H:=H.r1
    refine call_j (c112 H hvr (by omega)) ?_
    clear H;rintro _ w ⟨a6,k6,r6,rfl,H⟩
    refine ⟨_,_,_,rfl,?_⟩
    refine ⟨q - 1,by omega,j+1,r6,ok2,B++b32 V,by rw [wi64_of (by omega) (by omega)];simp,by omega,by rw [List.length_append];rfl,by rw [List.length_append,b32_len];omega,fun h=>?_,H.dr⟩
    obtain ⟨h0,h1⟩:=hok2 h
    obtain ⟨h2,h3,h4⟩:=hok h0
    refine ⟨h2,?_,?_⟩
    ·rw [h3,htk,List.flatMap_append,ev h,List.append_assoc]
     simp only [fm1,fm2,fm3]
     rfl
    ·rw [htk]
     intro y hy
     rcases List.mem_append.1 hy with hy | hy
     ·exact h4 y hy
     ·rw [List.mem_singleton.1 hy];exact h1
   rw [decide_eq_false_iff_not] at hc
   obtain rfl:j=p.slices.length:=by omega
   rw [List.take_length] at hok
   exact ⟨r,B,2,ok,rfl,H,⟨by decide,by decide⟩,by omega,fun h=>fm10 hk hF (hok h).2.1 (hok1 (hok h).1).1 (hok1 (hok h).1).2 (hok h).2.2⟩
  ·
   refine ⟨_,(H.b3.at0 rfl),?_⟩
   rw [hk]
   refine ⟨fun b _ w=>b=false/\Sat F w (.own 5 1 ab (0+4+4) kt rt (ob (b32 p.sender++b32 p.media))::.blk b5 4 [.bool true]::.blk b3 42 [.bool false,.int .u8 (cntK p.kind),.int .u8 (typK p.kind),.int .u16 0]::.blk b1 63 (pkC p a7 a8 a9 a10 a13 a14 a15 a16 a18 a24 a25 c7 c8 c9 c10 c13 c14 c15 c16 c18 c24 c25)::ex) R,⟨fun hc=>⟨(absurd hc (by decide)),H⟩,fun hc=>⟨(by decide),H⟩⟩,?_⟩
   clear H;rintro ddj bj w ⟨rfl,H⟩
   refine fF ?_
   refine fF ?_
   refine fF ?_
   refine fF ?_
   refine fF ?_
   refine ⟨fun b _ w=>b=false/\Sat F w (.own 5 1 ab (0+4+4) kt rt (ob (b32 p.sender++b32 p.media))::.blk b5 4 [.bool true]::.blk b3 42 [.bool false,.int .u8 (cntK p.kind),.int .u8 (typK p.kind),.int .u16 0]::.blk b1 63 (pkC p a7 a8 a9 a10 a13 a14 a15 a16 a18 a24 a25 c7 c8 c9 c10 c13 c14 c15 c16 c18 c24 c25)::ex) R,⟨fun hc=>⟨(absurd hc (by decide)),H⟩,fun hc=>⟨(by decide),H⟩⟩,?_⟩
   clear H;rintro ddj bj w ⟨rfl,H⟩
   refine fF ?_
   refine fF ?_
   refine fT ?_
   rw [show cntK p.kind=4 by rw [hk];rfl] at H
   have hsz:=hF.sz (by omega)
   unfold Pk.size at hsz
   replace H:=H.drew;generalize w.drew=w at H ⊢
   refine ⟨_,_,_,(H.b3.at0 rfl),?_⟩
   refine sSt1 H (by rfl) (by kernel_rfl) (by rfl) (by rfl) ?_;clear H;intro w _ H
   have hg:decide (((p.entries.length:Nat):Int) > (0:Int))=true->0 < p.entries.length:=fun h=>by rw [decide_eq_true_eq] at h;omega
   generalize decide (((p.entries.length:Nat):Int) > (0:Int))=ok1 at H hg
   refine ⟨_,_,_,(H.b3.at0 rfl),?_⟩
   refine ⟨fun b bl bc x q w=>∃(j:Nat) (r:Option Nat),x=(j:Int)/\j+q=p.entries.length/\bl=8+8*j/\Sat F w (.own 5 1 b bl bc r (ob (b32 p.sender++b32 p.media++(p.entries.take j).flatMap wEnt))::.blk b5 4 [.bool ok1]::.blk b3 42 [.bool false,.int .u8 4,.int .u8 (typK p.kind),.int .u16 0]::.blk b1 63 (pkC p a7 a8 a9 a10 a13 a14 a15 a16 a18 a24 a25 c7 c8 c9 c10 c13 c14 c15 c16 c18 c24 c25)::ex) R,⟨p.entries.length,0,rt,rfl,by omega,rfl,by rw [List.take_zero,List.flatMap_nil,List.append_nil];exact H⟩,?_⟩
   clear H;rintro dd3 b bl bc x q w ⟨j,r,rfl,hjq,rfl,H⟩
   refine ⟨fun hc=>?_,fun hc=>?_⟩
   ·rw [decide_eq_true_eq] at hc
    have hjl:j < p.entries.length:=by omega
    obtain ⟨pp,us,e,hus,hcell,H1⟩:=H.eltF Ent.dat_lenK (by decide) m16 (j:=j) hjl
    have htk:p.entries.take (j+1)=p.entries.take j++[p.entries[j]]:=by rw [List.take_add_one,List.getElem?_eq_getElem hjl];rfl
    have hRj:=hF.ens p.entries[j] (List.getElem_mem hjl)
    clear H
    generalize p.entries[j]=D at H1 htk hRj
    obtain ⟨e0,e1⟩:=D
    refine ⟨pp,e,by omega,by omega,?_⟩
    obtain rfl:=H1.ones (us:=[.int .u32 e0,.int .u8 e1]) ms
    refine ⟨_,_,LdC [.int .u32 e0,.int .u8 e1] (by kernel_rfl) (by rw [show (j:Int).toNat*2=j*2 by omega];exact hcell),?_⟩
    have H:=H1.sub (List.Sublist.refl _) (fun r h=>mt h)
    clear H1 hcell
    refine sNew H ?_;clear H;intro b4 w _ H
    refine sSw0 H rfl (by kernel_rfl) (by rfl) (by rfl) ?_;clear H;intro w _ H
    replace H:=H.r1
    refine ⟨r,?_⟩;replace H:=H.drew;generalize w.drew=w at H ⊢;obtain ⟨F2,ex2,S,back1,back2,hm⟩:=H.regO
    refine ⟨(H.ne (mt ms) ms),H.b1.row,_,(H.b1.at0 rfl),?_⟩
    refine ⟨(H.ne (mt ms) ms),H.b1.row,_,(H.b1.at0 rfl),?_⟩
    clear H;have H:=S;clear S
    refine ⟨?_,?_⟩
    ·refine call_j (c112 H hRj (by omega)) ?_
     clear H;rintro _ w ⟨a5,k5,r5,rfl,H⟩
     refine ⟨_,_,_,rfl,(back1 H).1,?_⟩
     refine sNew H ?_;clear H;intro b6 w _ H
     refine ⟨(back2 H).1,?_⟩
     refine sApp1 H (bytes:=1) (by kernel_rfl) [.int .u8 e1,.int .u8 0,.int .u8 0,.int .u8 0] (ob [e1,0,0,0]) (by rfl) (fun j u hu=>by rw [add_flat,Nat.zero_add];exact H.b0.cell hu) (fun G h=>DeepL.ones [_,_,_,_]) (by simp [Value.oneCell']) (by unfold maxLen;omega) (by omega) ?_
     clear H;intro a6 n6 k6 r6 w hn6 _ H
     replace H:=(back2 H).2;clear back1 back2 hm
     rw [<-ob_append] at H
     refine ⟨q - 1,by omega,j+1,r6,by rw [wi64_of (by omega) (by omega)];simp,by omega,by omega,?_⟩
     rw [htk,List.flatMap_append]
     simp only [fm1,fm2,fm3]
     have e:b32 p.sender++b32 p.media++(p.entries.take j).flatMap wEnt++b32 e0++[e1,0,0,0]=b32 p.sender++b32 p.media++((p.entries.take j).flatMap wEnt++wEnt (e0,e1)):=by simp only [List.append_assoc,wEnt]
     rw [e] at H
     exact H.dr

    ·refine sNew H ?_;clear H;intro b6 w _ H
     refine ⟨(back2 H).1,?_⟩
     replace H:=H.r1
     refine call_j (c112 H hRj (by omega)) ?_
     clear H;rintro _ w ⟨a5,k5,r5,rfl,H⟩
     refine ⟨_,_,_,rfl,(back2 H).1,?_⟩
     replace H:=H.u1
     refine sApp1 H (bytes:=1) (by kernel_rfl) [.int .u8 e1,.int .u8 0,.int .u8 0,.int .u8 0] (ob [e1,0,0,0]) (by rfl) (fun j u hu=>by rw [add_flat,Nat.zero_add];exact H.b0.cell hu) (fun G h=>DeepL.ones [_,_,_,_]) (by simp [Value.oneCell']) (by unfold maxLen;omega) (by omega) ?_
     clear H;intro a6 n6 k6 r6 w hn6 _ H
     replace H:=(back2 H).2;clear back1 back2 hm
     rw [<-ob_append] at H
     refine ⟨q - 1,by omega,j+1,r6,by rw [wi64_of (by omega) (by omega)];simp,by omega,by omega,?_⟩
     rw [htk,List.flatMap_append]
     simp only [fm1,fm2,fm3]
     have e:b32 p.sender++b32 p.media++(p.entries.take j).flatMap wEnt++b32 e0++[e1,0,0,0]=b32 p.sender++b32 p.media++((p.entries.take j).flatMap wEnt++wEnt (e0,e1)):=by simp only [List.append_assoc,wEnt]
     rw [e] at H
     exact H.dr

   rw [decide_eq_false_iff_not] at hc
   obtain rfl:j=p.entries.length:=by omega
   rw [List.take_length] at H
   exact ⟨r,_,4,ok1,by rw [List.length_append,flat_bd wEnt_len];rfl,H,⟨by decide,by decide⟩,by rw [List.length_append,flat_bd wEnt_len];show 8+_<=_;omega,fun h=>fm11 hk hF (hg h) rfl⟩
  ·
   replace H:=H.d1
   refine ⟨_,(H.b2.at0 rfl),?_⟩
   rw [hk]
   refine ⟨fun b _ w=>b=false/\Sat F w (.blk b5 4 [.bool true]::.blk b3 42 [.bool false,.int .u8 (cntK p.kind),.int .u8 (typK p.kind),.int .u16 0]::.blk b1 63 (pkC p a7 a8 a9 a10 a13 a14 a15 a16 a18 a24 a25 c7 c8 c9 c10 c13 c14 c15 c16 c18 c24 c25)::ex) R,⟨fun hc=>⟨(absurd hc (by decide)),H⟩,fun hc=>⟨(by decide),H⟩⟩,?_⟩
   clear H;rintro ddj bj w ⟨rfl,H⟩
   refine fF ?_
   refine fF ?_
   refine fF ?_
   refine fF ?_
   refine fF ?_
   refine ⟨fun b _ w=>b=false/\Sat F w (.blk b5 4 [.bool true]::.blk b3 42 [.bool false,.int .u8 (cntK p.kind),.int .u8 (typK p.kind),.int .u16 0]::.blk b1 63 (pkC p a7 a8 a9 a10 a13 a14 a15 a16 a18 a24 a25 c7 c8 c9 c10 c13 c14 c15 c16 c18 c24 c25)::ex) R,⟨fun hc=>⟨(absurd hc (by decide)),H⟩,fun hc=>⟨(by decide),H⟩⟩,?_⟩
   clear H;rintro ddj bj w ⟨rfl,H⟩
   refine fF ?_
   refine fF ?_
   refine fF ?_
   refine fT ?_
   rw [show cntK p.kind=15 by rw [hk];rfl] at H
   have hsz:=hF.sz (by omega)
   unfold Pk.size at hsz
   refine ⟨_,(H.b2.at0 rfl),?_⟩
   obtain ⟨bn,hbn⟩:∃bn:Nat,p.bits=(bn:Int):=⟨p.bits.toNat,by have:=hF.bt.1;omega⟩
   have hbr:=hF.bt.2
   rw [hbn]
   refine call_j (cMant (b:=bn) (by omega)) ?_
   rintro _ w' ⟨v,okm,rfl,g,hvr,hokm⟩
   rw [<-hbn] at hokm
   replace H:=H.grow g
   clear g hbn hbr
   refine ⟨_,_,rfl,?_⟩
   have w1:IntKind.u8.wrap ((p.sources.length:Nat):Int)=((p.sources.length % 256:Nat):Int):=by rw [wu8];omega
   have w2:IntKind.u8.wrap (ishr .u32 v (16:Int))=v / 65536 % 256:=by rw [ishr_of (b:=(16:Int)) 16 (by rfl) (by decide),wu8];rfl
   have w3:IntKind.u8.wrap (ishr .u32 v (8:Int))=v / 256 % 256:=by rw [ishr_of (b:=(8:Int)) 8 (by rfl) (by decide),wu8];rfl
   have w4:IntKind.u8.wrap v=v % 256:=wu8 _
   obtain ⟨PRE,hPRE⟩:∃PRE:List Int,PRE=b32 p.sender++b32 0++[82,69,77,66,((p.sources.length % 256:Nat):Int),v / 65536 % 256,v / 256 % 256,v % 256]:=⟨_,rfl⟩
   have hPl:PRE.length=16:=by rw [hPRE];rfl
   refine ⟨fun b bl bc _ w=>∃(r:Option Nat) (ok:Bool),bl=16/\(ok=true->okm=true/\p.sources.length<=255)/\Sat F w (.own 5 1 b bl bc r (ob (PRE))::.blk b5 4 [.bool ok]::.blk b3 42 [.bool false,.int .u8 15,.int .u8 (typK p.kind),.int .u16 0]::.blk b1 63 (pkC p a7 a8 a9 a10 a13 a14 a15 a16 a18 a24 a25 c7 c8 c9 c10 c13 c14 c15 c16 c18 c24 c25)::ex) R,?_,?_⟩
   ·rw [hPRE]
    refine ⟨none,?_⟩;replace H:=H.drew;generalize w.drew=w at H ⊢;obtain ⟨F2,ex2,S,back1,back2,hm⟩:=H.regN
    refine ⟨nn,H.b2.row,_,(H.b2.at0 rfl),?_⟩
    refine ⟨nn,H.b2.row,_,_,_,(H.b2.at0 rfl),?_⟩
    clear H;have H:=S;clear S
    rw [w1,w2,w3,w4]
    refine ⟨?_,?_⟩
    ·refine call_j (c112 (B:=[]) (H.nilOwn 5 1) hF.s (by omega)) ?_
     clear H;rintro _ w ⟨a4,k4,r4,rfl,H⟩
     refine ⟨_,_,_,rfl,(back1 H).1,?_⟩
     rw [List.nil_append] at H
     refine ⟨?_,?_⟩
     ·refine call_j (c112 H (by decide) (by omega)) ?_
      clear H;rintro _ w ⟨a5,k5,r5,rfl,H⟩
      refine ⟨_,_,_,rfl,(back1 H).1,?_⟩
      refine sNew H ?_;clear H;intro b6 w _ H
      refine ⟨(back2 H).1,?_⟩
      refine sApp1 H (bytes:=1) (by kernel_rfl) [.int .u8 82,.int .u8 69,.int .u8 77,.int .u8 66,.int .u8 ((p.sources.length % 256:Nat):Int),.int .u8 (v / 65536 % 256),.int .u8 (v / 256 % 256),.int .u8 (v % 256)] (ob [82,69,77,66,((p.sources.length % 256:Nat):Int),(v / 65536 % 256),(v / 256 % 256),(v % 256)]) (by rfl) (fun j u hu=>by rw [add_flat,Nat.zero_add];exact H.b0.cell hu) (fun G h=>DeepL.ones [_,_,_,_,_,_,_,_]) (by simp [Value.oneCell']) (by unfold maxLen;omega) (by omega) ?_
      clear H;intro a6 n6 k6 r6 w hn6 _ H
      refine ⟨(back2 H).1,?_⟩
      replace H:=(back2 H).2;clear back1 back2 hm
      rw [<-ob_append] at H
      subst hn6
      refine ⟨fun hm=>?_,fun hm=>?_⟩
      ·refine ⟨_,_,_,(H.b4.at0 rfl),?_⟩
       refine sSt2 H (by rfl) (by kernel_rfl) (by rfl) (by rfl) ?_;clear H;intro w _ H
       exact ⟨r6,decide (((p.sources.length:Nat):Int)<=(255:Int)),rfl,fun h=>⟨hm,by rw [decide_eq_true_eq] at h;omega⟩,H.dr⟩
      ·refine sSt2 H (by rfl) (by kernel_rfl) (by rfl) (by rfl) ?_;clear H;intro w _ H
       exact ⟨r6,false,rfl,(fun h=>(by cases h)),H.dr⟩
     ·refine sNew H ?_;clear H;intro b6 w _ H
      refine ⟨(back2 H).1,?_⟩
      replace H:=H.r1
      refine call_j (c112 H (by decide) (by omega)) ?_
      clear H;rintro _ w ⟨a5,k5,r5,rfl,H⟩
      refine ⟨_,_,_,rfl,(back2 H).1,?_⟩
      replace H:=H.u1
      refine sApp1 H (bytes:=1) (by kernel_rfl) [.int .u8 82,.int .u8 69,.int .u8 77,.int .u8 66,.int .u8 ((p.sources.length % 256:Nat):Int),.int .u8 (v / 65536 % 256),.int .u8 (v / 256 % 256),.int .u8 (v % 256)] (ob [82,69,77,66,((p.sources.length % 256:Nat):Int),(v / 65536 % 256),(v / 256 % 256),(v % 256)]) (by rfl) (fun j u hu=>by rw [add_flat,Nat.zero_add];exact H.b0.cell hu) (fun G h=>DeepL.ones [_,_,_,_,_,_,_,_]) (by simp [Value.oneCell']) (by unfold maxLen;omega) (by omega) ?_
      clear H;intro a6 n6 k6 r6 w hn6 _ H
      refine ⟨(back2 H).1,?_⟩
      replace H:=(back2 H).2;clear back1 back2 hm
      rw [<-ob_append] at H
      subst hn6
      refine ⟨fun hm=>?_,fun hm=>?_⟩
      ·refine ⟨_,_,_,(H.b4.at0 rfl),?_⟩
       refine sSt2 H (by rfl) (by kernel_rfl) (by rfl) (by rfl) ?_;clear H;intro w _ H
       exact ⟨r6,decide (((p.sources.length:Nat):Int)<=(255:Int)),rfl,fun h=>⟨hm,by rw [decide_eq_true_eq] at h;omega⟩,H.dr⟩
      ·refine sSt2 H (by rfl) (by kernel_rfl) (by rfl) (by rfl) ?_;clear H;intro w _ H
       exact ⟨r6,false,rfl,(fun h=>(by cases h)),H.dr⟩
    ·refine sNew H ?_;clear H;intro b6 w _ H
     refine ⟨(back1 H).1,?_⟩
     refine call_j (c112 (B:=[]) (H.nilOwn 5 1) hF.s (by omega)) ?_
     clear H;rintro _ w ⟨a4,k4,r4,rfl,H⟩
     refine ⟨_,_,_,rfl,(back2 H).1,?_⟩
     rw [List.nil_append] at H
     ·refine call_j (c112 H (by decide) (by omega)) ?_
      clear H;rintro _ w ⟨a5,k5,r5,rfl,H⟩
      refine ⟨_,_,_,rfl,(back2 H).1,?_⟩
      replace H:=H.u1
      refine sApp1 H (bytes:=1) (by kernel_rfl) [.int .u8 82,.int .u8 69,.int .u8 77,.int .u8 66,.int .u8 ((p.sources.length % 256:Nat):Int),.int .u8 (v / 65536 % 256),.int .u8 (v / 256 % 256),.int .u8 (v % 256)] (ob [82,69,77,66,((p.sources.length % 256:Nat):Int),(v / 65536 % 256),(v / 256 % 256),(v % 256)]) (by rfl) (fun j u hu=>by rw [add_flat,Nat.zero_add];exact H.b0.cell hu) (fun G h=>DeepL.ones [_,_,_,_,_,_,_,_]) (by simp [Value.oneCell']) (by unfold maxLen;omega) (by omega) ?_
      clear H;intro a6 n6 k6 r6 w hn6 _ H
      refine ⟨(back2 H).1,?_⟩
      replace H:=(back2 H).2;clear back1 back2 hm
      rw [<-ob_append] at H
      subst hn6
      refine ⟨fun hm=>?_,fun hm=>?_⟩
      ·refine ⟨_,_,_,(H.b4.at0 rfl),?_⟩
       refine sSt2 H (by rfl) (by kernel_rfl) (by rfl) (by rfl) ?_;clear H;intro w _ H
       exact ⟨r6,decide (((p.sources.length:Nat):Int)<=(255:Int)),rfl,fun h=>⟨hm,by rw [decide_eq_true_eq] at h;omega⟩,H.dr⟩
      ·refine sSt2 H (by rfl) (by kernel_rfl) (by rfl) (by rfl) ?_;clear H;intro w _ H
       exact ⟨r6,false,rfl,(fun h=>(by cases h)),H.dr⟩
   clear H;rintro dd2 b bl bc w ⟨r,ok1,rfl,hok1,H⟩
   refine ⟨_,_,_,(H.b3.at0 rfl),?_⟩
   refine ⟨fun b bl bc x q w=>∃(j:Nat) (r:Option Nat),x=(j:Int)/\j+q=p.sources.length/\bl=16+4*j/\Sat F w (.own 5 1 b bl bc r (ob (PRE++(p.sources.take j).flatMap b32))::.blk b5 4 [.bool ok1]::.blk b3 42 [.bool false,.int .u8 15,.int .u8 (typK p.kind),.int .u16 0]::.blk b1 63 (pkC p a7 a8 a9 a10 a13 a14 a15 a16 a18 a24 a25 c7 c8 c9 c10 c13 c14 c15 c16 c18 c24 c25)::ex) R,⟨p.sources.length,0,r,rfl,by omega,rfl,by rw [List.take_zero,List.flatMap_nil,List.append_nil];exact H⟩,?_⟩
   clear H;rintro dd3 b bl bc x q w ⟨j,r,rfl,hjq,rfl,H⟩
   refine ⟨fun hc=>?_,fun hc=>?_⟩
   ·rw [decide_eq_true_eq] at hc
    have hjl:j < p.sources.length:=by omega
    have htk:p.sources.take (j+1)=p.sources.take j++[p.sources[j]]:=by rw [List.take_add_one,List.getElem?_eq_getElem hjl];rfl
    have hRj:=hF.srcs p.sources[j] (List.getElem_mem hjl)
    obtain ⟨bb,oo,hle,hcell⟩:=H.elt m10 (by omega)
    have hc1:=hcell j (.int .u32 p.sources[j]) (by rw [oi_get _ _ _ hjl];simp [List.getD,List.getElem?_eq_getElem hjl])
    refine ⟨_,hle,by omega,by omega,?_⟩
    refine ⟨_,(by rw [show (j:Int).toNat*1=j by omega,add_flat];exact hc1),?_⟩
    clear hcell hc1
    refine call_j (c112 H hRj (by omega)) ?_
    clear H;rintro _ w ⟨a6,k6,r6,rfl,H⟩
    refine ⟨_,_,_,rfl,?_⟩
    refine ⟨q - 1,by omega,j+1,r6,by rw [wi64_of (by omega) (by omega)];simp,by omega,by omega,?_⟩
    rw [htk,List.flatMap_append]
    simp only [fm1,fm2,fm3]
    rw [List.append_assoc] at H
    exact H
   rw [decide_eq_false_iff_not] at hc
   obtain rfl:j=p.sources.length:=by omega
   rw [List.take_length] at H
   exact ⟨r,_,15,ok1,by rw [List.length_append,fl32,hPl],H,⟨by decide,by decide⟩,by rw [List.length_append,fl32,hPl];omega,fun h=>by
    obtain ⟨h1,h2⟩:=hok1 h
    obtain ⟨hv,m,i,h3,h4,h5,h6⟩:=hokm h1
    obtain ⟨hE,hM⟩:=br_rng h3 h4 h5
    rw [<-h6] at hE hM
    exact fm12 hk hF ⟨m,i,h3,h4,h5,h6⟩ hv hM hE (by rw [hPRE]) h2⟩
  ·
   replace H:=H.d1
   refine ⟨_,(H.b2.at0 rfl),?_⟩
   rw [hk]
   refine ⟨fun b _ w=>b=false/\Sat F w (.blk b5 4 [.bool true]::.blk b3 42 [.bool false,.int .u8 (cntK p.kind),.int .u8 (typK p.kind),.int .u16 0]::.blk b1 63 (pkC p a7 a8 a9 a10 a13 a14 a15 a16 a18 a24 a25 c7 c8 c9 c10 c13 c14 c15 c16 c18 c24 c25)::ex) R,⟨fun hc=>⟨(absurd hc (by decide)),H⟩,fun hc=>⟨(by decide),H⟩⟩,?_⟩
   clear H;rintro ddj bj w ⟨rfl,H⟩
   refine fF ?_
   refine fF ?_
   refine fF ?_
   refine fF ?_
   refine fF ?_
   refine ⟨fun b _ w=>b=false/\Sat F w (.blk b5 4 [.bool true]::.blk b3 42 [.bool false,.int .u8 (cntK p.kind),.int .u8 (typK p.kind),.int .u16 0]::.blk b1 63 (pkC p a7 a8 a9 a10 a13 a14 a15 a16 a18 a24 a25 c7 c8 c9 c10 c13 c14 c15 c16 c18 c24 c25)::ex) R,⟨fun hc=>⟨(absurd hc (by decide)),H⟩,fun hc=>⟨(by decide),H⟩⟩,?_⟩
   clear H;rintro ddj bj w ⟨rfl,H⟩
   refine fF ?_
   refine fF ?_
   refine fF ?_
   refine fF ?_
   refine fF ?_
   refine sSt0 H (by rfl) (by kernel_rfl) (by rfl) (by rfl) ?_;clear H;intro w _ H
   rw [show cntK p.kind=15 by rw [hk];rfl] at H
   exact ⟨none,[],15,false,rfl,H.nilOwn 5 1,⟨by decide,by decide⟩,Nat.zero_le _,(fun h=>(by cases h))⟩
 clear H;rintro dd58 b bl bc w ⟨r,B,c,ok,rfl,H,hc,hB,hok⟩
 refine ⟨none,?_⟩
 replace H:=H.drew
 generalize w.drew=wd at H ⊢
 refine ⟨Option.some_ne_none _,H.b2.row,_,_,_,_,H.b2.ld,?_⟩
 refine ⟨Option.some_ne_none _,H.b1.row,_,(by exact Ce (by rfl) H.b1 rfl),?_⟩
 have B0:=H.b2
 refine sSw2 H rfl (by kernel_rfl) (by rfl) (by rfl) ?_
 clear H;intro w g H
 refine ⟨grown_same g B0 H.b2,?_⟩
 refine sSt1 H (by rfl) (by kernel_rfl) (by rfl) (by rfl) ?_;clear H;intro w _ H
 refine ⟨_,_,_,_,H.b2.ld,?_⟩
 refine ⟨_,(by exact Ce (by rfl) H.b1 rfl),?_⟩
 exact ⟨c,b,bc,r,B,ok,rfl,H.ds hr,hc,hB,hok⟩
def RawOk (xs:List Int):Prop:=hdrOk xs=true/\kindOf (hT xs) (hC xs)=0/\hT xs≠207/\4*(hL xs+1)=(xs.length:Int)
theorem WrOk.of0 {p:Pk} (h:p.kind=0):WrOk p:=
 ⟨by omega,by omega,fun e=>by omega,fun e=>by omega,fun e=>by omega,fun e=>by omega,fun e=>by omega,fun e=>by omega,fun e=>by omega,fun e=>by omega,fun e=>by omega,fun e=>by omega,fun e=>by omega,fun e=>by omega⟩
theorem wr_0 {p:Pk} (h:p.kind=0):wrOne p=p.data:=by unfold wrOne;simp [h]
def F1Post (F:Fr) (ex:List Ex) (ro:List Ro) (p:Pk) (en:Ending) (w':World):Prop:=
 ∃a c X ok ro',en=.returned (.tuple #[.slice a X.length c,.bool ok])/\(∀r∈ro,r∈ro')/\Sat F w' ex ro'/\Ro.B X a X.length c∈ro'/\(ok=true->(0<=p.kind/\p.kind<=12)/\WrX p/\X.length<=24*p.size+44/\(p.kind=0->RawOk p.data)/\(X.length<=240000->WrOk p/\X=wrOne p))
theorem F1Post.no {F:Fr} {ex exs:List Ex} {ro:List Ro} {p:Pk} {w:World} (H:Sat F w exs ro) (hs:ex.Sublist exs):F1Post F ex ro p (.returned (.tuple #[.slice none 0 0,.bool false])) w:=
 ⟨none,0,[],false,_,rfl,fun r h=>mt h,((H.sub hs (fun _ h=>h)).nilOwn 5 1).freeze,ms,fun h=>by cases h⟩
theorem F1Post.raw {F:Fr} {ex exs:List Ex} {ro ro':List Ro} {p:Pk} {w:World} {a:Option Addr} {c:Nat} {ok:Bool} (H:Sat F w exs ro') (hs:ex.Sublist exs) (hr:∀r∈ro,r∈ro') (hk:p.kind=0) (hm:Ro.B p.data a p.data.length c∈ro') (hok:ok=true->RawOk p.data):F1Post F ex ro p (.returned (.tuple #[.slice a p.data.length c,.bool ok])) w:=
 ⟨a,c,p.data,ok,_,rfl,hr,H.sub hs (fun _ h=>h),hm,fun h=>⟨by omega,WrX.no (by omega),by unfold Pk.size;omega,fun _=>hok h,fun _=>⟨WrOk.of0 hk,(wr_0 hk).symm⟩⟩⟩
theorem c48 {F:Fr} {w:World} {ex:List Ex} {ro:List Ro} {p:Pk} {cells:List Value} (H:Sat F w ex ro) (hp:Ro.deep p.dat cells∈ro) (hF0:0<=p.kind->p.kind<=13->FoOk p) :
  Calls pg 48 #[.agg cells.toArray] w (F1Post F ex ro p):=by
 have hp0:=hp
 obtain ⟨a7,a8,a9,a10,a13,a14,a15,a16,a18,a24,a25,c7,c8,c9,c10,c13,c14,c15,c16,c18,c24,c25,R,rfl,hr,H,m7,m8,m9,m10,m13,m14,m15,m16,m18,m24,m25⟩:=H.pkF hp
 apply of48
 refine sNew H ?_;clear H;intro b1 w _ H
 replace H:Sat F w (.blk b1 63 (pkC p a7 a8 a9 a10 a13 a14 a15 a16 a18 a24 a25 c7 c8 c9 c10 c13 c14 c15 c16 c18 c24 c25)::ex) R:=H
 refine ⟨_,(H.b0.at0 rfl),?_⟩
 refine ⟨fun _=>F1Post.no (H.sub (ro':=ro) (List.Sublist.refl _) hr) sl1,fun lo=>?_⟩
 rw [decide_eq_false_iff_not,Int.not_lt] at lo
 refine ⟨_,(H.b0.at0 rfl),?_⟩
 refine ⟨fun _=>F1Post.no (H.sub (ro':=ro) (List.Sublist.refl _) hr) sl1,fun hi=>?_⟩
 rw [decide_eq_false_iff_not] at hi
 replace hi:p.kind<=13:=by omega
 have hF:=hF0 lo hi
 refine ⟨_,(H.b0.at0 rfl),?_⟩
 refine ⟨fun hk=>?_,fun hk=>?_⟩
 ·have hk:p.kind=0:=by simpa using hk
  have hby:=hF.dat hk
  refine ⟨_,_,_,(H.b0.at0 rfl),?_⟩
  have hrd:=H.rd (show Ro.B p.data a13 p.data.length c13∈R from m13)
  refine call_j (c23 hrd hby) ?_
  rintro _ w ⟨rfl,g⟩
  replace H:=H.grow g;clear g hrd
  by_cases hok:hdrOk p.data=true
  ·have hv:hdrVal p.data=.agg #[.bool (hP p.data),.int .u8 (hC p.data),.int .u8 (hT p.data),.int .u16 (hL p.data)]:=by unfold hdrVal;rw [if_pos hok]
   rw [hv,hok]
   refine ⟨_,_,_,_,_,rfl,?_⟩
   refine sNew H ?_;clear H;intro b13 w _ H
   refine sSw0 H rfl (by kernel_rfl) (by rfl) (by rfl) ?_;clear H;intro w _ H
   refine ⟨none,?_⟩;replace H:=H.drew;generalize w.drew=w at H ⊢;obtain ⟨F2,ex2,S,back1,back2,hm⟩:=H.regN
   refine ⟨nn,H.b1.row,_,_,_,(H.b1.at0 rfl),?_⟩
   refine fT ?_
   refine ⟨nn,H.b0.row,_,_,_,_,H.b0.ld,?_⟩
   refine call_j c57 ?_
   clear S back1 back2 hm
   rintro _ w ⟨rfl,K⟩
   replace H:=H.grow K
   refine ⟨_,rfl,K,?_⟩
   have hlb:hL p.data=n16 (p.data.drop 2):=rfl
   have hlr:=n16_lt (hby.drop 2)
   rw [<-hlb] at hlr
   have e1:IntKind.i64.wrap ((4:Int)*(IntKind.i64.wrap ((IntKind.i64.wrap (hL p.data))+(1:Int))))=4*(hL p.data+1):=by
    rw [wi64_of (n:=hL p.data) (by omega) (by omega),wi64_of (n:=hL p.data+1) (by omega) (by omega),wi64_of (by omega) (by omega)]
   refine ⟨fun h0=>?_,fun h0=>?_⟩
   ·have h0:kindOf (hT p.data) (hC p.data)=0:=by simpa using h0
    refine ⟨_,(H.b0.at0 rfl),K,?_⟩
    refine ⟨fun h1=>?_,fun h1=>?_⟩
    ·have h1:hT p.data≠207:=by simpa using h1
     refine ⟨⟨_,(H.b0.at0 rfl),K,_,_,_,(H.b1.at0 rfl),K,?_⟩,⟨_,_,_,(H.b1.at0 rfl),K,_,(H.b0.at0 rfl),K,?_⟩⟩
     ·rw [e1]
      exact F1Post.raw H sl1 hr hk m13 (fun h=>⟨hok,h0,h1,by simpa using h⟩)
     ·rw [e1]
      exact F1Post.raw H sl1 hr hk m13 (fun h=>⟨hok,h0,h1,by simpa using h⟩)
    ·exact ⟨F1Post.raw H sl1 hr hk m13 (fun h=>by cases h),F1Post.raw H sl1 hr hk m13 (fun h=>by cases h)⟩
   ·exact ⟨F1Post.raw H sl1 hr hk m13 (fun h=>by cases h),F1Post.raw H sl1 hr hk m13 (fun h=>by cases h)⟩
  ·have hok:hdrOk p.data=false:=by simpa using hok
   have hv:hdrVal p.data=.agg #[.bool false,.int .u8 0,.int .u8 0,.int .u16 0]:=by unfold hdrVal;rw [hok];rfl
   rw [hv,hok]
   refine ⟨_,_,_,_,_,rfl,?_⟩
   refine sNew H ?_;clear H;intro b13 w _ H
   refine sSw0 H rfl (by kernel_rfl) (by rfl) (by rfl) ?_;clear H;intro w _ H
   refine ⟨none,?_⟩;replace H:=H.drew;generalize w.drew=w at H ⊢;obtain ⟨F2,ex2,S,back1,back2,hm⟩:=H.regN
   refine ⟨nn,H.b1.row,_,_,_,(H.b1.at0 rfl),?_⟩
   refine fF ?_
   exact ⟨F1Post.raw H sl1 hr hk m13 (fun h=>by cases h),F1Post.raw H sl1 hr hk m13 (fun h=>by cases h)⟩
 ·have hk:p.kind≠0:=by simpa using hk
  refine ⟨_,H.b0.ld,?_⟩
  refine call_j (c88 H (hr _ hp0) hF) ?_
  clear H;rintro _ w ⟨c,a,k,r,B,ok,rfl,H,hc,hB,hok⟩
  refine ⟨_,_,_,_,_,_,_,_,rfl,?_⟩
  refine sNew H ?_;clear H;intro b37 w _ H
  refine sSw0 H rfl (by kernel_rfl) (by rfl) (by rfl) ?_;clear H;intro w _ H
  refine ⟨fun _=>F1Post.no (H.sub (ro':=ro) (List.Sublist.refl _) hr) sl1,fun h1=>?_⟩
  have h1:ok=true:=by simpa using h1
  refine ⟨fun _=>F1Post.no (H.sub (ro':=ro) (List.Sublist.refl _) hr) sl1,fun h2=>?_⟩
  rw [decide_eq_false_iff_not] at h2
  refine ⟨by decide,?_⟩
  have e1:IntKind.u16.wrap (IntKind.i64.wrap (((B.length:Nat):Int).tdiv (4:Int)))=((B.length / 4:Nat):Int):=by
   rw [Int.tdiv_eq_ediv_of_nonneg (by omega),wi64_of (by omega) (by omega),wu16]
   omega
  rw [e1]
  refine sSt0 H (by exact add_flat _ _ _) (by kernel_rfl) (by rfl) (by rfl) ?_;clear H;intro w _ H
  refine ⟨_,_,_,_,H.b0.ld,?_⟩
  refine call_j (c21 H hc (by omega)) ?_
  clear H;rintro _ w ⟨a5,k5,r5,rfl,H⟩
  refine ⟨_,_,_,_,rfl,?_⟩
  replace H:=H.r2.freeze
  refine sAppV H ms (by omega) ?_
  clear H;intro a6 n6 k6 r6 w hn6 _ H
  have hl:n6=(hdrB c (typK p.kind) ((B.length / 4:Nat):Int)++B).length:=by rw [List.length_append];exact hn6
  subst hl
  refine ⟨a6,k6,_,true,_,rfl,fun r h=>mt (mt (hr r h)),H.freeze.sub sl1 (fun _ h=>h),ms,fun _=>⟨by have:=(hok h1).1;omega,(hok h1).2.1,by omega,fun h=>absurd h hk,fun hl=>(hok h1).2.2 (by omega)⟩⟩
theorem Sat.ne2 {F:Fr} {w:World} {b c:Nat} {t u:TypeId} {l m:List Value} {ex:List Ex} {ro:List Ro} (H:Sat F w (.blk b t l::ex) ro) (h:Ex.blk c u m∈ex):some c≠some b:=by
 intro e
 injection e with e
 subst e
 have hnd:=H.nd
 have:foots (.blk c t l::ex)=c::foots ex:=rfl
 rw [this,List.nodup_cons] at hnd
 exact hnd.1 (mem_foots (show c∈Ex.foot (.blk c u m) by simp [Ex.foot]) h)
theorem Sat.regB {F:Fr} {w:World} {b:Nat} {t:TypeId} {l:List Value} {ex:List Ex} {ro:List Ro} (H:Sat F w (.blk b t l::ex) ro) :
  ∃F2 ex2,Sat F2 w (.blk b t l::ex2) ro/\(∀{x w' ro'},Sat F2 w' (x::ex2) ro'->w.grownBy w' (some b)/\Sat F w' (x::ex) ro')/\(∀{b t cells},Ex.blk b t cells∈ex->Ex.blk b t cells∈ex2):=by
 obtain ⟨ex2,S,back,hmem⟩:=Sat.still3 (E0:=[.blk b t l]) H (some b) (by intro c hc;simp [foots,Ex.foot] at hc;rw [hc])
 exact ⟨_,ex2,S,fun {x} _ _ h=>back [x] _ _ h,fun h=>hmem _ _ _ h⟩
def zC:List Value:=pk0 0 0 0 false 0 0 0
theorem c87 {F:Fr} {w:World} {ex:List Ex} {ro:List Ro} {p:Pk} {cells:List Value} (H:Sat F w ex ro) (hp:Ro.deep p.dat cells∈ro) (lo:0<=p.kind) (hi:p.kind<=12):Calls pg 87 #[.agg cells.toArray] w (PlPost F ex ro p):=by
 obtain ⟨a7,a8,a9,a10,a13,a14,a15,a16,a18,a24,a25,c7,c8,c9,c10,c13,c14,c15,c16,c18,c24,c25,R,rfl,hr,H,m7,m8,m9,m10,m13,m14,m15,m16,m18,m24,m25⟩:=H.pkF hp
 apply of87
 refine sNew H ?_;clear H;intro b1 w _ H
 replace H:Sat F w (.blk b1 63 (pkC p a7 a8 a9 a10 a13 a14 a15 a16 a18 a24 a25 c7 c8 c9 c10 c13 c14 c15 c16 c18 c24 c25)::ex) R:=H
 refine sNew H ?_;clear H;intro b3 w _ H
 replace H:Sat F w (.blk b3 63 zC::.blk b1 63 (pkC p a7 a8 a9 a10 a13 a14 a15 a16 a18 a24 a25 c7 c8 c9 c10 c13 c14 c15 c16 c18 c24 c25)::ex) R:=H
 refine ⟨_,(H.b1.at0 rfl),?_⟩
 refine ⟨_,(H.b1.at0 rfl),?_⟩
 refine sNew H ?_;clear H;intro b7 w _ H
 refine sSw0 H rfl (by kernel_rfl) (by rfl) (by rfl) ?_;clear H;intro w _ H
 replace H:Sat F w (.blk b7 63 (pk0 p.kind p.sender 0 false 0 0 0)::.blk b3 63 zC::.blk b1 63 (pkC p a7 a8 a9 a10 a13 a14 a15 a16 a18 a24 a25 c7 c8 c9 c10 c13 c14 c15 c16 c18 c24 c25)::ex) R:=H
 refine ⟨fun _ w=>∃cs,Sat F w (.blk b7 63 cs::.blk b3 63 zC::.blk b1 63 (pkC p a7 a8 a9 a10 a13 a14 a15 a16 a18 a24 a25 c7 c8 c9 c10 c13 c14 c15 c16 c18 c24 c25)::ex) (.deep (trim p).dat cs::R)/\cs.length=30/\cs.all Value.oneCell'=true,?_,?_⟩
 ·refine ⟨_,(H.b2.at0 rfl),?_⟩
  have hkk:p.kind=0\/p.kind=1\/p.kind=2\/p.kind=3\/p.kind=4\/p.kind=5\/p.kind=6\/p.kind=7\/p.kind=8\/p.kind=9\/p.kind=10\/p.kind=11\/p.kind=12:=by omega
  rcases hkk with hk | hk | hk | hk | hk | hk | hk | hk | hk | hk | hk | hk | hk
  ·have ht:trim p={ data:=p.data }:=by unfold trim;simp [hk]
   rw [hk]
   refine fT ?_
   refine ⟨_,_,_,(H.b2.at0 rfl),?_⟩
   refine sSw1 H rfl (by kernel_rfl) (by rfl) (by rfl) ?_;clear H;intro w _ H
   refine ⟨_,H.b1.ld,?_⟩
   refine PlPost.mk (cells:=pk0 0 0 0 false 0 0 0 |>.set 13 (.slice a13 p.data.length c13)) H sl1 hr (fun G h=>?_)
   rw [ht]
   repeat (first | exact DeepL.nil _ _ | refine dc (Deep.emp _ _) ?_ | refine dc (Deep.one _) ?_ | refine dc (h (.deep [_] [_]) (by assumption)).head ?_)
  ·have ht:trim p={ kind:=1,sender:=p.sender,ntp:=p.ntp,rtp:=p.rtp,packets:=p.packets,octets:=p.octets,reports:=p.reports,ext:=p.ext }:=by unfold trim;simp [hk]
   rw [hk] at H ⊢
   refine fF ?_
   refine fT ?_
   refine ⟨some b7,?_⟩
   replace H:=H.drew
   generalize w.drew=w at H ⊢
   obtain ⟨F2,ex2,S,back,hm⟩:=H.regB
   have n1:=S.ne2 (hm (mt ms))
   refine ⟨n1,H.b2.row,_,(H.b2.at0 rfl),?_⟩
   refine ⟨n1,H.b2.row,_,(H.b2.at0 rfl),?_⟩
   refine ⟨n1,H.b2.row,_,(H.b2.at0 rfl),?_⟩
   refine ⟨n1,H.b2.row,_,(H.b2.at0 rfl),?_⟩
   refine ⟨n1,H.b2.row,_,_,_,(H.b2.at0 rfl),?_⟩
   refine ⟨n1,H.b2.row,_,_,_,(H.b2.at0 rfl),?_⟩
   clear H;have H:=S;clear S
   refine sSt0 H (by exact add_flat _ _ _) (by kernel_rfl) (by rfl) (by rfl) ?_;clear H;intro w _ H
   refine ⟨(back H).1,?_⟩
   refine sSt0 H (by exact add_flat _ _ _) (by kernel_rfl) (by rfl) (by rfl) ?_;clear H;intro w _ H
   refine ⟨(back H).1,?_⟩
   refine sSt0 H (by exact add_flat _ _ _) (by kernel_rfl) (by rfl) (by rfl) ?_;clear H;intro w _ H
   refine ⟨(back H).1,?_⟩
   refine sSt0 H (by exact add_flat _ _ _) (by kernel_rfl) (by rfl) (by rfl) ?_;clear H;intro w _ H
   refine ⟨(back H).1,?_⟩
   refine sSt0 H (by exact add_flat _ _ _) (by kernel_rfl) (by rfl) (by rfl) ?_;clear H;intro w _ H
   refine ⟨(back H).1,?_⟩
   refine sSt0 H (by exact add_flat _ _ _) (by kernel_rfl) (by rfl) (by rfl) ?_;clear H;intro w _ H
   refine ⟨_,(back H).2.addD (fun G h=>?_),rfl,rfl⟩
   rw [ht]
   repeat (first | exact DeepL.nil _ _ | refine dc (Deep.emp _ _) ?_ | refine dc (Deep.one _) ?_ | refine dc (h (.deep [_] [_]) (by assumption)).head ?_)
  ·have ht:trim p={ kind:=2,sender:=p.sender,reports:=p.reports,ext:=p.ext }:=by unfold trim;simp [hk]
   rw [hk] at H ⊢
   refine fF ?_
   refine fF ?_
   refine fT ?_
   refine ⟨some b7,?_⟩
   replace H:=H.drew
   generalize w.drew=w at H ⊢
   obtain ⟨F2,ex2,S,back,hm⟩:=H.regB
   have n1:=S.ne2 (hm (mt ms))
   refine ⟨n1,H.b2.row,_,_,_,(H.b2.at0 rfl),?_⟩
   refine ⟨n1,H.b2.row,_,_,_,(H.b2.at0 rfl),?_⟩
   clear H;have H:=S;clear S
   refine sSt0 H (by exact add_flat _ _ _) (by kernel_rfl) (by rfl) (by rfl) ?_;clear H;intro w _ H
   refine ⟨(back H).1,?_⟩
   refine sSt0 H (by exact add_flat _ _ _) (by kernel_rfl) (by rfl) (by rfl) ?_;clear H;intro w _ H
   refine ⟨_,(back H).2.addD (fun G h=>?_),rfl,rfl⟩
   rw [ht]
   repeat (first | exact DeepL.nil _ _ | refine dc (Deep.emp _ _) ?_ | refine dc (Deep.one _) ?_ | refine dc (h (.deep [_] [_]) (by assumption)).head ?_)
  ·have ht:trim p={ kind:=3,chunks:=p.chunks }:=by unfold trim;simp [hk]
   rw [hk] at H ⊢
   refine fF ?_
   refine fF ?_
   refine fF ?_
   refine fT ?_
   refine ⟨some b7,?_⟩
   replace H:=H.drew
   generalize w.drew=w at H ⊢
   obtain ⟨F2,ex2,S,back,hm⟩:=H.regB
   have n1:=S.ne2 (hm (mt ms))
   refine ⟨n1,H.b2.row,_,_,_,(H.b2.at0 rfl),?_⟩
   clear H;have H:=S;clear S
   refine sSt0 H (by exact add_flat _ _ _) (by kernel_rfl) (by rfl) (by rfl) ?_;clear H;intro w _ H
   refine ⟨(back H).1,?_⟩
   refine sSt0 H (by exact add_flat _ _ _) (by kernel_rfl) (by rfl) (by rfl) ?_;clear H;intro w _ H
   refine ⟨_,(back H).2.addD (fun G h=>?_),rfl,rfl⟩
   rw [ht]
   repeat (first | exact DeepL.nil _ _ | refine dc (Deep.emp _ _) ?_ | refine dc (Deep.one _) ?_ | refine dc (h (.deep [_] [_]) (by assumption)).head ?_)
  ·have ht:trim p={ kind:=4,sources:=p.sources,text:=p.text }:=by unfold trim;simp [hk]
   rw [hk] at H ⊢
   refine fF ?_
   refine fF ?_
   refine fF ?_
   refine fF ?_
   refine fT ?_
   refine ⟨some b7,?_⟩
   replace H:=H.drew
   generalize w.drew=w at H ⊢
   obtain ⟨F2,ex2,S,back,hm⟩:=H.regB
   have n1:=S.ne2 (hm (mt ms))
   refine ⟨n1,H.b2.row,_,_,_,(H.b2.at0 rfl),?_⟩
   refine ⟨n1,H.b2.row,_,(H.b2.at0 rfl),?_⟩
   clear H;have H:=S;clear S
   refine sSt0 H (by exact add_flat _ _ _) (by kernel_rfl) (by rfl) (by rfl) ?_;clear H;intro w _ H
   refine ⟨(back H).1,?_⟩
   refine sSt0 H (by exact add_flat _ _ _) (by kernel_rfl) (by rfl) (by rfl) ?_;clear H;intro w _ H
   refine ⟨(back H).1,?_⟩
   refine sSt0 H (by exact add_flat _ _ _) (by kernel_rfl) (by rfl) (by rfl) ?_;clear H;intro w _ H
   refine ⟨_,(back H).2.addD (fun G h=>?_),rfl,rfl⟩
   rw [ht]
   repeat (first | exact DeepL.nil _ _ | refine dc (Deep.emp _ _) ?_ | refine dc (Deep.one _) ?_ | refine dc (h (.deep [_] [_]) (by assumption)).head ?_)
  ·have ht:trim p={ kind:=5,sender:=p.sender,text:=p.text,sub:=p.sub,data:=p.data }:=by unfold trim;simp [hk]
   rw [hk] at H ⊢
   refine fF ?_
   refine fF ?_
   refine fF ?_
   refine fF ?_
   refine fF ?_
   refine fT ?_
   refine ⟨some b7,?_⟩
   replace H:=H.drew
   generalize w.drew=w at H ⊢
   obtain ⟨F2,ex2,S,back,hm⟩:=H.regB
   have n1:=S.ne2 (hm (mt ms))
   refine ⟨n1,H.b2.row,_,(H.b2.at0 rfl),?_⟩
   refine ⟨n1,H.b2.row,_,(H.b2.at0 rfl),?_⟩
   refine ⟨n1,H.b2.row,_,_,_,(H.b2.at0 rfl),?_⟩
   clear H;have H:=S;clear S
   refine sSt0 H (by exact add_flat _ _ _) (by kernel_rfl) (by rfl) (by rfl) ?_;clear H;intro w _ H
   refine ⟨(back H).1,?_⟩
   refine sSt0 H (by exact add_flat _ _ _) (by kernel_rfl) (by rfl) (by rfl) ?_;clear H;intro w _ H
   refine ⟨(back H).1,?_⟩
   refine sSt0 H (by exact add_flat _ _ _) (by kernel_rfl) (by rfl) (by rfl) ?_;clear H;intro w _ H
   refine ⟨_,(back H).2.addD (fun G h=>?_),rfl,rfl⟩
   rw [ht]
   repeat (first | exact DeepL.nil _ _ | refine dc (Deep.emp _ _) ?_ | refine dc (Deep.one _) ?_ | refine dc (h (.deep [_] [_]) (by assumption)).head ?_)
  ·have ht:trim p={ kind:=6,sender:=p.sender,media:=p.media,pairs:=p.pairs }:=by unfold trim;simp [hk]
   rw [hk] at H ⊢
   refine fF ?_
   refine fF ?_
   refine fF ?_
   refine fF ?_
   refine fF ?_
   refine fF ?_
   refine fT ?_
   refine ⟨some b7,?_⟩
   replace H:=H.drew
   generalize w.drew=w at H ⊢
   obtain ⟨F2,ex2,S,back,hm⟩:=H.regB
   have n1:=S.ne2 (hm (mt ms))
   refine ⟨n1,H.b2.row,_,(H.b2.at0 rfl),?_⟩
   refine ⟨n1,H.b2.row,_,_,_,(H.b2.at0 rfl),?_⟩
   clear H;have H:=S;clear S
   refine sSt0 H (by exact add_flat _ _ _) (by kernel_rfl) (by rfl) (by rfl) ?_;clear H;intro w _ H
   refine ⟨(back H).1,?_⟩
   refine sSt0 H (by exact add_flat _ _ _) (by kernel_rfl) (by rfl) (by rfl) ?_;clear H;intro w _ H
   refine ⟨_,(back H).2.addD (fun G h=>?_),rfl,rfl⟩
   rw [ht]
   repeat (first | exact DeepL.nil _ _ | refine dc (Deep.emp _ _) ?_ | refine dc (Deep.one _) ?_ | refine dc (h (.deep [_] [_]) (by assumption)).head ?_)
  ·have ht:trim p={ kind:=7,sender:=p.sender,media:=p.media }:=by unfold trim;simp [hk]
   rw [hk] at H ⊢
   refine fF ?_
   refine fF ?_
   refine fF ?_
   refine fF ?_
   refine fF ?_
   refine fF ?_
   refine fF ?_
   refine ⟨fun b _ w=>b=true/\Sat F w (.blk b7 63 (pk0 7 p.sender 0 false 0 0 0)::.blk b3 63 zC::.blk b1 63 (pkC p a7 a8 a9 a10 a13 a14 a15 a16 a18 a24 a25 c7 c8 c9 c10 c13 c14 c15 c16 c18 c24 c25)::ex) R,⟨fun hc=>⟨(by decide),H⟩,fun hc=>⟨(by exact absurd hc (by decide)),H⟩⟩,?_⟩
   clear H;rintro ddj bj w ⟨rfl,H⟩
   refine fT ?_
   refine ⟨_,(H.b2.at0 rfl),?_⟩
   refine sSt0 H (by exact add_flat _ _ _) (by kernel_rfl) (by rfl) (by rfl) ?_;clear H;intro w _ H
   refine ⟨_,H.addD (fun G h=>?_),rfl,rfl⟩
   rw [ht]
   repeat (first | exact DeepL.nil _ _ | refine dc (Deep.emp _ _) ?_ | refine dc (Deep.one _) ?_)
  ·have ht:trim p={ kind:=8,sender:=p.sender,blocks:=p.blocks,time:=p.time }:=by unfold trim;simp [hk]
   rw [hk] at H ⊢
   refine fF ?_
   refine fF ?_
   refine fF ?_
   refine fF ?_
   refine fF ?_
   refine fF ?_
   refine fF ?_
   refine ⟨fun b _ w=>b=false/\Sat F w (.blk b7 63 (pk0 8 p.sender 0 false 0 0 0)::.blk b3 63 zC::.blk b1 63 (pkC p a7 a8 a9 a10 a13 a14 a15 a16 a18 a24 a25 c7 c8 c9 c10 c13 c14 c15 c16 c18 c24 c25)::ex) R,⟨fun hc=>⟨(by decide),H⟩,fun hc=>⟨(by decide),H⟩⟩,?_⟩
   clear H;rintro ddj bj w ⟨rfl,H⟩
   refine fF ?_
   refine fF ?_
   refine fF ?_
   refine fF ?_
   refine fT ?_
   refine ⟨some b7,?_⟩
   replace H:=H.drew
   generalize w.drew=w at H ⊢
   obtain ⟨F2,ex2,S,back,hm⟩:=H.regB
   have n1:=S.ne2 (hm (mt ms))
   refine ⟨n1,H.b2.row,_,_,_,(H.b2.at0 rfl),?_⟩
   refine ⟨n1,H.b2.row,_,(H.b2.at0 rfl),?_⟩
   clear H;have H:=S;clear S
   refine sSt0 H (by exact add_flat _ _ _) (by kernel_rfl) (by rfl) (by rfl) ?_;clear H;intro w _ H
   refine ⟨(back H).1,?_⟩
   refine sSt0 H (by exact add_flat _ _ _) (by kernel_rfl) (by rfl) (by rfl) ?_;clear H;intro w _ H
   refine ⟨_,(back H).2.addD (fun G h=>?_),rfl,rfl⟩
   rw [ht]
   repeat (first | exact DeepL.nil _ _ | refine dc (Deep.emp _ _) ?_ | refine dc (Deep.one _) ?_ | refine dc (h (.deep [_] [_]) (by assumption)).head ?_)
  ·have ht:trim p={ kind:=9,sender:=p.sender,media:=p.media }:=by unfold trim;simp [hk]
   rw [hk] at H ⊢
   refine fF ?_
   refine fF ?_
   refine fF ?_
   refine fF ?_
   refine fF ?_
   refine fF ?_
   refine fF ?_
   refine ⟨fun b _ w=>b=true/\Sat F w (.blk b7 63 (pk0 9 p.sender 0 false 0 0 0)::.blk b3 63 zC::.blk b1 63 (pkC p a7 a8 a9 a10 a13 a14 a15 a16 a18 a24 a25 c7 c8 c9 c10 c13 c14 c15 c16 c18 c24 c25)::ex) R,⟨fun hc=>⟨(by exact absurd hc (by decide)),H⟩,fun hc=>⟨(by decide),H⟩⟩,?_⟩
   clear H;rintro ddj bj w ⟨rfl,H⟩
   refine fT ?_
   refine ⟨_,(H.b2.at0 rfl),?_⟩
   refine sSt0 H (by exact add_flat _ _ _) (by kernel_rfl) (by rfl) (by rfl) ?_;clear H;intro w _ H
   refine ⟨_,H.addD (fun G h=>?_),rfl,rfl⟩
   rw [ht]
   repeat (first | exact DeepL.nil _ _ | refine dc (Deep.emp _ _) ?_ | refine dc (Deep.one _) ?_)
  ·have ht:trim p={ kind:=10,sender:=p.sender,media:=p.media,slices:=p.slices }:=by unfold trim;simp [hk]
   rw [hk] at H ⊢
   refine fF ?_
   refine fF ?_
   refine fF ?_
   refine fF ?_
   refine fF ?_
   refine fF ?_
   refine fF ?_
   refine ⟨fun b _ w=>b=false/\Sat F w (.blk b7 63 (pk0 10 p.sender 0 false 0 0 0)::.blk b3 63 zC::.blk b1 63 (pkC p a7 a8 a9 a10 a13 a14 a15 a16 a18 a24 a25 c7 c8 c9 c10 c13 c14 c15 c16 c18 c24 c25)::ex) R,⟨fun hc=>⟨(by decide),H⟩,fun hc=>⟨(by decide),H⟩⟩,?_⟩
   clear H;rintro ddj bj w ⟨rfl,H⟩
   refine fF ?_
   refine fT ?_
   refine ⟨some b7,?_⟩
   replace H:=H.drew
   generalize w.drew=w at H ⊢
   obtain ⟨F2,ex2,S,back,hm⟩:=H.regB
   have n1:=S.ne2 (hm (mt ms))
   refine ⟨n1,H.b2.row,_,(H.b2.at0 rfl),?_⟩
   refine ⟨n1,H.b2.row,_,_,_,(H.b2.at0 rfl),?_⟩
   clear H;have H:=S;clear S
   refine sSt0 H (by exact add_flat _ _ _) (by kernel_rfl) (by rfl) (by rfl) ?_;clear H;intro w _ H
   refine ⟨(back H).1,?_⟩
   refine sSt0 H (by exact add_flat _ _ _) (by kernel_rfl) (by rfl) (by rfl) ?_;clear H;intro w _ H
   refine ⟨_,(back H).2.addD (fun G h=>?_),rfl,rfl⟩
   rw [ht]
   repeat (first | exact DeepL.nil _ _ | refine dc (Deep.emp _ _) ?_ | refine dc (Deep.one _) ?_ | refine dc (h (.deep [_] [_]) (by assumption)).head ?_)
  ·have ht:trim p={ kind:=11,sender:=p.sender,media:=p.media,entries:=p.entries }:=by unfold trim;simp [hk]
   rw [hk] at H ⊢
   refine fF ?_
   refine fF ?_
   refine fF ?_
   refine fF ?_
   refine fF ?_
   refine fF ?_
   refine fF ?_
   refine ⟨fun b _ w=>b=false/\Sat F w (.blk b7 63 (pk0 11 p.sender 0 false 0 0 0)::.blk b3 63 zC::.blk b1 63 (pkC p a7 a8 a9 a10 a13 a14 a15 a16 a18 a24 a25 c7 c8 c9 c10 c13 c14 c15 c16 c18 c24 c25)::ex) R,⟨fun hc=>⟨(by decide),H⟩,fun hc=>⟨(by decide),H⟩⟩,?_⟩
   clear H;rintro ddj bj w ⟨rfl,H⟩
   refine fF ?_
   refine fF ?_
   refine fT ?_
   refine ⟨some b7,?_⟩
   replace H:=H.drew
   generalize w.drew=w at H ⊢
   obtain ⟨F2,ex2,S,back,hm⟩:=H.regB
   have n1:=S.ne2 (hm (mt ms))
   refine ⟨n1,H.b2.row,_,(H.b2.at0 rfl),?_⟩
   refine ⟨n1,H.b2.row,_,_,_,(H.b2.at0 rfl),?_⟩
   clear H;have H:=S;clear S
   refine sSt0 H (by exact add_flat _ _ _) (by kernel_rfl) (by rfl) (by rfl) ?_;clear H;intro w _ H
   refine ⟨(back H).1,?_⟩
   refine sSt0 H (by exact add_flat _ _ _) (by kernel_rfl) (by rfl) (by rfl) ?_;clear H;intro w _ H
   refine ⟨_,(back H).2.addD (fun G h=>?_),rfl,rfl⟩
   rw [ht]
   repeat (first | exact DeepL.nil _ _ | refine dc (Deep.emp _ _) ?_ | refine dc (Deep.one _) ?_ | refine dc (h (.deep [_] [_]) (by assumption)).head ?_)
  ·have ht:trim p={ kind:=12,sender:=p.sender,bits:=p.bits,sources:=p.sources }:=by unfold trim;simp [hk]
   rw [hk] at H ⊢
   refine fF ?_
   refine fF ?_
   refine fF ?_
   refine fF ?_
   refine fF ?_
   refine fF ?_
   refine fF ?_
   refine ⟨fun b _ w=>b=false/\Sat F w (.blk b7 63 (pk0 12 p.sender 0 false 0 0 0)::.blk b3 63 zC::.blk b1 63 (pkC p a7 a8 a9 a10 a13 a14 a15 a16 a18 a24 a25 c7 c8 c9 c10 c13 c14 c15 c16 c18 c24 c25)::ex) R,⟨fun hc=>⟨(by decide),H⟩,fun hc=>⟨(by decide),H⟩⟩,?_⟩
   clear H;rintro ddj bj w ⟨rfl,H⟩
   refine fF ?_
   refine fF ?_
   refine fF ?_
   refine fT ?_
   refine ⟨some b7,?_⟩
   replace H:=H.drew
   generalize w.drew=w at H ⊢
   obtain ⟨F2,ex2,S,back,hm⟩:=H.regB
   have n1:=S.ne2 (hm (mt ms))
   refine ⟨n1,H.b2.row,_,(H.b2.at0 rfl),?_⟩
   refine ⟨n1,H.b2.row,_,_,_,(H.b2.at0 rfl),?_⟩
   clear H;have H:=S;clear S
   refine sSt0 H (by exact add_flat _ _ _) (by kernel_rfl) (by rfl) (by rfl) ?_;clear H;intro w _ H
   refine ⟨(back H).1,?_⟩
   refine sSt0 H (by exact add_flat _ _ _) (by kernel_rfl) (by rfl) (by rfl) ?_;clear H;intro w _ H
   refine ⟨_,(back H).2.addD (fun G h=>?_),rfl,rfl⟩
   rw [ht]
   repeat (first | exact DeepL.nil _ _ | refine dc (Deep.emp _ _) ?_ | refine dc (Deep.one _) ?_ | refine dc (h (.deep [_] [_]) (by assumption)).head ?_)
 ·clear H;rintro dd w ⟨cs,H,hl,h1⟩
  refine ⟨_,Ld0 rfl H.b0 (by rw [hl];kernel_rfl),?_⟩
  replace H:=H.r1
  refine sSw0 H rfl (by rw [hl];kernel_rfl) (by rw [hl];rfl) h1 ?_
  clear H;intro w _ H
  refine ⟨_,Ld0 rfl H.b0 (by rw [hl];kernel_rfl),?_⟩
  exact PlPost.mk H sl1 (fun r h=>mt (hr r h)) (fun G h=>h (.deep _ _) ms)
def plC (p:Pk) (a8 a10 a13:Option Addr) (c8 c10 c13:Nat) (v7 v9 v14 v15 v16 v18 v24 v25:Value):List Value:=
 [.int .i64 p.kind,.int .u32 p.sender,.int .u32 p.media,.int .u64 p.ntp,.int .u32 p.rtp,.int .u32 p.packets,.int .u32 p.octets,v7,.slice a8 p.ext.length c8,v9,.slice a10 p.sources.length c10,.string p.text,.int .u8 p.sub,.slice a13 p.data.length c13,v14,v15,v16,.int .u32 p.bits,v18,.int .u32 p.time,.int .u16 p.base,.int .u16 p.count,.int .u32 p.ref,.int .u8 p.fb,v24,v25,.bool p.hp,.int .u8 p.hc,.int .u8 p.ht,.int .u16 p.hl]
theorem Sat.sta5 {F:Fr} {w:World} {ex:List Ex} {ro:List Ro} {V:Bool} {a b c:Int} {l:List Int} {us:List Value} (H:Sat F w ex ro) (h:Ro.deep (Sta.dat (V,a,b,c,l)) us∈ro) :
  ∃la lc,us=[.bool V,.int .u16 a,.int .u16 b,.int .u16 c,.slice la l.length lc]/\Sat F w ex (.deep [.row 1 (oi .u16 l)] [.slice la l.length lc]::ro):=by
 obtain ⟨x0,us0,rfl,H1⟩:=H.uncons h
 obtain ⟨x1,us1,rfl,H2⟩:=H1.uncons (mt ms)
 obtain ⟨x2,us2,rfl,H3⟩:=H2.uncons (mt ms)
 obtain ⟨x3,us3,rfl,H4⟩:=H3.uncons (mt ms)
 obtain ⟨x4,us4,rfl,H5⟩:=H4.uncons (mt ms)
 have hn:us4=[]:=by
  have:=(H5.deep (mt ms)).1
  exact List.eq_nil_of_length_eq_zero (by simpa using this)
 subst hn
 obtain rfl:=H1.one1 ms
 obtain rfl:=H2.one1 ms
 obtain rfl:=H3.one1 ms
 obtain rfl:=H4.one1 ms
 obtain ⟨sa,sn,sc,rfl,hl⟩:=H5.rowS ms
 rw [Nat.mul_one,oi_length] at hl
 subst hl
 refine ⟨sa,sc,rfl,H5.sub (List.Sublist.refl _) (fun r hr=>?_)⟩
 simp only [List.mem_cons] at hr ⊢
 rcases hr with rfl | hr
 ·exact .inl rfl
 ·simp [hr]
abbrev N0:Value:=.slice none 0 0
def CvPost (F:Fr) (ex:List Ex) (ro:List Ro) (p:Pk) (en:Ending) (w':World):Prop:=
 ∃cells ro',en=.returned (.agg cells.toArray)/\(∀r∈ro,r∈ro')/\Sat F w' ex ro'/\Ro.deep p.dat cells∈ro'
theorem c41 {F:Fr} {w:World} {ex:List Ex} {ro:List Ro} {p:Pk} {cells:List Value} (H:Sat F w ex ro) (hp:Ro.deep p.dat cells∈ro) (hs:p.size<=1100000):Calls pg 41 #[.agg cells.toArray] w (CvPost F ex ro p):=by
 obtain ⟨a7,a8,a9,a10,a13,a14,a15,a16,a18,a24,a25,c7,c8,c9,c10,c13,c14,c15,c16,c18,c24,c25,R,rfl,hr,H,m7,m8,m9,m10,m13,m14,m15,m16,m18,m24,m25⟩:=H.pkF hp
 unfold Pk.size at hs
 have hcl:=csz_len p.chunks
 have hcm:=csz_mem p.chunks
 have hbl:=bsz_len p.blocks
 have hbm:=bsz_mem p.blocks
 have hsl:=ssz_len p.statuses
 obtain ⟨Z,hZ⟩:∃Z,Z=pk0 0 0 0 false 0 0 0:=⟨_,rfl⟩
 apply of41
 refine sNew H ?_;clear H;intro b1 w _ H
 replace H:Sat F w (.blk b1 75 (pkC p a7 a8 a9 a10 a13 a14 a15 a16 a18 a24 a25 c7 c8 c9 c10 c13 c14 c15 c16 c18 c24 c25)::ex) R:=H
 refine sNew H ?_;clear H;intro b3 w _ H
 replace H:Sat F w (.blk b3 63 Z::.blk b1 75 (pkC p a7 a8 a9 a10 a13 a14 a15 a16 a18 a24 a25 c7 c8 c9 c10 c13 c14 c15 c16 c18 c24 c25)::ex) R:=by rw [hZ];exact H
 refine ⟨_,(H.b1.at0 rfl),?_⟩
 refine ⟨_,(H.b1.at0 rfl),?_⟩
 refine ⟨_,(H.b1.at0 rfl),?_⟩
 refine ⟨_,(H.b1.at0 rfl),?_⟩
 refine ⟨_,(H.b1.at0 rfl),?_⟩
 refine ⟨_,(H.b1.at0 rfl),?_⟩
 refine ⟨_,(H.b1.at0 rfl),?_⟩
 refine ⟨_,_,_,(H.b1.at0 rfl),?_⟩
 refine ⟨_,_,_,(H.b1.at0 rfl),?_⟩
 refine ⟨_,(H.b1.at0 rfl),?_⟩
 refine ⟨_,(H.b1.at0 rfl),?_⟩
 refine ⟨_,_,_,(H.b1.at0 rfl),?_⟩
 refine ⟨_,(H.b1.at0 rfl),?_⟩
 refine ⟨_,(H.b1.at0 rfl),?_⟩
 refine ⟨_,(H.b1.at0 rfl),?_⟩
 refine ⟨_,(H.b1.at0 rfl),?_⟩
 refine ⟨_,(H.b1.at0 rfl),?_⟩
 refine ⟨_,(H.b1.at0 rfl),?_⟩
 refine ⟨_,_,_,_,Ld (vs:=[.bool p.hp,.int .u8 p.hc,.int .u8 p.ht,.int .u16 p.hl]) (by exact add_flat _ _ _) H.b1 (by kernel_rfl) (by rfl) (by rfl),?_⟩
 refine sNew H ?_;clear H;intro b27 w _ H
 refine sSw0 H rfl (by kernel_rfl) (by rfl) (by rfl) ?_;clear H;intro w _ H
 replace H:Sat F w (.blk b27 63 (plC p a8 a10 a13 c8 c10 c13 N0 N0 N0 N0 N0 N0 N0 N0)::.blk b3 63 Z::.blk b1 75 (pkC p a7 a8 a9 a10 a13 a14 a15 a16 a18 a24 a25 c7 c8 c9 c10 c13 c14 c15 c16 c18 c24 c25)::ex) R:=H
 refine ⟨_,_,_,(H.b2.at0 rfl),?_⟩
 refine ⟨fun x q w=>∃(j:Nat) (o:Option Addr) (oc:Nat) (r:Option Nat),x=(j:Int)/\j+q=p.reports.length/\Sat F w (.own 144 7 o j oc r ((p.reports.take j).flatMap Rep.dat)::.blk b27 63 (plC p a8 a10 a13 c8 c10 c13 (.slice o j oc) N0 N0 N0 N0 N0 N0 N0)::.blk b3 63 Z::.blk b1 75 (pkC p a7 a8 a9 a10 a13 a14 a15 a16 a18 a24 a25 c7 c8 c9 c10 c13 c14 c15 c16 c18 c24 c25)::ex) R,⟨p.reports.length,0,none,0,none,rfl,by omega,H.nilOwn 144 7⟩,?_⟩
 clear H;rintro dd0 x q w ⟨j,o7,k7,r,rfl,hjq,H⟩
 refine ⟨fun hc=>?_,fun hc=>?_⟩
 ·rw [decide_eq_true_eq] at hc
  have hjl:j < p.reports.length:=by omega
  obtain ⟨pp,us,e,hus,hcell,H1⟩:=H.eltF Rep.dat_len' (by decide) m7 (j:=j) hjl
  have htk:p.reports.take (j+1)=p.reports.take j++[p.reports[j]]:=by rw [List.take_add_one,List.getElem?_eq_getElem hjl];rfl
  clear H
  generalize p.reports[j]=D at H1 htk
  obtain ⟨d0,d1,d2,d3,d4,d5,d6⟩:=D
  refine ⟨pp,e,by omega,by omega,?_⟩
  obtain rfl:=H1.ones (us:=[.int .u32 d0,.int .u8 d1,.int .u32 d2,.int .u32 d3,.int .u32 d4,.int .u32 d5,.int .u32 d6]) ms
  refine ⟨_,_,_,_,_,_,_,LdC [.int .u32 d0,.int .u8 d1,.int .u32 d2,.int .u32 d3,.int .u32 d4,.int .u32 d5,.int .u32 d6] (by kernel_rfl) (by rw [show (j:Int).toNat*7=j*7 by omega];exact hcell),?_⟩
  have H:=H1
  clear H1 hcell
  refine sNew H ?_;clear H;intro b4 w _ H
  refine sSw0 H rfl (by kernel_rfl) (by rfl) (by rfl) ?_;clear H;intro w _ H
  refine ⟨_,_,_,(H.b2.at0 rfl),?_⟩
  refine ⟨_,_,_,_,_,_,_,H.b0.ld,?_⟩
  refine ⟨rfl,?_⟩
  refine sPush1 H (bytes:=28) (by kernel_rfl) (Rep.dat (d0,d1,d2,d3,d4,d5,d6)) (by rfl) (fun G h=>DeepL.ones [_,_,_,_,_,_,_]) (by rfl) (by unfold maxLen;omega) (by omega) ?_
  clear H;intro o2 ol2 oc2 r2 w ex2 _ H
  refine sSt2 H (by exact add_flat _ _ _) (by kernel_rfl) (by rfl) (by rfl) ?_;clear H;intro w _ H
  subst ex2
  refine ⟨q - 1,by omega,j+1,o2,oc2,r2,by rw [wi64_of (by omega) (by omega)];simp,by omega,?_⟩
  rw [htk,List.flatMap_append]
  simp only [fm1,fm2,fm3]
  exact H.sub (sc1) (fun r h=>mt h)
 rw [decide_eq_false_iff_not] at hc
 obtain rfl:j=p.reports.length:=by omega
 rw [List.take_length] at H
 replace H:=H.freeze
 clear hc hjq r q
 refine ⟨_,_,_,(H.b2.at0 rfl),?_⟩
 refine ⟨fun x q w=>∃(j:Nat) (o:Option Addr) (oc:Nat) (r:Option Nat),x=(j:Int)/\j+q=p.chunks.length/\Sat F w (.own 147 2 o j oc r ((p.chunks.take j).flatMap Chk.dat)::.blk b27 63 (plC p a8 a10 a13 c8 c10 c13 (.slice o7 p.reports.length k7) (.slice o j oc) N0 N0 N0 N0 N0 N0)::.blk b3 63 Z::.blk b1 75 (pkC p a7 a8 a9 a10 a13 a14 a15 a16 a18 a24 a25 c7 c8 c9 c10 c13 c14 c15 c16 c18 c24 c25)::ex) (.deep [.row 7 (p.reports.flatMap Rep.dat)] [.slice o7 p.reports.length k7]::R),⟨p.chunks.length,0,none,0,none,rfl,by omega,H.nilOwn 147 2⟩,?_⟩
 clear H;rintro dd1 x q w ⟨j,o9,k9,r,rfl,hjq,H⟩
 refine ⟨fun hc=>?_,fun hc=>?_⟩
 ·rw [decide_eq_true_eq] at hc
  have hjl:j < p.chunks.length:=by omega
  obtain ⟨pp,us,e,hus,hcell,H1⟩:=H.eltF Chk.dat_len' (by decide) (mt m9) (j:=j) hjl
  have htk:p.chunks.take (j+1)=p.chunks.take j++[p.chunks[j]]:=by rw [List.take_add_one,List.getElem?_eq_getElem hjl];rfl
  have hDm:=hcm p.chunks[j] (List.getElem_mem hjl)
  clear H
  generalize p.chunks[j]=D at H1 htk hDm
  obtain ⟨d0,msz⟩:=D
  replace hDm:msz.length<=csz p.chunks:=hDm
  refine ⟨pp,e,by omega,by omega,?_⟩
  obtain ⟨x0,us0,rfl,H2⟩:=H1.uncons ms
  obtain ⟨x1,us1,rfl,H3⟩:=H2.uncons (mt ms)
  obtain rfl:us1=[]:=by simpa using hus
  obtain rfl:=H2.one1 ms
  obtain ⟨sa,sn,sc,rfl,hsl2⟩:=H3.rowS ms
  rw [flat_len Itm.dat_len] at hsl2
  obtain rfl:sn=msz.length:=by omega
  refine ⟨_,_,_,_,LdC [.int .u32 d0,.slice sa msz.length sc] (by kernel_rfl) (by rw [show (j:Int).toNat*2=j*2 by omega];exact hcell),?_⟩
  have H:Sat F w _ (.deep [.row 2 (msz.flatMap Itm.dat)] [.slice sa msz.length sc]::(.deep [.row 7 (p.reports.flatMap Rep.dat)] [.slice o7 p.reports.length k7]::R)):=H3.sub (List.Sublist.refl _) (fun r h=>by
   rcases List.mem_cons.1 h with rfl | h
   ·exact ms
   ·exact (mt (mt (mt (mt (mt h))))))
  clear hcell H1 H2 H3
  refine sNew H ?_;clear H;intro b13 w _ H
  refine sSw0 H rfl (by kernel_rfl) (by rfl) (by rfl) ?_;clear H;intro w _ H
  refine ⟨_,(H.b0.at0 rfl),?_⟩
  refine sNew H ?_;clear H;intro b18 w _ H
  refine sSw0 H rfl (by kernel_rfl) (by rfl) (by rfl) ?_;clear H;intro w _ H
  refine ⟨_,_,_,(H.b1.at0 rfl),?_⟩
  refine ⟨fun x m2 w=>∃(i:Nat) (o2:Option Addr) (oc2:Nat) (r2:Option Nat),x=(i:Int)/\i+m2=msz.length/\Sat F w (.own 149 2 o2 i oc2 r2 ((msz.take i).flatMap Itm.dat)::.blk b18 147 [.int .u32 d0,.slice o2 i oc2]::.blk b13 169 [.int .u32 d0,.slice sa msz.length sc]::.own 147 2 o9 j k9 r ((p.chunks.take j).flatMap Chk.dat)::.blk b27 63 (plC p a8 a10 a13 c8 c10 c13 (.slice o7 p.reports.length k7) (.slice o9 j k9) N0 N0 N0 N0 N0 N0)::.blk b3 63 Z::.blk b1 75 (pkC p a7 a8 a9 a10 a13 a14 a15 a16 a18 a24 a25 c7 c8 c9 c10 c13 c14 c15 c16 c18 c24 c25)::ex) (.deep [.row 2 (msz.flatMap Itm.dat)] [.slice sa msz.length sc]::(.deep [.row 7 (p.reports.flatMap Rep.dat)] [.slice o7 p.reports.length k7]::R)),⟨msz.length,0,none,0,none,rfl,by omega,H.nilOwn 149 2⟩,?_⟩
  clear H;rintro dd23 x m2 w ⟨i,o2,oc2,r2,rfl,him,H⟩
  refine ⟨fun hc=>?_,fun hc=>?_⟩
  ·rw [decide_eq_true_eq] at hc
   have hil:i < msz.length:=by omega
   obtain ⟨p2,us,eq2,hus2,hcell,H1⟩:=H.eltF Itm.dat_len (by decide) ms (j:=i) hil
   have htk2:msz.take (i+1)=msz.take i++[msz[i]]:=by rw [List.take_add_one,List.getElem?_eq_getElem hil];rfl
   clear H
   generalize msz[i]=E at H1 htk2
   obtain ⟨e0,e1⟩:=E
   refine ⟨p2,eq2,by omega,by omega,?_⟩
   obtain rfl:=H1.ones (us:=[.int .u8 e0,.string e1]) ms
   refine ⟨_,_,LdC [.int .u8 e0,.string e1] (by kernel_rfl) (by rw [show (i:Int).toNat*2=i*2 by omega];exact hcell),?_⟩
   have H:=H1
   clear H1 hcell
   refine sNew H ?_;clear H;intro b33 w _ H
   refine sSw0 H rfl (by kernel_rfl) (by rfl) (by rfl) ?_;clear H;intro w _ H
   refine ⟨_,_,_,(H.b2.at0 rfl),?_⟩
   refine ⟨_,_,H.b0.ld,?_⟩
   refine ⟨rfl,?_⟩
   refine sPush1 H (bytes:=24) (by kernel_rfl) (Itm.dat (e0,e1)) (by rfl) (fun G h=>DeepL.ones [_,_]) (by rfl) (by unfold maxLen;omega) (by omega) ?_
   clear H;intro o3 ol3 oc3 r3 w ex3 _ H
   refine sSt2 H (by exact add_flat _ _ _) (by kernel_rfl) (by rfl) (by rfl) ?_;clear H;intro w _ H
   subst ex3
   refine ⟨m2 - 1,by omega,i+1,o3,oc3,r3,by rw [wi64_of (by omega) (by omega)];simp,by omega,?_⟩
   rw [htk2,List.flatMap_append]
   simp only [fm1,fm2,fm3]
   exact H.sub (sc1) (fun r h=>mt h)
  ·rw [decide_eq_false_iff_not] at hc
   obtain rfl:i=msz.length:=by omega
   rw [List.take_length] at H
   replace H:=H.freeze
   refine ⟨_,_,_,(H.b3.at0 rfl),?_⟩
   refine ⟨_,_,_,_,H.b0.ld,?_⟩
   refine ⟨rfl,?_⟩
   refine sPush2 H (bytes:=32) (by kernel_rfl) (Chk.dat (d0,msz)) (by rfl) (fun G h=>dc (.one _) (dc (h (.deep [_] [_]) ms).head dn)) (by rfl) (by unfold maxLen;omega) (by omega) ?_
   clear H;intro o2 ol2 oc2 r2 w ex2 _ H
   refine sSt3 H (by exact add_flat _ _ _) (by kernel_rfl) (by rfl) (by rfl) ?_;clear H;intro w _ H
   subst ex2
   refine ⟨q - 1,by omega,j+1,o2,oc2,r2,by rw [wi64_of (by omega) (by omega)];simp,by omega,?_⟩
   rw [htk,List.flatMap_append]
   simp only [fm1,fm2,fm3]
   exact H.sub ((sc1).trans (sc1)) (fun r h=>mt (mt h))
 rw [decide_eq_false_iff_not] at hc
 obtain rfl:j=p.chunks.length:=by omega
 rw [List.take_length] at H
 replace H:=H.freeze
 clear hc hjq r q
 refine ⟨_,_,_,(H.b2.at0 rfl),?_⟩
 refine ⟨fun x q w=>∃(j:Nat) (o:Option Addr) (oc:Nat) (r:Option Nat),x=(j:Int)/\j+q=p.pairs.length/\Sat F w (.own 151 2 o j oc r ((p.pairs.take j).flatMap Par.dat)::.blk b27 63 (plC p a8 a10 a13 c8 c10 c13 (.slice o7 p.reports.length k7) (.slice o9 p.chunks.length k9) (.slice o j oc) N0 N0 N0 N0 N0)::.blk b3 63 Z::.blk b1 75 (pkC p a7 a8 a9 a10 a13 a14 a15 a16 a18 a24 a25 c7 c8 c9 c10 c13 c14 c15 c16 c18 c24 c25)::ex) (.deep [.row 2 (p.chunks.flatMap Chk.dat)] [.slice o9 p.chunks.length k9]::.deep [.row 7 (p.reports.flatMap Rep.dat)] [.slice o7 p.reports.length k7]::R),⟨p.pairs.length,0,none,0,none,rfl,by omega,H.nilOwn 151 2⟩,?_⟩
 clear H;rintro dd2 x q w ⟨j,o14,k14,r,rfl,hjq,H⟩
 refine ⟨fun hc=>?_,fun hc=>?_⟩
 ·rw [decide_eq_true_eq] at hc
  have hjl:j < p.pairs.length:=by omega
  obtain ⟨pp,us,e,hus,hcell,H1⟩:=H.eltF Par.dat_lenK (by decide) (mt (mt m14)) (j:=j) hjl
  have htk:p.pairs.take (j+1)=p.pairs.take j++[p.pairs[j]]:=by rw [List.take_add_one,List.getElem?_eq_getElem hjl];rfl
  clear H
  generalize p.pairs[j]=D at H1 htk
  obtain ⟨d0,d1⟩:=D
  refine ⟨pp,e,by omega,by omega,?_⟩
  obtain rfl:=H1.ones (us:=[.int .u16 d0,.int .u16 d1]) ms
  refine ⟨_,_,LdC [.int .u16 d0,.int .u16 d1] (by kernel_rfl) (by rw [show (j:Int).toNat*2=j*2 by omega];exact hcell),?_⟩
  have H:=H1
  clear H1 hcell
  refine sNew H ?_;clear H;intro b4 w _ H
  refine sSw0 H rfl (by kernel_rfl) (by rfl) (by rfl) ?_;clear H;intro w _ H
  refine ⟨_,_,_,(H.b2.at0 rfl),?_⟩
  refine ⟨_,_,H.b0.ld,?_⟩
  refine ⟨rfl,?_⟩
  refine sPush1 H (bytes:=4) (by kernel_rfl) (Par.dat (d0,d1)) (by rfl) (fun G h=>DeepL.ones [_,_]) (by rfl) (by unfold maxLen;omega) (by omega) ?_
  clear H;intro o2 ol2 oc2 r2 w ex2 _ H
  refine sSt2 H (by exact add_flat _ _ _) (by kernel_rfl) (by rfl) (by rfl) ?_;clear H;intro w _ H
  subst ex2
  refine ⟨q - 1,by omega,j+1,o2,oc2,r2,by rw [wi64_of (by omega) (by omega)];simp,by omega,?_⟩
  rw [htk,List.flatMap_append]
  simp only [fm1,fm2,fm3]
  exact H.sub (sc1) (fun r h=>mt h)
 rw [decide_eq_false_iff_not] at hc
 obtain rfl:j=p.pairs.length:=by omega
 rw [List.take_length] at H
 replace H:=H.freeze
 clear hc hjq r q
 refine ⟨_,_,_,(H.b2.at0 rfl),?_⟩
 refine ⟨fun x q w=>∃(j:Nat) (o:Option Addr) (oc:Nat) (r:Option Nat),x=(j:Int)/\j+q=p.slices.length/\Sat F w (.own 153 3 o j oc r ((p.slices.take j).flatMap Sli.dat)::.blk b27 63 (plC p a8 a10 a13 c8 c10 c13 (.slice o7 p.reports.length k7) (.slice o9 p.chunks.length k9) (.slice o14 p.pairs.length k14) (.slice o j oc) N0 N0 N0 N0)::.blk b3 63 Z::.blk b1 75 (pkC p a7 a8 a9 a10 a13 a14 a15 a16 a18 a24 a25 c7 c8 c9 c10 c13 c14 c15 c16 c18 c24 c25)::ex) (.deep [.row 2 (p.pairs.flatMap Par.dat)] [.slice o14 p.pairs.length k14]::.deep [.row 2 (p.chunks.flatMap Chk.dat)] [.slice o9 p.chunks.length k9]::.deep [.row 7 (p.reports.flatMap Rep.dat)] [.slice o7 p.reports.length k7]::R),⟨p.slices.length,0,none,0,none,rfl,by omega,H.nilOwn 153 3⟩,?_⟩
 clear H;rintro dd3 x q w ⟨j,o15,k15,r,rfl,hjq,H⟩
 refine ⟨fun hc=>?_,fun hc=>?_⟩
 ·rw [decide_eq_true_eq] at hc
  have hjl:j < p.slices.length:=by omega
  obtain ⟨pp,us,e,hus,hcell,H1⟩:=H.eltF Sli.dat_lenK (by decide) (mt (mt (mt m15))) (j:=j) hjl
  have htk:p.slices.take (j+1)=p.slices.take j++[p.slices[j]]:=by rw [List.take_add_one,List.getElem?_eq_getElem hjl];rfl
  clear H
  generalize p.slices[j]=D at H1 htk
  obtain ⟨d0,d1,d2⟩:=D
  refine ⟨pp,e,by omega,by omega,?_⟩
  obtain rfl:=H1.ones (us:=[.int .u16 d0,.int .u16 d1,.int .u8 d2]) ms
  refine ⟨_,_,_,LdC [.int .u16 d0,.int .u16 d1,.int .u8 d2] (by kernel_rfl) (by rw [show (j:Int).toNat*3=j*3 by omega];exact hcell),?_⟩
  have H:=H1
  clear H1 hcell
  refine sNew H ?_;clear H;intro b4 w _ H
  refine sSw0 H rfl (by kernel_rfl) (by rfl) (by rfl) ?_;clear H;intro w _ H
  refine ⟨_,_,_,(H.b2.at0 rfl),?_⟩
  refine ⟨_,_,_,H.b0.ld,?_⟩
  refine ⟨rfl,?_⟩
  refine sPush1 H (bytes:=6) (by kernel_rfl) (Sli.dat (d0,d1,d2)) (by rfl) (fun G h=>DeepL.ones [_,_,_]) (by rfl) (by unfold maxLen;omega) (by omega) ?_
  clear H;intro o2 ol2 oc2 r2 w ex2 _ H
  refine sSt2 H (by exact add_flat _ _ _) (by kernel_rfl) (by rfl) (by rfl) ?_;clear H;intro w _ H
  subst ex2
  refine ⟨q - 1,by omega,j+1,o2,oc2,r2,by rw [wi64_of (by omega) (by omega)];simp,by omega,?_⟩
  rw [htk,List.flatMap_append]
  simp only [fm1,fm2,fm3]
  exact H.sub (sc1) (fun r h=>mt h)
 rw [decide_eq_false_iff_not] at hc
 obtain rfl:j=p.slices.length:=by omega
 rw [List.take_length] at H
 replace H:=H.freeze
 clear hc hjq r q
 refine ⟨_,_,_,(H.b2.at0 rfl),?_⟩
 refine ⟨fun x q w=>∃(j:Nat) (o:Option Addr) (oc:Nat) (r:Option Nat),x=(j:Int)/\j+q=p.entries.length/\Sat F w (.own 155 2 o j oc r ((p.entries.take j).flatMap Ent.dat)::.blk b27 63 (plC p a8 a10 a13 c8 c10 c13 (.slice o7 p.reports.length k7) (.slice o9 p.chunks.length k9) (.slice o14 p.pairs.length k14) (.slice o15 p.slices.length k15) (.slice o j oc) N0 N0 N0)::.blk b3 63 Z::.blk b1 75 (pkC p a7 a8 a9 a10 a13 a14 a15 a16 a18 a24 a25 c7 c8 c9 c10 c13 c14 c15 c16 c18 c24 c25)::ex) (.deep [.row 3 (p.slices.flatMap Sli.dat)] [.slice o15 p.slices.length k15]::.deep [.row 2 (p.pairs.flatMap Par.dat)] [.slice o14 p.pairs.length k14]::.deep [.row 2 (p.chunks.flatMap Chk.dat)] [.slice o9 p.chunks.length k9]::.deep [.row 7 (p.reports.flatMap Rep.dat)] [.slice o7 p.reports.length k7]::R),⟨p.entries.length,0,none,0,none,rfl,by omega,H.nilOwn 155 2⟩,?_⟩
 clear H;rintro dd4 x q w ⟨j,o16,k16,r,rfl,hjq,H⟩
 refine ⟨fun hc=>?_,fun hc=>?_⟩
 ·rw [decide_eq_true_eq] at hc
  have hjl:j < p.entries.length:=by omega
  obtain ⟨pp,us,e,hus,hcell,H1⟩:=H.eltF Ent.dat_lenK (by decide) (mt (mt (mt (mt m16)))) (j:=j) hjl
  have htk:p.entries.take (j+1)=p.entries.take j++[p.entries[j]]:=by rw [List.take_add_one,List.getElem?_eq_getElem hjl];rfl
  clear H
  generalize p.entries[j]=D at H1 htk
  obtain ⟨d0,d1⟩:=D
  refine ⟨pp,e,by omega,by omega,?_⟩
  obtain rfl:=H1.ones (us:=[.int .u32 d0,.int .u8 d1]) ms
  refine ⟨_,_,LdC [.int .u32 d0,.int .u8 d1] (by kernel_rfl) (by rw [show (j:Int).toNat*2=j*2 by omega];exact hcell),?_⟩
  have H:=H1
  clear H1 hcell
  refine sNew H ?_;clear H;intro b4 w _ H
  refine sSw0 H rfl (by kernel_rfl) (by rfl) (by rfl) ?_;clear H;intro w _ H
  refine ⟨_,_,_,(H.b2.at0 rfl),?_⟩
  refine ⟨_,_,H.b0.ld,?_⟩
  refine ⟨rfl,?_⟩
  refine sPush1 H (bytes:=8) (by kernel_rfl) (Ent.dat (d0,d1)) (by rfl) (fun G h=>DeepL.ones [_,_]) (by rfl) (by unfold maxLen;omega) (by omega) ?_
  clear H;intro o2 ol2 oc2 r2 w ex2 _ H
  refine sSt2 H (by exact add_flat _ _ _) (by kernel_rfl) (by rfl) (by rfl) ?_;clear H;intro w _ H
  subst ex2
  refine ⟨q - 1,by omega,j+1,o2,oc2,r2,by rw [wi64_of (by omega) (by omega)];simp,by omega,?_⟩
  rw [htk,List.flatMap_append]
  simp only [fm1,fm2,fm3]
  exact H.sub (sc1) (fun r h=>mt h)
 rw [decide_eq_false_iff_not] at hc
 obtain rfl:j=p.entries.length:=by omega
 rw [List.take_length] at H
 replace H:=H.freeze
 clear hc hjq r q
 refine ⟨_,_,_,(H.b2.at0 rfl),?_⟩
 refine ⟨fun x q w=>∃(j:Nat) (o:Option Addr) (oc:Nat) (r:Option Nat),x=(j:Int)/\j+q=p.blocks.length/\Sat F w (.own 158 3 o j oc r ((p.blocks.take j).flatMap Blo.dat)::.blk b27 63 (plC p a8 a10 a13 c8 c10 c13 (.slice o7 p.reports.length k7) (.slice o9 p.chunks.length k9) (.slice o14 p.pairs.length k14) (.slice o15 p.slices.length k15) (.slice o16 p.entries.length k16) (.slice o j oc) N0 N0)::.blk b3 63 Z::.blk b1 75 (pkC p a7 a8 a9 a10 a13 a14 a15 a16 a18 a24 a25 c7 c8 c9 c10 c13 c14 c15 c16 c18 c24 c25)::ex) (.deep [.row 2 (p.entries.flatMap Ent.dat)] [.slice o16 p.entries.length k16]::.deep [.row 3 (p.slices.flatMap Sli.dat)] [.slice o15 p.slices.length k15]::.deep [.row 2 (p.pairs.flatMap Par.dat)] [.slice o14 p.pairs.length k14]::.deep [.row 2 (p.chunks.flatMap Chk.dat)] [.slice o9 p.chunks.length k9]::.deep [.row 7 (p.reports.flatMap Rep.dat)] [.slice o7 p.reports.length k7]::R),⟨p.blocks.length,0,none,0,none,rfl,by omega,H.nilOwn 158 3⟩,?_⟩
 clear H;rintro dd5 x q w ⟨j,o18,k18,r,rfl,hjq,H⟩
 refine ⟨fun hc=>?_,fun hc=>?_⟩
 ·rw [decide_eq_true_eq] at hc
  have hjl:j < p.blocks.length:=by omega
  obtain ⟨pp,us,e,hus,hcell,H1⟩:=H.eltF Blo.dat_len' (by decide) (mt (mt (mt (mt (mt m18))))) (j:=j) hjl
  have htk:p.blocks.take (j+1)=p.blocks.take j++[p.blocks[j]]:=by rw [List.take_add_one,List.getElem?_eq_getElem hjl];rfl
  have hDm:=hbm p.blocks[j] (List.getElem_mem hjl)
  clear H
  generalize p.blocks[j]=D at H1 htk hDm
  obtain ⟨d0,d1,msz⟩:=D
  replace hDm:msz.length<=bsz p.blocks:=hDm
  refine ⟨pp,e,by omega,by omega,?_⟩
  obtain ⟨x0,us0,rfl,H2⟩:=H1.uncons ms
  obtain ⟨x1,us1,rfl,H3⟩:=H2.uncons (mt ms)
  obtain ⟨x2,us2,rfl,H4⟩:=H3.uncons (mt ms)
  obtain rfl:us2=[]:=by simpa using hus
  obtain rfl:=H2.one1 ms
  obtain rfl:=H3.one1 ms
  obtain ⟨sa,sn,sc,rfl,hsl2⟩:=H4.rowS ms
  rw [flat_len Met.dat_len'] at hsl2
  obtain rfl:sn=msz.length:=by omega
  refine ⟨_,_,_,_,_,LdC [.int .u32 d0,.int .u16 d1,.slice sa msz.length sc] (by kernel_rfl) (by rw [show (j:Int).toNat*3=j*3 by omega];exact hcell),?_⟩
  have H:Sat F w _ (.deep [.row 3 (msz.flatMap Met.dat)] [.slice sa msz.length sc]::(.deep [.row 2 (p.entries.flatMap Ent.dat)] [.slice o16 p.entries.length k16]::.deep [.row 3 (p.slices.flatMap Sli.dat)] [.slice o15 p.slices.length k15]::.deep [.row 2 (p.pairs.flatMap Par.dat)] [.slice o14 p.pairs.length k14]::.deep [.row 2 (p.chunks.flatMap Chk.dat)] [.slice o9 p.chunks.length k9]::.deep [.row 7 (p.reports.flatMap Rep.dat)] [.slice o7 p.reports.length k7]::R)):=H4.sub (List.Sublist.refl _) (fun r h=>by
   rcases List.mem_cons.1 h with rfl | h
   ·exact ms
   ·exact (mt (mt (mt (mt (mt (mt (mt h))))))))
  clear hcell H1 H2 H3 H4
  refine sNew H ?_;clear H;intro b13 w _ H
  refine sSw0 H rfl (by kernel_rfl) (by rfl) (by rfl) ?_;clear H;intro w _ H
  refine ⟨_,(H.b0.at0 rfl),?_⟩
  refine ⟨_,(H.b0.at0 rfl),?_⟩
  refine sNew H ?_;clear H;intro b18 w _ H
  refine sSw0 H rfl (by kernel_rfl) (by rfl) (by rfl) ?_;clear H;intro w _ H
  refine ⟨_,_,_,(H.b1.at0 rfl),?_⟩
  refine ⟨fun x m2 w=>∃(i:Nat) (o2:Option Addr) (oc2:Nat) (r2:Option Nat),x=(i:Int)/\i+m2=msz.length/\Sat F w (.own 160 3 o2 i oc2 r2 ((msz.take i).flatMap Met.dat)::.blk b18 158 [.int .u32 d0,.int .u16 d1,.slice o2 i oc2]::.blk b13 176 [.int .u32 d0,.int .u16 d1,.slice sa msz.length sc]::.own 158 3 o18 j k18 r ((p.blocks.take j).flatMap Blo.dat)::.blk b27 63 (plC p a8 a10 a13 c8 c10 c13 (.slice o7 p.reports.length k7) (.slice o9 p.chunks.length k9) (.slice o14 p.pairs.length k14) (.slice o15 p.slices.length k15) (.slice o16 p.entries.length k16) (.slice o18 j k18) N0 N0)::.blk b3 63 Z::.blk b1 75 (pkC p a7 a8 a9 a10 a13 a14 a15 a16 a18 a24 a25 c7 c8 c9 c10 c13 c14 c15 c16 c18 c24 c25)::ex) (.deep [.row 3 (msz.flatMap Met.dat)] [.slice sa msz.length sc]::(.deep [.row 2 (p.entries.flatMap Ent.dat)] [.slice o16 p.entries.length k16]::.deep [.row 3 (p.slices.flatMap Sli.dat)] [.slice o15 p.slices.length k15]::.deep [.row 2 (p.pairs.flatMap Par.dat)] [.slice o14 p.pairs.length k14]::.deep [.row 2 (p.chunks.flatMap Chk.dat)] [.slice o9 p.chunks.length k9]::.deep [.row 7 (p.reports.flatMap Rep.dat)] [.slice o7 p.reports.length k7]::R)),⟨msz.length,0,none,0,none,rfl,by omega,H.nilOwn 160 3⟩,?_⟩
  clear H;rintro dd23 x m2 w ⟨i,o2,oc2,r2,rfl,him,H⟩
  refine ⟨fun hc=>?_,fun hc=>?_⟩
  ·rw [decide_eq_true_eq] at hc
   have hil:i < msz.length:=by omega
   obtain ⟨p2,us,eq2,hus2,hcell,H1⟩:=H.eltF Met.dat_len' (by decide) ms (j:=i) hil
   have htk2:msz.take (i+1)=msz.take i++[msz[i]]:=by rw [List.take_add_one,List.getElem?_eq_getElem hil];rfl
   clear H
   generalize msz[i]=E at H1 htk2
   obtain ⟨e0,e1,e2⟩:=E
   refine ⟨p2,eq2,by omega,by omega,?_⟩
   obtain rfl:=H1.ones (us:=[.bool e0,.int .u8 e1,.int .u16 e2]) ms
   refine ⟨_,_,_,LdC [.bool e0,.int .u8 e1,.int .u16 e2] (by kernel_rfl) (by rw [show (i:Int).toNat*3=i*3 by omega];exact hcell),?_⟩
   have H:=H1
   clear H1 hcell
   refine sNew H ?_;clear H;intro b33 w _ H
   refine sSw0 H rfl (by kernel_rfl) (by rfl) (by rfl) ?_;clear H;intro w _ H
   refine ⟨_,_,_,(H.b2.at0 rfl),?_⟩
   refine ⟨_,_,_,H.b0.ld,?_⟩
   refine ⟨rfl,?_⟩
   refine sPush1 H (bytes:=4) (by kernel_rfl) (Met.dat (e0,e1,e2)) (by rfl) (fun G h=>DeepL.ones [_,_,_]) (by rfl) (by unfold maxLen;omega) (by omega) ?_
   clear H;intro o3 ol3 oc3 r3 w ex3 _ H
   refine sSt2 H (by exact add_flat _ _ _) (by kernel_rfl) (by rfl) (by rfl) ?_;clear H;intro w _ H
   subst ex3
   refine ⟨m2 - 1,by omega,i+1,o3,oc3,r3,by rw [wi64_of (by omega) (by omega)];simp,by omega,?_⟩
   rw [htk2,List.flatMap_append]
   simp only [fm1,fm2,fm3]
   exact H.sub (sc1) (fun r h=>mt h)
  ·rw [decide_eq_false_iff_not] at hc
   obtain rfl:i=msz.length:=by omega
   rw [List.take_length] at H
   replace H:=H.freeze
   refine ⟨_,_,_,(H.b3.at0 rfl),?_⟩
   refine ⟨_,_,_,_,_,H.b0.ld,?_⟩
   refine ⟨rfl,?_⟩
   refine sPush2 H (bytes:=32) (by kernel_rfl) (Blo.dat (d0,d1,msz)) (by rfl) (fun G h=>dc (.one _) (dc (.one _) (dc (h (.deep [_] [_]) ms).head dn))) (by rfl) (by unfold maxLen;omega) (by omega) ?_
   clear H;intro o2 ol2 oc2 r2 w ex2 _ H
   refine sSt3 H (by exact add_flat _ _ _) (by kernel_rfl) (by rfl) (by rfl) ?_;clear H;intro w _ H
   subst ex2
   refine ⟨q - 1,by omega,j+1,o2,oc2,r2,by rw [wi64_of (by omega) (by omega)];simp,by omega,?_⟩
   rw [htk,List.flatMap_append]
   simp only [fm1,fm2,fm3]
   exact H.sub ((sc1).trans (sc1)) (fun r h=>mt (mt h))
 rw [decide_eq_false_iff_not] at hc
 obtain rfl:j=p.blocks.length:=by omega
 rw [List.take_length] at H
 replace H:=H.freeze
 clear hc hjq r q
 refine ⟨_,_,_,(H.b2.at0 rfl),?_⟩
 refine ⟨fun x q w=>∃(j:Nat) (o:Option Addr) (oc:Nat) (r:Option Nat),x=(j:Int)/\j+q=p.statuses.length/\Sat F w (.own 163 5 o j oc r ((p.statuses.take j).flatMap Sta.dat)::.blk b27 63 (plC p a8 a10 a13 c8 c10 c13 (.slice o7 p.reports.length k7) (.slice o9 p.chunks.length k9) (.slice o14 p.pairs.length k14) (.slice o15 p.slices.length k15) (.slice o16 p.entries.length k16) (.slice o18 p.blocks.length k18) (.slice o j oc) N0)::.blk b3 63 Z::.blk b1 75 (pkC p a7 a8 a9 a10 a13 a14 a15 a16 a18 a24 a25 c7 c8 c9 c10 c13 c14 c15 c16 c18 c24 c25)::ex) (.deep [.row 3 (p.blocks.flatMap Blo.dat)] [.slice o18 p.blocks.length k18]::.deep [.row 2 (p.entries.flatMap Ent.dat)] [.slice o16 p.entries.length k16]::.deep [.row 3 (p.slices.flatMap Sli.dat)] [.slice o15 p.slices.length k15]::.deep [.row 2 (p.pairs.flatMap Par.dat)] [.slice o14 p.pairs.length k14]::.deep [.row 2 (p.chunks.flatMap Chk.dat)] [.slice o9 p.chunks.length k9]::.deep [.row 7 (p.reports.flatMap Rep.dat)] [.slice o7 p.reports.length k7]::R),⟨p.statuses.length,0,none,0,none,rfl,by omega,H.nilOwn 163 5⟩,?_⟩
 clear H;rintro dd6 x q w ⟨j,o24,k24,r,rfl,hjq,H⟩
 refine ⟨fun hc=>?_,fun hc=>?_⟩
 ·rw [decide_eq_true_eq] at hc
  have hjl:j < p.statuses.length:=by omega
  obtain ⟨pp,us,e,hus,hcell,H1⟩:=H.eltF Sta.dat_lenK (by decide) (mt (mt (mt (mt (mt (mt m24)))))) (j:=j) hjl
  have htk:p.statuses.take (j+1)=p.statuses.take j++[p.statuses[j]]:=by rw [List.take_add_one,List.getElem?_eq_getElem hjl];rfl
  clear H
  generalize p.statuses[j]=D at H1 htk
  obtain ⟨V,d0,d1,d2,dl⟩:=D
  refine ⟨pp,e,by omega,by omega,?_⟩
  obtain ⟨la,lc,rfl,H2⟩:=H1.sta5 ms
  refine ⟨_,_,_,_,_,_,_,LdC [.bool V,.int .u16 d0,.int .u16 d1,.int .u16 d2,.slice la dl.length lc] (by kernel_rfl) (by rw [show (j:Int).toNat*5=j*5 by omega];exact hcell),?_⟩
  have H:=H2
  clear H1 H2 hcell
  refine sNew H ?_;clear H;intro b4 w _ H
  refine sSw0 H rfl (by kernel_rfl) (by rfl) (by rfl) ?_;clear H;intro w _ H
  refine ⟨_,_,_,(H.b2.at0 rfl),?_⟩
  refine ⟨_,_,_,_,_,_,_,H.b0.ld,?_⟩
  refine ⟨rfl,?_⟩
  refine sPush1 H (bytes:=32) (by kernel_rfl) (Sta.dat (V,d0,d1,d2,dl)) (by rfl) (fun G h=>dc (.one _) (dc (.one _) (dc (.one _) (dc (.one _) (dc (h (.deep [_] [_]) ms).head dn))))) (by rfl) (by unfold maxLen;omega) (by omega) ?_
  clear H;intro o2 ol2 oc2 r2 w ex2 _ H
  refine sSt2 H (by exact add_flat _ _ _) (by kernel_rfl) (by rfl) (by rfl) ?_;clear H;intro w _ H
  subst ex2
  refine ⟨q - 1,by omega,j+1,o2,oc2,r2,by rw [wi64_of (by omega) (by omega)];simp,by omega,?_⟩
  rw [htk,List.flatMap_append]
  simp only [fm1,fm2,fm3]
  exact H.sub (sc1) (fun r h=>mt (mt h))
 rw [decide_eq_false_iff_not] at hc
 obtain rfl:j=p.statuses.length:=by omega
 rw [List.take_length] at H
 replace H:=H.freeze
 clear hc hjq r q
 refine ⟨_,_,_,(H.b2.at0 rfl),?_⟩
 refine ⟨fun x q w=>∃(j:Nat) (o:Option Addr) (oc:Nat) (r:Option Nat),x=(j:Int)/\j+q=p.deltas.length/\Sat F w (.own 165 2 o j oc r ((p.deltas.take j).flatMap Del.dat)::.blk b27 63 (plC p a8 a10 a13 c8 c10 c13 (.slice o7 p.reports.length k7) (.slice o9 p.chunks.length k9) (.slice o14 p.pairs.length k14) (.slice o15 p.slices.length k15) (.slice o16 p.entries.length k16) (.slice o18 p.blocks.length k18) (.slice o24 p.statuses.length k24) (.slice o j oc))::.blk b3 63 Z::.blk b1 75 (pkC p a7 a8 a9 a10 a13 a14 a15 a16 a18 a24 a25 c7 c8 c9 c10 c13 c14 c15 c16 c18 c24 c25)::ex) (.deep [.row 5 (p.statuses.flatMap Sta.dat)] [.slice o24 p.statuses.length k24]::.deep [.row 3 (p.blocks.flatMap Blo.dat)] [.slice o18 p.blocks.length k18]::.deep [.row 2 (p.entries.flatMap Ent.dat)] [.slice o16 p.entries.length k16]::.deep [.row 3 (p.slices.flatMap Sli.dat)] [.slice o15 p.slices.length k15]::.deep [.row 2 (p.pairs.flatMap Par.dat)] [.slice o14 p.pairs.length k14]::.deep [.row 2 (p.chunks.flatMap Chk.dat)] [.slice o9 p.chunks.length k9]::.deep [.row 7 (p.reports.flatMap Rep.dat)] [.slice o7 p.reports.length k7]::R),⟨p.deltas.length,0,none,0,none,rfl,by omega,H.nilOwn 165 2⟩,?_⟩
 clear H;rintro dd7 x q w ⟨j,o25,k25,r,rfl,hjq,H⟩
 refine ⟨fun hc=>?_,fun hc=>?_⟩
 ·rw [decide_eq_true_eq] at hc
  have hjl:j < p.deltas.length:=by omega
  obtain ⟨pp,us,e,hus,hcell,H1⟩:=H.eltF Del.dat_lenK (by decide) (mt (mt (mt (mt (mt (mt (mt m25))))))) (j:=j) hjl
  have htk:p.deltas.take (j+1)=p.deltas.take j++[p.deltas[j]]:=by rw [List.take_add_one,List.getElem?_eq_getElem hjl];rfl
  clear H
  generalize p.deltas[j]=D at H1 htk
  obtain ⟨d0,d1⟩:=D
  refine ⟨pp,e,by omega,by omega,?_⟩
  obtain rfl:=H1.ones (us:=[.int .u16 d0,.int .i64 d1]) ms
  refine ⟨_,_,LdC [.int .u16 d0,.int .i64 d1] (by kernel_rfl) (by rw [show (j:Int).toNat*2=j*2 by omega];exact hcell),?_⟩
  have H:=H1
  clear H1 hcell
  refine sNew H ?_;clear H;intro b4 w _ H
  refine sSw0 H rfl (by kernel_rfl) (by rfl) (by rfl) ?_;clear H;intro w _ H
  refine ⟨_,_,_,(H.b2.at0 rfl),?_⟩
  refine ⟨_,_,H.b0.ld,?_⟩
  refine ⟨rfl,?_⟩
  refine sPush1 H (bytes:=16) (by kernel_rfl) (Del.dat (d0,d1)) (by rfl) (fun G h=>DeepL.ones [_,_]) (by rfl) (by unfold maxLen;omega) (by omega) ?_
  clear H;intro o2 ol2 oc2 r2 w ex2 _ H
  refine sSt2 H (by exact add_flat _ _ _) (by kernel_rfl) (by rfl) (by rfl) ?_;clear H;intro w _ H
  subst ex2
  refine ⟨q - 1,by omega,j+1,o2,oc2,r2,by rw [wi64_of (by omega) (by omega)];simp,by omega,?_⟩
  rw [htk,List.flatMap_append]
  simp only [fm1,fm2,fm3]
  exact H.sub (sc1) (fun r h=>mt h)
 rw [decide_eq_false_iff_not] at hc
 obtain rfl:j=p.deltas.length:=by omega
 rw [List.take_length] at H
 replace H:=H.freeze
 clear hc hjq r q
 refine ⟨_,Ld0 rfl H.b0 (by kernel_rfl),?_⟩
 rw [hZ] at H
 refine sSw1 H rfl (by kernel_rfl) (by rfl) (by rfl) ?_;clear H;intro w _ H
 refine ⟨_,Ld0 rfl H.b1 (by kernel_rfl),?_⟩
 exact ⟨_,_,rfl,fun r h=>mt (mt (mt (mt (mt (mt (mt (mt (mt (hr r h))))))))),(H.addD (ds:=p.dat) (fun G h=>dc (.one _) (dc (.one _) (dc (.one _) (dc (.one _) (dc (.one _) (dc (.one _) (dc (.one _) (dc (h (.deep [_] [_]) (mt (mt (mt (mt (mt (mt (mt ms)))))))).head (dc (h (.deep [_] [_]) (mt (mt (mt (mt (mt (mt (mt (mt m8))))))))).head (dc (h (.deep [_] [_]) (mt (mt (mt (mt (mt (mt ms))))))).head (dc (h (.deep [_] [_]) (mt (mt (mt (mt (mt (mt (mt (mt m10))))))))).head (dc (.one _) (dc (.one _) (dc (h (.deep [_] [_]) (mt (mt (mt (mt (mt (mt (mt (mt m13))))))))).head (dc (h (.deep [_] [_]) (mt (mt (mt (mt (mt ms)))))).head (dc (h (.deep [_] [_]) (mt (mt (mt (mt ms))))).head (dc (h (.deep [_] [_]) (mt (mt (mt ms)))).head (dc (.one _) (dc (h (.deep [_] [_]) (mt (mt ms))).head (dc (.one _) (dc (.one _) (dc (.one _) (dc (.one _) (dc (.one _) (dc (h (.deep [_] [_]) (mt ms)).head (dc (h (.deep [_] [_]) ms).head (dc (.one _) (dc (.one _) (dc (.one _) (dc (.one _) dn))))))))))))))))))))))))))))))).sub sl1 (fun _ h=>h),ms⟩
theorem c47 {F:Fr} {w:World} {ex:List Ex} {ro:List Ro} {p:Pk} {cells:List Value} (H:Sat F w ex ro) (hp:Ro.deep p.dat cells∈ro) (hs:p.size<=1100000):Calls pg 47 #[.agg cells.toArray] w (CvPost F ex ro p):=by
 obtain ⟨a7,a8,a9,a10,a13,a14,a15,a16,a18,a24,a25,c7,c8,c9,c10,c13,c14,c15,c16,c18,c24,c25,R,rfl,hr,H,m7,m8,m9,m10,m13,m14,m15,m16,m18,m24,m25⟩:=H.pkF hp
 unfold Pk.size at hs
 have hcl:=csz_len p.chunks
 have hcm:=csz_mem p.chunks
 have hbl:=bsz_len p.blocks
 have hbm:=bsz_mem p.blocks
 have hsl:=ssz_len p.statuses
 obtain ⟨Z,hZ⟩:∃Z,Z=pk0 0 0 0 false 0 0 0:=⟨_,rfl⟩
 apply of47
 refine sNew H ?_;clear H;intro b1 w _ H
 replace H:Sat F w (.blk b1 63 (pkC p a7 a8 a9 a10 a13 a14 a15 a16 a18 a24 a25 c7 c8 c9 c10 c13 c14 c15 c16 c18 c24 c25)::ex) R:=H
 refine sNew H ?_;clear H;intro b3 w _ H
 replace H:Sat F w (.blk b3 75 Z::.blk b1 63 (pkC p a7 a8 a9 a10 a13 a14 a15 a16 a18 a24 a25 c7 c8 c9 c10 c13 c14 c15 c16 c18 c24 c25)::ex) R:=by rw [hZ];exact H
 refine ⟨_,(H.b1.at0 rfl),?_⟩
 refine ⟨_,(H.b1.at0 rfl),?_⟩
 refine ⟨_,(H.b1.at0 rfl),?_⟩
 refine ⟨_,(H.b1.at0 rfl),?_⟩
 refine ⟨_,(H.b1.at0 rfl),?_⟩
 refine ⟨_,(H.b1.at0 rfl),?_⟩
 refine ⟨_,(H.b1.at0 rfl),?_⟩
 refine ⟨_,_,_,(H.b1.at0 rfl),?_⟩
 refine ⟨_,_,_,(H.b1.at0 rfl),?_⟩
 refine ⟨_,(H.b1.at0 rfl),?_⟩
 refine ⟨_,(H.b1.at0 rfl),?_⟩
 refine ⟨_,_,_,(H.b1.at0 rfl),?_⟩
 refine ⟨_,(H.b1.at0 rfl),?_⟩
 refine ⟨_,(H.b1.at0 rfl),?_⟩
 refine ⟨_,(H.b1.at0 rfl),?_⟩
 refine ⟨_,(H.b1.at0 rfl),?_⟩
 refine ⟨_,(H.b1.at0 rfl),?_⟩
 refine ⟨_,(H.b1.at0 rfl),?_⟩
 refine ⟨_,_,_,_,Ld (vs:=[.bool p.hp,.int .u8 p.hc,.int .u8 p.ht,.int .u16 p.hl]) (by exact add_flat _ _ _) H.b1 (by kernel_rfl) (by rfl) (by rfl),?_⟩
 refine sNew H ?_;clear H;intro b27 w _ H
 refine sSw0 H rfl (by kernel_rfl) (by rfl) (by rfl) ?_;clear H;intro w _ H
 replace H:Sat F w (.blk b27 75 (plC p a8 a10 a13 c8 c10 c13 N0 N0 N0 N0 N0 N0 N0 N0)::.blk b3 75 Z::.blk b1 63 (pkC p a7 a8 a9 a10 a13 a14 a15 a16 a18 a24 a25 c7 c8 c9 c10 c13 c14 c15 c16 c18 c24 c25)::ex) R:=H
 refine ⟨_,_,_,(H.b2.at0 rfl),?_⟩
 refine ⟨fun x q w=>∃(j:Nat) (o:Option Addr) (oc:Nat) (r:Option Nat),x=(j:Int)/\j+q=p.reports.length/\Sat F w (.own 166 7 o j oc r ((p.reports.take j).flatMap Rep.dat)::.blk b27 75 (plC p a8 a10 a13 c8 c10 c13 (.slice o j oc) N0 N0 N0 N0 N0 N0 N0)::.blk b3 75 Z::.blk b1 63 (pkC p a7 a8 a9 a10 a13 a14 a15 a16 a18 a24 a25 c7 c8 c9 c10 c13 c14 c15 c16 c18 c24 c25)::ex) R,⟨p.reports.length,0,none,0,none,rfl,by omega,H.nilOwn 166 7⟩,?_⟩
 clear H;rintro dd0 x q w ⟨j,o7,k7,r,rfl,hjq,H⟩
 refine ⟨fun hc=>?_,fun hc=>?_⟩
 ·rw [decide_eq_true_eq] at hc
  have hjl:j < p.reports.length:=by omega
  obtain ⟨pp,us,e,hus,hcell,H1⟩:=H.eltF Rep.dat_len' (by decide) m7 (j:=j) hjl
  have htk:p.reports.take (j+1)=p.reports.take j++[p.reports[j]]:=by rw [List.take_add_one,List.getElem?_eq_getElem hjl];rfl
  clear H
  generalize p.reports[j]=D at H1 htk
  obtain ⟨d0,d1,d2,d3,d4,d5,d6⟩:=D
  refine ⟨pp,e,by omega,by omega,?_⟩
  obtain rfl:=H1.ones (us:=[.int .u32 d0,.int .u8 d1,.int .u32 d2,.int .u32 d3,.int .u32 d4,.int .u32 d5,.int .u32 d6]) ms
  refine ⟨_,_,_,_,_,_,_,LdC [.int .u32 d0,.int .u8 d1,.int .u32 d2,.int .u32 d3,.int .u32 d4,.int .u32 d5,.int .u32 d6] (by kernel_rfl) (by rw [show (j:Int).toNat*7=j*7 by omega];exact hcell),?_⟩
  have H:=H1
  clear H1 hcell
  refine sNew H ?_;clear H;intro b4 w _ H
  refine sSw0 H rfl (by kernel_rfl) (by rfl) (by rfl) ?_;clear H;intro w _ H
  refine ⟨_,_,_,(H.b2.at0 rfl),?_⟩
  refine ⟨_,_,_,_,_,_,_,H.b0.ld,?_⟩
  refine ⟨rfl,?_⟩
  refine sPush1 H (bytes:=28) (by kernel_rfl) (Rep.dat (d0,d1,d2,d3,d4,d5,d6)) (by rfl) (fun G h=>DeepL.ones [_,_,_,_,_,_,_]) (by rfl) (by unfold maxLen;omega) (by omega) ?_
  clear H;intro o2 ol2 oc2 r2 w ex2 _ H
  refine sSt2 H (by exact add_flat _ _ _) (by kernel_rfl) (by rfl) (by rfl) ?_;clear H;intro w _ H
  subst ex2
  refine ⟨q - 1,by omega,j+1,o2,oc2,r2,by rw [wi64_of (by omega) (by omega)];simp,by omega,?_⟩
  rw [htk,List.flatMap_append]
  simp only [fm1,fm2,fm3]
  exact H.sub (sc1) (fun r h=>mt h)
 rw [decide_eq_false_iff_not] at hc
 obtain rfl:j=p.reports.length:=by omega
 rw [List.take_length] at H
 replace H:=H.freeze
 clear hc hjq r q
 refine ⟨_,_,_,(H.b2.at0 rfl),?_⟩
 refine ⟨fun x q w=>∃(j:Nat) (o:Option Addr) (oc:Nat) (r:Option Nat),x=(j:Int)/\j+q=p.chunks.length/\Sat F w (.own 169 2 o j oc r ((p.chunks.take j).flatMap Chk.dat)::.blk b27 75 (plC p a8 a10 a13 c8 c10 c13 (.slice o7 p.reports.length k7) (.slice o j oc) N0 N0 N0 N0 N0 N0)::.blk b3 75 Z::.blk b1 63 (pkC p a7 a8 a9 a10 a13 a14 a15 a16 a18 a24 a25 c7 c8 c9 c10 c13 c14 c15 c16 c18 c24 c25)::ex) (.deep [.row 7 (p.reports.flatMap Rep.dat)] [.slice o7 p.reports.length k7]::R),⟨p.chunks.length,0,none,0,none,rfl,by omega,H.nilOwn 169 2⟩,?_⟩
 clear H;rintro dd1 x q w ⟨j,o9,k9,r,rfl,hjq,H⟩
 refine ⟨fun hc=>?_,fun hc=>?_⟩
 ·rw [decide_eq_true_eq] at hc
  have hjl:j < p.chunks.length:=by omega
  obtain ⟨pp,us,e,hus,hcell,H1⟩:=H.eltF Chk.dat_len' (by decide) (mt m9) (j:=j) hjl
  have htk:p.chunks.take (j+1)=p.chunks.take j++[p.chunks[j]]:=by rw [List.take_add_one,List.getElem?_eq_getElem hjl];rfl
  have hDm:=hcm p.chunks[j] (List.getElem_mem hjl)
  clear H
  generalize p.chunks[j]=D at H1 htk hDm
  obtain ⟨d0,msz⟩:=D
  replace hDm:msz.length<=csz p.chunks:=hDm
  refine ⟨pp,e,by omega,by omega,?_⟩
  obtain ⟨x0,us0,rfl,H2⟩:=H1.uncons ms
  obtain ⟨x1,us1,rfl,H3⟩:=H2.uncons (mt ms)
  obtain rfl:us1=[]:=by simpa using hus
  obtain rfl:=H2.one1 ms
  obtain ⟨sa,sn,sc,rfl,hsl2⟩:=H3.rowS ms
  rw [flat_len Itm.dat_len] at hsl2
  obtain rfl:sn=msz.length:=by omega
  refine ⟨_,_,_,_,LdC [.int .u32 d0,.slice sa msz.length sc] (by kernel_rfl) (by rw [show (j:Int).toNat*2=j*2 by omega];exact hcell),?_⟩
  have H:Sat F w _ (.deep [.row 2 (msz.flatMap Itm.dat)] [.slice sa msz.length sc]::(.deep [.row 7 (p.reports.flatMap Rep.dat)] [.slice o7 p.reports.length k7]::R)):=H3.sub (List.Sublist.refl _) (fun r h=>by
   rcases List.mem_cons.1 h with rfl | h
   ·exact ms
   ·exact (mt (mt (mt (mt (mt h))))))
  clear hcell H1 H2 H3
  refine sNew H ?_;clear H;intro b13 w _ H
  refine sSw0 H rfl (by kernel_rfl) (by rfl) (by rfl) ?_;clear H;intro w _ H
  refine ⟨_,(H.b0.at0 rfl),?_⟩
  refine sNew H ?_;clear H;intro b18 w _ H
  refine sSw0 H rfl (by kernel_rfl) (by rfl) (by rfl) ?_;clear H;intro w _ H
  refine ⟨_,_,_,(H.b1.at0 rfl),?_⟩
  refine ⟨fun x m2 w=>∃(i:Nat) (o2:Option Addr) (oc2:Nat) (r2:Option Nat),x=(i:Int)/\i+m2=msz.length/\Sat F w (.own 170 2 o2 i oc2 r2 ((msz.take i).flatMap Itm.dat)::.blk b18 169 [.int .u32 d0,.slice o2 i oc2]::.blk b13 147 [.int .u32 d0,.slice sa msz.length sc]::.own 169 2 o9 j k9 r ((p.chunks.take j).flatMap Chk.dat)::.blk b27 75 (plC p a8 a10 a13 c8 c10 c13 (.slice o7 p.reports.length k7) (.slice o9 j k9) N0 N0 N0 N0 N0 N0)::.blk b3 75 Z::.blk b1 63 (pkC p a7 a8 a9 a10 a13 a14 a15 a16 a18 a24 a25 c7 c8 c9 c10 c13 c14 c15 c16 c18 c24 c25)::ex) (.deep [.row 2 (msz.flatMap Itm.dat)] [.slice sa msz.length sc]::(.deep [.row 7 (p.reports.flatMap Rep.dat)] [.slice o7 p.reports.length k7]::R)),⟨msz.length,0,none,0,none,rfl,by omega,H.nilOwn 170 2⟩,?_⟩
  clear H;rintro dd23 x m2 w ⟨i,o2,oc2,r2,rfl,him,H⟩
  refine ⟨fun hc=>?_,fun hc=>?_⟩
  ·rw [decide_eq_true_eq] at hc
   have hil:i < msz.length:=by omega
   obtain ⟨p2,us,eq2,hus2,hcell,H1⟩:=H.eltF Itm.dat_len (by decide) ms (j:=i) hil
   have htk2:msz.take (i+1)=msz.take i++[msz[i]]:=by rw [List.take_add_one,List.getElem?_eq_getElem hil];rfl
   clear H
   generalize msz[i]=E at H1 htk2
   obtain ⟨e0,e1⟩:=E
   refine ⟨p2,eq2,by omega,by omega,?_⟩
   obtain rfl:=H1.ones (us:=[.int .u8 e0,.string e1]) ms
   refine ⟨_,_,LdC [.int .u8 e0,.string e1] (by kernel_rfl) (by rw [show (i:Int).toNat*2=i*2 by omega];exact hcell),?_⟩
   have H:=H1
   clear H1 hcell
   refine sNew H ?_;clear H;intro b33 w _ H
   refine sSw0 H rfl (by kernel_rfl) (by rfl) (by rfl) ?_;clear H;intro w _ H
   refine ⟨_,_,_,(H.b2.at0 rfl),?_⟩
   refine ⟨_,_,H.b0.ld,?_⟩
   refine ⟨rfl,?_⟩
   refine sPush1 H (bytes:=24) (by kernel_rfl) (Itm.dat (e0,e1)) (by rfl) (fun G h=>DeepL.ones [_,_]) (by rfl) (by unfold maxLen;omega) (by omega) ?_
   clear H;intro o3 ol3 oc3 r3 w ex3 _ H
   refine sSt2 H (by exact add_flat _ _ _) (by kernel_rfl) (by rfl) (by rfl) ?_;clear H;intro w _ H
   subst ex3
   refine ⟨m2 - 1,by omega,i+1,o3,oc3,r3,by rw [wi64_of (by omega) (by omega)];simp,by omega,?_⟩
   rw [htk2,List.flatMap_append]
   simp only [fm1,fm2,fm3]
   exact H.sub (sc1) (fun r h=>mt h)
  ·rw [decide_eq_false_iff_not] at hc
   obtain rfl:i=msz.length:=by omega
   rw [List.take_length] at H
   replace H:=H.freeze
   refine ⟨_,_,_,(H.b3.at0 rfl),?_⟩
   refine ⟨_,_,_,_,H.b0.ld,?_⟩
   refine ⟨rfl,?_⟩
   refine sPush2 H (bytes:=32) (by kernel_rfl) (Chk.dat (d0,msz)) (by rfl) (fun G h=>dc (.one _) (dc (h (.deep [_] [_]) ms).head dn)) (by rfl) (by unfold maxLen;omega) (by omega) ?_
   clear H;intro o2 ol2 oc2 r2 w ex2 _ H
   refine sSt3 H (by exact add_flat _ _ _) (by kernel_rfl) (by rfl) (by rfl) ?_;clear H;intro w _ H
   subst ex2
   refine ⟨q - 1,by omega,j+1,o2,oc2,r2,by rw [wi64_of (by omega) (by omega)];simp,by omega,?_⟩
   rw [htk,List.flatMap_append]
   simp only [fm1,fm2,fm3]
   exact H.sub ((sc1).trans (sc1)) (fun r h=>mt (mt h))
 rw [decide_eq_false_iff_not] at hc
 obtain rfl:j=p.chunks.length:=by omega
 rw [List.take_length] at H
 replace H:=H.freeze
 clear hc hjq r q
 refine ⟨_,_,_,(H.b2.at0 rfl),?_⟩
 refine ⟨fun x q w=>∃(j:Nat) (o:Option Addr) (oc:Nat) (r:Option Nat),x=(j:Int)/\j+q=p.pairs.length/\Sat F w (.own 171 2 o j oc r ((p.pairs.take j).flatMap Par.dat)::.blk b27 75 (plC p a8 a10 a13 c8 c10 c13 (.slice o7 p.reports.length k7) (.slice o9 p.chunks.length k9) (.slice o j oc) N0 N0 N0 N0 N0)::.blk b3 75 Z::.blk b1 63 (pkC p a7 a8 a9 a10 a13 a14 a15 a16 a18 a24 a25 c7 c8 c9 c10 c13 c14 c15 c16 c18 c24 c25)::ex) (.deep [.row 2 (p.chunks.flatMap Chk.dat)] [.slice o9 p.chunks.length k9]::.deep [.row 7 (p.reports.flatMap Rep.dat)] [.slice o7 p.reports.length k7]::R),⟨p.pairs.length,0,none,0,none,rfl,by omega,H.nilOwn 171 2⟩,?_⟩
 clear H;rintro dd2 x q w ⟨j,o14,k14,r,rfl,hjq,H⟩
 refine ⟨fun hc=>?_,fun hc=>?_⟩
 ·rw [decide_eq_true_eq] at hc
  have hjl:j < p.pairs.length:=by omega
  obtain ⟨pp,us,e,hus,hcell,H1⟩:=H.eltF Par.dat_lenK (by decide) (mt (mt m14)) (j:=j) hjl
  have htk:p.pairs.take (j+1)=p.pairs.take j++[p.pairs[j]]:=by rw [List.take_add_one,List.getElem?_eq_getElem hjl];rfl
  clear H
  generalize p.pairs[j]=D at H1 htk
  obtain ⟨d0,d1⟩:=D
  refine ⟨pp,e,by omega,by omega,?_⟩
  obtain rfl:=H1.ones (us:=[.int .u16 d0,.int .u16 d1]) ms
  refine ⟨_,_,LdC [.int .u16 d0,.int .u16 d1] (by kernel_rfl) (by rw [show (j:Int).toNat*2=j*2 by omega];exact hcell),?_⟩
  have H:=H1
  clear H1 hcell
  refine sNew H ?_;clear H;intro b4 w _ H
  refine sSw0 H rfl (by kernel_rfl) (by rfl) (by rfl) ?_;clear H;intro w _ H
  refine ⟨_,_,_,(H.b2.at0 rfl),?_⟩
  refine ⟨_,_,H.b0.ld,?_⟩
  refine ⟨rfl,?_⟩
  refine sPush1 H (bytes:=4) (by kernel_rfl) (Par.dat (d0,d1)) (by rfl) (fun G h=>DeepL.ones [_,_]) (by rfl) (by unfold maxLen;omega) (by omega) ?_
  clear H;intro o2 ol2 oc2 r2 w ex2 _ H
  refine sSt2 H (by exact add_flat _ _ _) (by kernel_rfl) (by rfl) (by rfl) ?_;clear H;intro w _ H
  subst ex2
  refine ⟨q - 1,by omega,j+1,o2,oc2,r2,by rw [wi64_of (by omega) (by omega)];simp,by omega,?_⟩
  rw [htk,List.flatMap_append]
  simp only [fm1,fm2,fm3]
  exact H.sub (sc1) (fun r h=>mt h)
 rw [decide_eq_false_iff_not] at hc
 obtain rfl:j=p.pairs.length:=by omega
 rw [List.take_length] at H
 replace H:=H.freeze
 clear hc hjq r q
 refine ⟨_,_,_,(H.b2.at0 rfl),?_⟩
 refine ⟨fun x q w=>∃(j:Nat) (o:Option Addr) (oc:Nat) (r:Option Nat),x=(j:Int)/\j+q=p.slices.length/\Sat F w (.own 172 3 o j oc r ((p.slices.take j).flatMap Sli.dat)::.blk b27 75 (plC p a8 a10 a13 c8 c10 c13 (.slice o7 p.reports.length k7) (.slice o9 p.chunks.length k9) (.slice o14 p.pairs.length k14) (.slice o j oc) N0 N0 N0 N0)::.blk b3 75 Z::.blk b1 63 (pkC p a7 a8 a9 a10 a13 a14 a15 a16 a18 a24 a25 c7 c8 c9 c10 c13 c14 c15 c16 c18 c24 c25)::ex) (.deep [.row 2 (p.pairs.flatMap Par.dat)] [.slice o14 p.pairs.length k14]::.deep [.row 2 (p.chunks.flatMap Chk.dat)] [.slice o9 p.chunks.length k9]::.deep [.row 7 (p.reports.flatMap Rep.dat)] [.slice o7 p.reports.length k7]::R),⟨p.slices.length,0,none,0,none,rfl,by omega,H.nilOwn 172 3⟩,?_⟩
 clear H;rintro dd3 x q w ⟨j,o15,k15,r,rfl,hjq,H⟩
 refine ⟨fun hc=>?_,fun hc=>?_⟩
 ·rw [decide_eq_true_eq] at hc
  have hjl:j < p.slices.length:=by omega
  obtain ⟨pp,us,e,hus,hcell,H1⟩:=H.eltF Sli.dat_lenK (by decide) (mt (mt (mt m15))) (j:=j) hjl
  have htk:p.slices.take (j+1)=p.slices.take j++[p.slices[j]]:=by rw [List.take_add_one,List.getElem?_eq_getElem hjl];rfl
  clear H
  generalize p.slices[j]=D at H1 htk
  obtain ⟨d0,d1,d2⟩:=D
  refine ⟨pp,e,by omega,by omega,?_⟩
  obtain rfl:=H1.ones (us:=[.int .u16 d0,.int .u16 d1,.int .u8 d2]) ms
  refine ⟨_,_,_,LdC [.int .u16 d0,.int .u16 d1,.int .u8 d2] (by kernel_rfl) (by rw [show (j:Int).toNat*3=j*3 by omega];exact hcell),?_⟩
  have H:=H1
  clear H1 hcell
  refine sNew H ?_;clear H;intro b4 w _ H
  refine sSw0 H rfl (by kernel_rfl) (by rfl) (by rfl) ?_;clear H;intro w _ H
  refine ⟨_,_,_,(H.b2.at0 rfl),?_⟩
  refine ⟨_,_,_,H.b0.ld,?_⟩
  refine ⟨rfl,?_⟩
  refine sPush1 H (bytes:=6) (by kernel_rfl) (Sli.dat (d0,d1,d2)) (by rfl) (fun G h=>DeepL.ones [_,_,_]) (by rfl) (by unfold maxLen;omega) (by omega) ?_
  clear H;intro o2 ol2 oc2 r2 w ex2 _ H
  refine sSt2 H (by exact add_flat _ _ _) (by kernel_rfl) (by rfl) (by rfl) ?_;clear H;intro w _ H
  subst ex2
  refine ⟨q - 1,by omega,j+1,o2,oc2,r2,by rw [wi64_of (by omega) (by omega)];simp,by omega,?_⟩
  rw [htk,List.flatMap_append]
  simp only [fm1,fm2,fm3]
  exact H.sub (sc1) (fun r h=>mt h)
 rw [decide_eq_false_iff_not] at hc
 obtain rfl:j=p.slices.length:=by omega
 rw [List.take_length] at H
 replace H:=H.freeze
 clear hc hjq r q
 refine ⟨_,_,_,(H.b2.at0 rfl),?_⟩
 refine ⟨fun x q w=>∃(j:Nat) (o:Option Addr) (oc:Nat) (r:Option Nat),x=(j:Int)/\j+q=p.entries.length/\Sat F w (.own 173 2 o j oc r ((p.entries.take j).flatMap Ent.dat)::.blk b27 75 (plC p a8 a10 a13 c8 c10 c13 (.slice o7 p.reports.length k7) (.slice o9 p.chunks.length k9) (.slice o14 p.pairs.length k14) (.slice o15 p.slices.length k15) (.slice o j oc) N0 N0 N0)::.blk b3 75 Z::.blk b1 63 (pkC p a7 a8 a9 a10 a13 a14 a15 a16 a18 a24 a25 c7 c8 c9 c10 c13 c14 c15 c16 c18 c24 c25)::ex) (.deep [.row 3 (p.slices.flatMap Sli.dat)] [.slice o15 p.slices.length k15]::.deep [.row 2 (p.pairs.flatMap Par.dat)] [.slice o14 p.pairs.length k14]::.deep [.row 2 (p.chunks.flatMap Chk.dat)] [.slice o9 p.chunks.length k9]::.deep [.row 7 (p.reports.flatMap Rep.dat)] [.slice o7 p.reports.length k7]::R),⟨p.entries.length,0,none,0,none,rfl,by omega,H.nilOwn 173 2⟩,?_⟩
 clear H;rintro dd4 x q w ⟨j,o16,k16,r,rfl,hjq,H⟩
 refine ⟨fun hc=>?_,fun hc=>?_⟩
 ·rw [decide_eq_true_eq] at hc
  have hjl:j < p.entries.length:=by omega
  obtain ⟨pp,us,e,hus,hcell,H1⟩:=H.eltF Ent.dat_lenK (by decide) (mt (mt (mt (mt m16)))) (j:=j) hjl
  have htk:p.entries.take (j+1)=p.entries.take j++[p.entries[j]]:=by rw [List.take_add_one,List.getElem?_eq_getElem hjl];rfl
  clear H
  generalize p.entries[j]=D at H1 htk
  obtain ⟨d0,d1⟩:=D
  refine ⟨pp,e,by omega,by omega,?_⟩
  obtain rfl:=H1.ones (us:=[.int .u32 d0,.int .u8 d1]) ms
  refine ⟨_,_,LdC [.int .u32 d0,.int .u8 d1] (by kernel_rfl) (by rw [show (j:Int).toNat*2=j*2 by omega];exact hcell),?_⟩
  have H:=H1
  clear H1 hcell
  refine sNew H ?_;clear H;intro b4 w _ H
  refine sSw0 H rfl (by kernel_rfl) (by rfl) (by rfl) ?_;clear H;intro w _ H
  refine ⟨_,_,_,(H.b2.at0 rfl),?_⟩
  refine ⟨_,_,H.b0.ld,?_⟩
  refine ⟨rfl,?_⟩
  refine sPush1 H (bytes:=8) (by kernel_rfl) (Ent.dat (d0,d1)) (by rfl) (fun G h=>DeepL.ones [_,_]) (by rfl) (by unfold maxLen;omega) (by omega) ?_
  clear H;intro o2 ol2 oc2 r2 w ex2 _ H
  refine sSt2 H (by exact add_flat _ _ _) (by kernel_rfl) (by rfl) (by rfl) ?_;clear H;intro w _ H
  subst ex2
  refine ⟨q - 1,by omega,j+1,o2,oc2,r2,by rw [wi64_of (by omega) (by omega)];simp,by omega,?_⟩
  rw [htk,List.flatMap_append]
  simp only [fm1,fm2,fm3]
  exact H.sub (sc1) (fun r h=>mt h)
 rw [decide_eq_false_iff_not] at hc
 obtain rfl:j=p.entries.length:=by omega
 rw [List.take_length] at H
 replace H:=H.freeze
 clear hc hjq r q
 refine ⟨_,_,_,(H.b2.at0 rfl),?_⟩
 refine ⟨fun x q w=>∃(j:Nat) (o:Option Addr) (oc:Nat) (r:Option Nat),x=(j:Int)/\j+q=p.blocks.length/\Sat F w (.own 176 3 o j oc r ((p.blocks.take j).flatMap Blo.dat)::.blk b27 75 (plC p a8 a10 a13 c8 c10 c13 (.slice o7 p.reports.length k7) (.slice o9 p.chunks.length k9) (.slice o14 p.pairs.length k14) (.slice o15 p.slices.length k15) (.slice o16 p.entries.length k16) (.slice o j oc) N0 N0)::.blk b3 75 Z::.blk b1 63 (pkC p a7 a8 a9 a10 a13 a14 a15 a16 a18 a24 a25 c7 c8 c9 c10 c13 c14 c15 c16 c18 c24 c25)::ex) (.deep [.row 2 (p.entries.flatMap Ent.dat)] [.slice o16 p.entries.length k16]::.deep [.row 3 (p.slices.flatMap Sli.dat)] [.slice o15 p.slices.length k15]::.deep [.row 2 (p.pairs.flatMap Par.dat)] [.slice o14 p.pairs.length k14]::.deep [.row 2 (p.chunks.flatMap Chk.dat)] [.slice o9 p.chunks.length k9]::.deep [.row 7 (p.reports.flatMap Rep.dat)] [.slice o7 p.reports.length k7]::R),⟨p.blocks.length,0,none,0,none,rfl,by omega,H.nilOwn 176 3⟩,?_⟩
 clear H;rintro dd5 x q w ⟨j,o18,k18,r,rfl,hjq,H⟩
 refine ⟨fun hc=>?_,fun hc=>?_⟩
 ·rw [decide_eq_true_eq] at hc
  have hjl:j < p.blocks.length:=by omega
  obtain ⟨pp,us,e,hus,hcell,H1⟩:=H.eltF Blo.dat_len' (by decide) (mt (mt (mt (mt (mt m18))))) (j:=j) hjl
  have htk:p.blocks.take (j+1)=p.blocks.take j++[p.blocks[j]]:=by rw [List.take_add_one,List.getElem?_eq_getElem hjl];rfl
  have hDm:=hbm p.blocks[j] (List.getElem_mem hjl)
  clear H
  generalize p.blocks[j]=D at H1 htk hDm
  obtain ⟨d0,d1,msz⟩:=D
  replace hDm:msz.length<=bsz p.blocks:=hDm
  refine ⟨pp,e,by omega,by omega,?_⟩
  obtain ⟨x0,us0,rfl,H2⟩:=H1.uncons ms
  obtain ⟨x1,us1,rfl,H3⟩:=H2.uncons (mt ms)
  obtain ⟨x2,us2,rfl,H4⟩:=H3.uncons (mt ms)
  obtain rfl:us2=[]:=by simpa using hus
  obtain rfl:=H2.one1 ms
  obtain rfl:=H3.one1 ms
  obtain ⟨sa,sn,sc,rfl,hsl2⟩:=H4.rowS ms
  rw [flat_len Met.dat_len'] at hsl2
  obtain rfl:sn=msz.length:=by omega
  refine ⟨_,_,_,_,_,LdC [.int .u32 d0,.int .u16 d1,.slice sa msz.length sc] (by kernel_rfl) (by rw [show (j:Int).toNat*3=j*3 by omega];exact hcell),?_⟩
  have H:Sat F w _ (.deep [.row 3 (msz.flatMap Met.dat)] [.slice sa msz.length sc]::(.deep [.row 2 (p.entries.flatMap Ent.dat)] [.slice o16 p.entries.length k16]::.deep [.row 3 (p.slices.flatMap Sli.dat)] [.slice o15 p.slices.length k15]::.deep [.row 2 (p.pairs.flatMap Par.dat)] [.slice o14 p.pairs.length k14]::.deep [.row 2 (p.chunks.flatMap Chk.dat)] [.slice o9 p.chunks.length k9]::.deep [.row 7 (p.reports.flatMap Rep.dat)] [.slice o7 p.reports.length k7]::R)):=H4.sub (List.Sublist.refl _) (fun r h=>by
   rcases List.mem_cons.1 h with rfl | h
   ·exact ms
   ·exact (mt (mt (mt (mt (mt (mt (mt h))))))))
  clear hcell H1 H2 H3 H4
  refine sNew H ?_;clear H;intro b13 w _ H
  refine sSw0 H rfl (by kernel_rfl) (by rfl) (by rfl) ?_;clear H;intro w _ H
  refine ⟨_,(H.b0.at0 rfl),?_⟩
  refine ⟨_,(H.b0.at0 rfl),?_⟩
  refine sNew H ?_;clear H;intro b18 w _ H
  refine sSw0 H rfl (by kernel_rfl) (by rfl) (by rfl) ?_;clear H;intro w _ H
  refine ⟨_,_,_,(H.b1.at0 rfl),?_⟩
  refine ⟨fun x m2 w=>∃(i:Nat) (o2:Option Addr) (oc2:Nat) (r2:Option Nat),x=(i:Int)/\i+m2=msz.length/\Sat F w (.own 177 3 o2 i oc2 r2 ((msz.take i).flatMap Met.dat)::.blk b18 176 [.int .u32 d0,.int .u16 d1,.slice o2 i oc2]::.blk b13 158 [.int .u32 d0,.int .u16 d1,.slice sa msz.length sc]::.own 176 3 o18 j k18 r ((p.blocks.take j).flatMap Blo.dat)::.blk b27 75 (plC p a8 a10 a13 c8 c10 c13 (.slice o7 p.reports.length k7) (.slice o9 p.chunks.length k9) (.slice o14 p.pairs.length k14) (.slice o15 p.slices.length k15) (.slice o16 p.entries.length k16) (.slice o18 j k18) N0 N0)::.blk b3 75 Z::.blk b1 63 (pkC p a7 a8 a9 a10 a13 a14 a15 a16 a18 a24 a25 c7 c8 c9 c10 c13 c14 c15 c16 c18 c24 c25)::ex) (.deep [.row 3 (msz.flatMap Met.dat)] [.slice sa msz.length sc]::(.deep [.row 2 (p.entries.flatMap Ent.dat)] [.slice o16 p.entries.length k16]::.deep [.row 3 (p.slices.flatMap Sli.dat)] [.slice o15 p.slices.length k15]::.deep [.row 2 (p.pairs.flatMap Par.dat)] [.slice o14 p.pairs.length k14]::.deep [.row 2 (p.chunks.flatMap Chk.dat)] [.slice o9 p.chunks.length k9]::.deep [.row 7 (p.reports.flatMap Rep.dat)] [.slice o7 p.reports.length k7]::R)),⟨msz.length,0,none,0,none,rfl,by omega,H.nilOwn 177 3⟩,?_⟩
  clear H;rintro dd23 x m2 w ⟨i,o2,oc2,r2,rfl,him,H⟩
  refine ⟨fun hc=>?_,fun hc=>?_⟩
  ·rw [decide_eq_true_eq] at hc
   have hil:i < msz.length:=by omega
   obtain ⟨p2,us,eq2,hus2,hcell,H1⟩:=H.eltF Met.dat_len' (by decide) ms (j:=i) hil
   have htk2:msz.take (i+1)=msz.take i++[msz[i]]:=by rw [List.take_add_one,List.getElem?_eq_getElem hil];rfl
   clear H
   generalize msz[i]=E at H1 htk2
   obtain ⟨e0,e1,e2⟩:=E
   refine ⟨p2,eq2,by omega,by omega,?_⟩
   obtain rfl:=H1.ones (us:=[.bool e0,.int .u8 e1,.int .u16 e2]) ms
   refine ⟨_,_,_,LdC [.bool e0,.int .u8 e1,.int .u16 e2] (by kernel_rfl) (by rw [show (i:Int).toNat*3=i*3 by omega];exact hcell),?_⟩
   have H:=H1
   clear H1 hcell
   refine sNew H ?_;clear H;intro b33 w _ H
   refine sSw0 H rfl (by kernel_rfl) (by rfl) (by rfl) ?_;clear H;intro w _ H
   refine ⟨_,_,_,(H.b2.at0 rfl),?_⟩
   refine ⟨_,_,_,H.b0.ld,?_⟩
   refine ⟨rfl,?_⟩
   refine sPush1 H (bytes:=4) (by kernel_rfl) (Met.dat (e0,e1,e2)) (by rfl) (fun G h=>DeepL.ones [_,_,_]) (by rfl) (by unfold maxLen;omega) (by omega) ?_
   clear H;intro o3 ol3 oc3 r3 w ex3 _ H
   refine sSt2 H (by exact add_flat _ _ _) (by kernel_rfl) (by rfl) (by rfl) ?_;clear H;intro w _ H
   subst ex3
   refine ⟨m2 - 1,by omega,i+1,o3,oc3,r3,by rw [wi64_of (by omega) (by omega)];simp,by omega,?_⟩
   rw [htk2,List.flatMap_append]
   simp only [fm1,fm2,fm3]
   exact H.sub (sc1) (fun r h=>mt h)
  ·rw [decide_eq_false_iff_not] at hc
   obtain rfl:i=msz.length:=by omega
   rw [List.take_length] at H
   replace H:=H.freeze
   refine ⟨_,_,_,(H.b3.at0 rfl),?_⟩
   refine ⟨_,_,_,_,_,H.b0.ld,?_⟩
   refine ⟨rfl,?_⟩
   refine sPush2 H (bytes:=32) (by kernel_rfl) (Blo.dat (d0,d1,msz)) (by rfl) (fun G h=>dc (.one _) (dc (.one _) (dc (h (.deep [_] [_]) ms).head dn))) (by rfl) (by unfold maxLen;omega) (by omega) ?_
   clear H;intro o2 ol2 oc2 r2 w ex2 _ H
   refine sSt3 H (by exact add_flat _ _ _) (by kernel_rfl) (by rfl) (by rfl) ?_;clear H;intro w _ H
   subst ex2
   refine ⟨q - 1,by omega,j+1,o2,oc2,r2,by rw [wi64_of (by omega) (by omega)];simp,by omega,?_⟩
   rw [htk,List.flatMap_append]
   simp only [fm1,fm2,fm3]
   exact H.sub ((sc1).trans (sc1)) (fun r h=>mt (mt h))
 rw [decide_eq_false_iff_not] at hc
 obtain rfl:j=p.blocks.length:=by omega
 rw [List.take_length] at H
 replace H:=H.freeze
 clear hc hjq r q
 refine ⟨_,_,_,(H.b2.at0 rfl),?_⟩
 refine ⟨fun x q w=>∃(j:Nat) (o:Option Addr) (oc:Nat) (r:Option Nat),x=(j:Int)/\j+q=p.statuses.length/\Sat F w (.own 178 5 o j oc r ((p.statuses.take j).flatMap Sta.dat)::.blk b27 75 (plC p a8 a10 a13 c8 c10 c13 (.slice o7 p.reports.length k7) (.slice o9 p.chunks.length k9) (.slice o14 p.pairs.length k14) (.slice o15 p.slices.length k15) (.slice o16 p.entries.length k16) (.slice o18 p.blocks.length k18) (.slice o j oc) N0)::.blk b3 75 Z::.blk b1 63 (pkC p a7 a8 a9 a10 a13 a14 a15 a16 a18 a24 a25 c7 c8 c9 c10 c13 c14 c15 c16 c18 c24 c25)::ex) (.deep [.row 3 (p.blocks.flatMap Blo.dat)] [.slice o18 p.blocks.length k18]::.deep [.row 2 (p.entries.flatMap Ent.dat)] [.slice o16 p.entries.length k16]::.deep [.row 3 (p.slices.flatMap Sli.dat)] [.slice o15 p.slices.length k15]::.deep [.row 2 (p.pairs.flatMap Par.dat)] [.slice o14 p.pairs.length k14]::.deep [.row 2 (p.chunks.flatMap Chk.dat)] [.slice o9 p.chunks.length k9]::.deep [.row 7 (p.reports.flatMap Rep.dat)] [.slice o7 p.reports.length k7]::R),⟨p.statuses.length,0,none,0,none,rfl,by omega,H.nilOwn 178 5⟩,?_⟩
 clear H;rintro dd6 x q w ⟨j,o24,k24,r,rfl,hjq,H⟩
 refine ⟨fun hc=>?_,fun hc=>?_⟩
 ·rw [decide_eq_true_eq] at hc
  have hjl:j < p.statuses.length:=by omega
  obtain ⟨pp,us,e,hus,hcell,H1⟩:=H.eltF Sta.dat_lenK (by decide) (mt (mt (mt (mt (mt (mt m24)))))) (j:=j) hjl
  have htk:p.statuses.take (j+1)=p.statuses.take j++[p.statuses[j]]:=by rw [List.take_add_one,List.getElem?_eq_getElem hjl];rfl
  clear H
  generalize p.statuses[j]=D at H1 htk
  obtain ⟨V,d0,d1,d2,dl⟩:=D
  refine ⟨pp,e,by omega,by omega,?_⟩
  obtain ⟨la,lc,rfl,H2⟩:=H1.sta5 ms
  refine ⟨_,_,_,_,_,_,_,LdC [.bool V,.int .u16 d0,.int .u16 d1,.int .u16 d2,.slice la dl.length lc] (by kernel_rfl) (by rw [show (j:Int).toNat*5=j*5 by omega];exact hcell),?_⟩
  have H:=H2
  clear H1 H2 hcell
  refine sNew H ?_;clear H;intro b4 w _ H
  refine sSw0 H rfl (by kernel_rfl) (by rfl) (by rfl) ?_;clear H;intro w _ H
  refine ⟨_,_,_,(H.b2.at0 rfl),?_⟩
  refine ⟨_,_,_,_,_,_,_,H.b0.ld,?_⟩
  refine ⟨rfl,?_⟩
  refine sPush1 H (bytes:=32) (by kernel_rfl) (Sta.dat (V,d0,d1,d2,dl)) (by rfl) (fun G h=>dc (.one _) (dc (.one _) (dc (.one _) (dc (.one _) (dc (h (.deep [_] [_]) ms).head dn))))) (by rfl) (by unfold maxLen;omega) (by omega) ?_
  clear H;intro o2 ol2 oc2 r2 w ex2 _ H
  refine sSt2 H (by exact add_flat _ _ _) (by kernel_rfl) (by rfl) (by rfl) ?_;clear H;intro w _ H
  subst ex2
  refine ⟨q - 1,by omega,j+1,o2,oc2,r2,by rw [wi64_of (by omega) (by omega)];simp,by omega,?_⟩
  rw [htk,List.flatMap_append]
  simp only [fm1,fm2,fm3]
  exact H.sub (sc1) (fun r h=>mt (mt h))
 rw [decide_eq_false_iff_not] at hc
 obtain rfl:j=p.statuses.length:=by omega
 rw [List.take_length] at H
 replace H:=H.freeze
 clear hc hjq r q
 refine ⟨_,_,_,(H.b2.at0 rfl),?_⟩
 refine ⟨fun x q w=>∃(j:Nat) (o:Option Addr) (oc:Nat) (r:Option Nat),x=(j:Int)/\j+q=p.deltas.length/\Sat F w (.own 179 2 o j oc r ((p.deltas.take j).flatMap Del.dat)::.blk b27 75 (plC p a8 a10 a13 c8 c10 c13 (.slice o7 p.reports.length k7) (.slice o9 p.chunks.length k9) (.slice o14 p.pairs.length k14) (.slice o15 p.slices.length k15) (.slice o16 p.entries.length k16) (.slice o18 p.blocks.length k18) (.slice o24 p.statuses.length k24) (.slice o j oc))::.blk b3 75 Z::.blk b1 63 (pkC p a7 a8 a9 a10 a13 a14 a15 a16 a18 a24 a25 c7 c8 c9 c10 c13 c14 c15 c16 c18 c24 c25)::ex) (.deep [.row 5 (p.statuses.flatMap Sta.dat)] [.slice o24 p.statuses.length k24]::.deep [.row 3 (p.blocks.flatMap Blo.dat)] [.slice o18 p.blocks.length k18]::.deep [.row 2 (p.entries.flatMap Ent.dat)] [.slice o16 p.entries.length k16]::.deep [.row 3 (p.slices.flatMap Sli.dat)] [.slice o15 p.slices.length k15]::.deep [.row 2 (p.pairs.flatMap Par.dat)] [.slice o14 p.pairs.length k14]::.deep [.row 2 (p.chunks.flatMap Chk.dat)] [.slice o9 p.chunks.length k9]::.deep [.row 7 (p.reports.flatMap Rep.dat)] [.slice o7 p.reports.length k7]::R),⟨p.deltas.length,0,none,0,none,rfl,by omega,H.nilOwn 179 2⟩,?_⟩
 clear H;rintro dd7 x q w ⟨j,o25,k25,r,rfl,hjq,H⟩
 refine ⟨fun hc=>?_,fun hc=>?_⟩
 ·rw [decide_eq_true_eq] at hc
  have hjl:j < p.deltas.length:=by omega
  obtain ⟨pp,us,e,hus,hcell,H1⟩:=H.eltF Del.dat_lenK (by decide) (mt (mt (mt (mt (mt (mt (mt m25))))))) (j:=j) hjl
  have htk:p.deltas.take (j+1)=p.deltas.take j++[p.deltas[j]]:=by rw [List.take_add_one,List.getElem?_eq_getElem hjl];rfl
  clear H
  generalize p.deltas[j]=D at H1 htk
  obtain ⟨d0,d1⟩:=D
  refine ⟨pp,e,by omega,by omega,?_⟩
  obtain rfl:=H1.ones (us:=[.int .u16 d0,.int .i64 d1]) ms
  refine ⟨_,_,LdC [.int .u16 d0,.int .i64 d1] (by kernel_rfl) (by rw [show (j:Int).toNat*2=j*2 by omega];exact hcell),?_⟩
  have H:=H1
  clear H1 hcell
  refine sNew H ?_;clear H;intro b4 w _ H
  refine sSw0 H rfl (by kernel_rfl) (by rfl) (by rfl) ?_;clear H;intro w _ H
  refine ⟨_,_,_,(H.b2.at0 rfl),?_⟩
  refine ⟨_,_,H.b0.ld,?_⟩
  refine ⟨rfl,?_⟩
  refine sPush1 H (bytes:=16) (by kernel_rfl) (Del.dat (d0,d1)) (by rfl) (fun G h=>DeepL.ones [_,_]) (by rfl) (by unfold maxLen;omega) (by omega) ?_
  clear H;intro o2 ol2 oc2 r2 w ex2 _ H
  refine sSt2 H (by exact add_flat _ _ _) (by kernel_rfl) (by rfl) (by rfl) ?_;clear H;intro w _ H
  subst ex2
  refine ⟨q - 1,by omega,j+1,o2,oc2,r2,by rw [wi64_of (by omega) (by omega)];simp,by omega,?_⟩
  rw [htk,List.flatMap_append]
  simp only [fm1,fm2,fm3]
  exact H.sub (sc1) (fun r h=>mt h)
 rw [decide_eq_false_iff_not] at hc
 obtain rfl:j=p.deltas.length:=by omega
 rw [List.take_length] at H
 replace H:=H.freeze
 clear hc hjq r q
 refine ⟨_,Ld0 rfl H.b0 (by kernel_rfl),?_⟩
 rw [hZ] at H
 refine sSw1 H rfl (by kernel_rfl) (by rfl) (by rfl) ?_;clear H;intro w _ H
 refine ⟨_,Ld0 rfl H.b1 (by kernel_rfl),?_⟩
 exact ⟨_,_,rfl,fun r h=>mt (mt (mt (mt (mt (mt (mt (mt (mt (hr r h))))))))),(H.addD (ds:=p.dat) (fun G h=>dc (.one _) (dc (.one _) (dc (.one _) (dc (.one _) (dc (.one _) (dc (.one _) (dc (.one _) (dc (h (.deep [_] [_]) (mt (mt (mt (mt (mt (mt (mt ms)))))))).head (dc (h (.deep [_] [_]) (mt (mt (mt (mt (mt (mt (mt (mt m8))))))))).head (dc (h (.deep [_] [_]) (mt (mt (mt (mt (mt (mt ms))))))).head (dc (h (.deep [_] [_]) (mt (mt (mt (mt (mt (mt (mt (mt m10))))))))).head (dc (.one _) (dc (.one _) (dc (h (.deep [_] [_]) (mt (mt (mt (mt (mt (mt (mt (mt m13))))))))).head (dc (h (.deep [_] [_]) (mt (mt (mt (mt (mt ms)))))).head (dc (h (.deep [_] [_]) (mt (mt (mt (mt ms))))).head (dc (h (.deep [_] [_]) (mt (mt (mt ms)))).head (dc (.one _) (dc (h (.deep [_] [_]) (mt (mt ms))).head (dc (.one _) (dc (.one _) (dc (.one _) (dc (.one _) (dc (.one _) (dc (h (.deep [_] [_]) (mt ms)).head (dc (h (.deep [_] [_]) ms).head (dc (.one _) (dc (.one _) (dc (.one _) (dc (.one _) dn))))))))))))))))))))))))))))))).sub sl1 (fun _ h=>h),ms⟩
def YN (F:Fr) (ex:List Ex) (ro:List Ro) (en:Ending) (w':World):Prop:=∃b,en=.returned (.bool b)/\Sat F w' ex ro
theorem YN.mk {F:Fr} {ex exs:List Ex} {ro ro':List Ro} {w:World} {b:Bool} (H:Sat F w exs ro') (hs:ex.Sublist exs) (hr:∀r∈ro,r∈ro'):YN F ex ro (.returned (.bool b)) w:=⟨b,rfl,H.sub hs hr⟩
theorem c119 {F:Fr} {w:World} {ex:List Ex} {ro:List Ro} {t:Int} {s:ByteArray} (H:Sat F w ex ro):Calls pg 119 #[.agg #[.int .u8 t,.string s]] w (YN F ex ro):=by
 apply of119
 refine sNew H ?_;clear H;intro b1 w _ H
 refine ⟨_,(H.b0.at0 rfl),?_⟩
 exact ⟨fun _=>YN.mk H sl1 (fun _ h=>h),fun _=>YN.mk H sl1 (fun _ h=>h)⟩
theorem c118 {F:Fr} {w:World} {ex:List Ex} {ro:List Ro} {L:List Itm} {l:Option Addr} {c:Nat} (H:Sat F w ex ro) (hl:Ro.deep [.row 2 (L.flatMap Itm.dat)] [.slice l L.length c]∈ro) (hn:L.length<=2000000):Calls pg 118 #[.slice l L.length c] w (YN F ex ro):=by
 apply of118
 refine ⟨fun _=>YN.mk H (by repeat (exact List.Sublist.refl _)) (fun _ h=>h),fun _=>?_⟩
 refine ⟨fun x m w=>∃j:Nat,x=(j:Int)/\j+m=L.length/\Sat F w ex ro,⟨L.length,0,rfl,by omega,H⟩,?_⟩
 clear H;rintro dd2 x m w ⟨j,rfl,hjm,H⟩
 refine ⟨fun hc=>?_,fun _=>YN.mk H (by repeat (exact List.Sublist.refl _)) (fun _ h=>h)⟩
 rw [decide_eq_true_eq] at hc
 have hjl:j < L.length:=by omega
 obtain ⟨p,us,e,hus,hcell,H1⟩:=H.eltF Itm.dat_len (by decide) hl (j:=j) hjl
 clear H
 generalize L[j]=D at H1
 obtain ⟨d0,d1⟩:=D
 refine ⟨p,e,by omega,by omega,?_⟩
 obtain rfl:=H1.ones (us:=[.int .u8 d0,.string d1]) ms
 refine ⟨_,_,LdC [.int .u8 d0,.string d1] (by kernel_rfl) (by rw [show (j:Int).toNat*2=j*2 by omega];exact hcell),?_⟩
 have H:=H1.sub (List.Sublist.refl _) (fun r h=>mt h)
 clear H1 hcell
 refine sNew H ?_;clear H;intro b4 w _ H
 refine sSw0 H rfl (by kernel_rfl) (by rfl) (by rfl) ?_;clear H;intro w _ H
 refine ⟨_,_,H.b0.ld,?_⟩
 refine call_j (c119 H) ?_
 clear H;rintro _ w ⟨b,rfl,H⟩
 refine ⟨_,rfl,fun _=>YN.mk H sl1 (fun _ h=>h),fun _=>?_⟩
 exact ⟨m - 1,by omega,j+1,by rw [wi64_of (by omega) (by omega)];simp,by omega,H.dr⟩
theorem c108 {F:Fr} {w:World} {ex:List Ex} {ro:List Ro} {s:Int} {L:List Itm} {l:Option Addr} {c:Nat} (H:Sat F w ex ro) (hl:Ro.deep [.row 2 (L.flatMap Itm.dat)] [.slice l L.length c]∈ro) (hn:L.length<=2000000):Calls pg 108 #[.agg #[.int .u32 s,.slice l L.length c]] w (YN F ex ro):=by
 apply of108
 refine sNew H ?_;clear H;intro b1 w _ H
 refine ⟨_,_,_,(H.b0.at0 rfl),?_⟩
 refine call_j (c118 H hl hn) ?_
 clear H;rintro _ w ⟨b,rfl,H⟩
 exact ⟨_,rfl,fun _=>YN.mk H sl1 (fun _ h=>h),fun _=>YN.mk H sl1 (fun _ h=>h)⟩
theorem c84 {F:Fr} {w:World} {ex:List Ex} {ro:List Ro} {L:List Chk} {l:Option Addr} {c:Nat} (H:Sat F w ex ro) (hl:Ro.deep [.row 2 (L.flatMap Chk.dat)] [.slice l L.length c]∈ro) (hn:L.length<=2000000) (hn2:∀y∈L,y.2.length<=2000000):Calls pg 84 #[.slice l L.length c] w (YN F ex ro):=by
 apply of84
 refine ⟨fun _=>YN.mk H (by repeat (exact List.Sublist.refl _)) (fun _ h=>h),fun _=>?_⟩
 refine ⟨fun x m w=>∃j:Nat,x=(j:Int)/\j+m=L.length/\Sat F w ex ro,⟨L.length,0,rfl,by omega,H⟩,?_⟩
 clear H;rintro dd2 x m w ⟨j,rfl,hjm,H⟩
 refine ⟨fun hc=>?_,fun _=>YN.mk H (by repeat (exact List.Sublist.refl _)) (fun _ h=>h)⟩
 rw [decide_eq_true_eq] at hc
 have hjl:j < L.length:=by omega
 obtain ⟨p,us,e,hus,hcell,H1⟩:=H.eltF Chk.dat_len' (by decide) hl (j:=j) hjl
 have hDm:=hn2 L[j] (List.getElem_mem hjl)
 clear H
 generalize L[j]=D at H1 hDm
 obtain ⟨d0,ms⟩:=D
 replace hDm:ms.length<=2000000:=hDm
 refine ⟨p,e,by omega,by omega,?_⟩
 obtain ⟨x0,us0,rfl,H2⟩:=H1.uncons List.mem_cons_self
 obtain ⟨x1,us1,rfl,H3⟩:=H2.uncons (List.mem_cons_of_mem _ List.mem_cons_self)
 obtain rfl:us1=[]:=by simpa using hus
 obtain rfl:=H2.one1 List.mem_cons_self
 obtain ⟨sa,sn,sc,rfl,hsl⟩:=H3.rowS List.mem_cons_self
 rw [flat_len Itm.dat_len] at hsl
 obtain rfl:sn=ms.length:=by omega
 refine ⟨_,_,_,_,LdC [.int .u32 d0,.slice sa ms.length sc] (by kernel_rfl) (by rw [show (j:Int).toNat*2=j*2 by omega];exact hcell),?_⟩
 have H:Sat F w _ (.deep [.row 2 (ms.flatMap Itm.dat)] [.slice sa ms.length sc]::ro):=H3.sub (List.Sublist.refl _) (fun r h=>by
  rcases List.mem_cons.1 h with rfl | h
  ·exact List.mem_cons_self
  ·simp [h])
 clear H1 H2 H3 hcell
 refine sNew H ?_;clear H;intro b4 w _ H
 refine sSw0 H rfl (by kernel_rfl) (by rfl) (by rfl) ?_;clear H;intro w _ H
 refine ⟨_,_,_,_,(by exact Ld0 rfl H.b0 (by kernel_rfl)),?_⟩
 refine call_j (c108 H List.mem_cons_self hDm) ?_
 clear H;rintro _ w ⟨b,rfl,H⟩
 refine ⟨_,rfl,fun _=>YN.mk H (by repeat (first | exact List.Sublist.refl _ | apply List.Sublist.cons)) (fun _ h=>List.mem_cons_of_mem _ h),fun _=>?_⟩
 exact ⟨m - 1,by omega,j+1,by rw [wi64_of (by omega) (by omega)];simp,by omega,H.sub (by repeat (first | exact List.Sublist.refl _ | apply List.Sublist.cons)) (fun _ h=>List.mem_cons_of_mem _ h)⟩
theorem c109 {F:Fr} {w:World} {ex:List Ex} {ro:List Ro} {s b:Int} {l:Option Addr} {n c:Nat} (H:Sat F w ex ro):Calls pg 109 #[.agg #[.int .u32 s,.int .u16 b,.slice l n c]] w (YN F ex ro):=by
 apply of109
 refine sNew H ?_;clear H;intro b1 w _ H
 refine ⟨_,_,_,(H.b0.at0 rfl),?_⟩
 exact ⟨fun _=>YN.mk H sl1 (fun _ h=>h),fun _=>YN.mk H sl1 (fun _ h=>h)⟩
theorem c110 {F:Fr} {w:World} {ex:List Ex} {ro:List Ro} {V:Bool} {a b d:Int} {l:Option Addr} {n c:Nat} (H:Sat F w ex ro):Calls pg 110 #[.agg #[.bool V,.int .u16 a,.int .u16 b,.int .u16 d,.slice l n c]] w (YN F ex ro):=by
 apply of110
 refine sNew H ?_;clear H;intro b1 w _ H
 refine ⟨_,_,_,(H.b0.at0 rfl),?_⟩
 exact ⟨fun _=>YN.mk H sl1 (fun _ h=>h),fun _=>YN.mk H sl1 (fun _ h=>h)⟩
theorem c85 {F:Fr} {w:World} {ex:List Ex} {ro:List Ro} {L:List Blo} {l:Option Addr} {c:Nat} (H:Sat F w ex ro) (hl:Ro.deep [.row 3 (L.flatMap Blo.dat)] [.slice l L.length c]∈ro) (hn:L.length<=2000000):Calls pg 85 #[.slice l L.length c] w (YN F ex ro):=by
 apply of85
 refine ⟨fun _=>YN.mk H (by repeat (exact List.Sublist.refl _)) (fun _ h=>h),fun _=>?_⟩
 refine ⟨fun x m w=>∃j:Nat,x=(j:Int)/\j+m=L.length/\Sat F w ex ro,⟨L.length,0,rfl,by omega,H⟩,?_⟩
 clear H;rintro dd2 x m w ⟨j,rfl,hjm,H⟩
 refine ⟨fun hc=>?_,fun _=>YN.mk H (by repeat (exact List.Sublist.refl _)) (fun _ h=>h)⟩
 rw [decide_eq_true_eq] at hc
 have hjl:j < L.length:=by omega
 obtain ⟨p,us,e,hus,hcell,H1⟩:=H.eltF Blo.dat_len' (by decide) hl (j:=j) hjl
 generalize L[j]=D at H1
 obtain ⟨d0,d1,ms⟩:=D
 refine ⟨p,e,by omega,by omega,?_⟩
 obtain ⟨x0,us0,rfl,H2⟩:=H1.uncons List.mem_cons_self
 obtain ⟨x1,us1,rfl,H3⟩:=H2.uncons (List.mem_cons_of_mem _ List.mem_cons_self)
 obtain ⟨x2,us2,rfl,H4⟩:=H3.uncons (List.mem_cons_of_mem _ List.mem_cons_self)
 obtain rfl:us2=[]:=by simpa using hus
 obtain rfl:=H2.one1 List.mem_cons_self
 obtain rfl:=H3.one1 List.mem_cons_self
 obtain ⟨sa,sn,sc,rfl,hsl⟩:=H4.rowS List.mem_cons_self
 clear H1 H2 H3 H4
 refine ⟨_,_,_,_,_,LdC [.int .u32 d0,.int .u16 d1,.slice sa sn sc] (by kernel_rfl) (by rw [show (j:Int).toNat*3=j*3 by omega];exact hcell),?_⟩
 clear hcell
 refine sNew H ?_;clear H;intro b4 w _ H
 refine sSw0 H rfl (by kernel_rfl) (by rfl) (by rfl) ?_;clear H;intro w _ H
 refine ⟨_,_,_,_,_,(by exact Ld0 rfl H.b0 (by kernel_rfl)),?_⟩
 refine call_j (c109 H) ?_
 clear H;rintro _ w ⟨b,rfl,H⟩
 refine ⟨_,rfl,fun _=>YN.mk H (by repeat (first | exact List.Sublist.refl _ | apply List.Sublist.cons)) (fun _ h=>h),fun _=>?_⟩
 exact ⟨m - 1,by omega,j+1,by rw [wi64_of (by omega) (by omega)];simp,by omega,H.sub (by repeat (first | exact List.Sublist.refl _ | apply List.Sublist.cons)) (fun _ h=>h)⟩
theorem c86 {F:Fr} {w:World} {ex:List Ex} {ro:List Ro} {L:List Sta} {l:Option Addr} {c:Nat} (H:Sat F w ex ro) (hl:Ro.deep [.row 5 (L.flatMap Sta.dat)] [.slice l L.length c]∈ro) (hn:L.length<=2000000):Calls pg 86 #[.slice l L.length c] w (YN F ex ro):=by
 apply of86
 refine ⟨fun _=>YN.mk H (by repeat (exact List.Sublist.refl _)) (fun _ h=>h),fun _=>?_⟩
 refine ⟨fun x m w=>∃j:Nat,x=(j:Int)/\j+m=L.length/\Sat F w ex ro,⟨L.length,0,rfl,by omega,H⟩,?_⟩
 clear H;rintro dd2 x m w ⟨j,rfl,hjm,H⟩
 refine ⟨fun hc=>?_,fun _=>YN.mk H (by repeat (exact List.Sublist.refl _)) (fun _ h=>h)⟩
 rw [decide_eq_true_eq] at hc
 have hjl:j < L.length:=by omega
 obtain ⟨p,us,e,hus,hcell,H1⟩:=H.eltF Sta.dat_lenK (by decide) hl (j:=j) hjl
 generalize L[j]=D at H1
 obtain ⟨V,d0,d1,d2,dl⟩:=D
 refine ⟨p,e,by omega,by omega,?_⟩
 obtain ⟨la,lc,rfl,H2⟩:=H1.sta5 ms
 clear H1 H2
 refine ⟨_,_,_,_,_,_,_,LdC [.bool V,.int .u16 d0,.int .u16 d1,.int .u16 d2,.slice la dl.length lc] (by kernel_rfl) (by rw [show (j:Int).toNat*5=j*5 by omega];exact hcell),?_⟩
 clear hcell
 refine sNew H ?_;clear H;intro b4 w _ H
 refine sSw0 H rfl (by kernel_rfl) (by rfl) (by rfl) ?_;clear H;intro w _ H
 refine ⟨_,_,_,_,_,_,_,H.b0.ld,?_⟩
 refine call_j (c110 H) ?_
 clear H;rintro _ w ⟨b,rfl,H⟩
 refine ⟨_,rfl,fun _=>YN.mk H sl1 (fun _ h=>h),fun _=>?_⟩
 exact ⟨m - 1,by omega,j+1,by rw [wi64_of (by omega) (by omega)];simp,by omega,H.dr⟩
theorem c42 {F:Fr} {w:World} {ex:List Ex} {ro:List Ro} {p:Pk} {cells:List Value} (H:Sat F w ex ro) (hp:Ro.deep p.dat cells∈ro) (hs:p.size<=1100000):Calls pg 42 #[.agg cells.toArray] w (YN F ex ro):=by
 obtain ⟨a7,a8,a9,a10,a13,a14,a15,a16,a18,a24,a25,c7,c8,c9,c10,c13,c14,c15,c16,c18,c24,c25,R,rfl,hr,H,m7,m8,m9,m10,m13,m14,m15,m16,m18,m24,m25⟩:=H.pkF hp
 unfold Pk.size at hs
 have hcl:=csz_len p.chunks
 have hcm:=csz_mem p.chunks
 have hbl:=bsz_len p.blocks
 have hsl:=ssz_len p.statuses
 apply of42
 refine sNew H ?_;clear H;intro b1 w _ H
 replace H:Sat F w (.blk b1 63 (pkC p a7 a8 a9 a10 a13 a14 a15 a16 a18 a24 a25 c7 c8 c9 c10 c13 c14 c15 c16 c18 c24 c25)::ex) R:=H
 refine ⟨_,_,_,(H.b0.at0 rfl),?_⟩
 refine ⟨fun _=>YN.mk H sl1 hr,fun _=>?_⟩
 refine ⟨_,_,_,(H.b0.at0 rfl),?_⟩
 refine ⟨fun _=>YN.mk H sl1 hr,fun _=>?_⟩
 refine ⟨_,_,_,(H.b0.at0 rfl),?_⟩
 refine call_j (c84 H m9 (by omega) (fun y hy=>by have:=hcm y hy;omega)) ?_
 clear H;rintro _ w ⟨b,rfl,H⟩
 refine ⟨_,rfl,fun _=>YN.mk H sl1 hr,fun _=>?_⟩
 refine ⟨_,_,_,(H.b0.at0 rfl),?_⟩
 refine ⟨fun _=>YN.mk H sl1 hr,fun _=>?_⟩
 refine ⟨_,(H.b0.at0 rfl),?_⟩
 refine ⟨fun _=>YN.mk H sl1 hr,fun _=>?_⟩
 refine ⟨_,_,_,(H.b0.at0 rfl),?_⟩
 refine ⟨fun _=>YN.mk H sl1 hr,fun _=>?_⟩
 refine ⟨_,_,_,(H.b0.at0 rfl),?_⟩
 refine ⟨fun _=>YN.mk H sl1 hr,fun _=>?_⟩
 refine ⟨_,_,_,(H.b0.at0 rfl),?_⟩
 refine ⟨fun _=>YN.mk H sl1 hr,fun _=>?_⟩
 refine ⟨_,_,_,(H.b0.at0 rfl),?_⟩
 refine ⟨fun _=>YN.mk H sl1 hr,fun _=>?_⟩
 refine ⟨_,_,_,(H.b0.at0 rfl),?_⟩
 refine call_j (c85 H m18 (by omega)) ?_
 clear H;rintro _ w ⟨b,rfl,H⟩
 refine ⟨_,rfl,fun _=>YN.mk H sl1 hr,fun _=>?_⟩
 refine ⟨_,_,_,(H.b0.at0 rfl),?_⟩
 refine call_j (c86 H m24 (by omega)) ?_
 clear H;rintro _ w ⟨b,rfl,H⟩
 refine ⟨_,rfl,fun _=>YN.mk H sl1 hr,fun _=>?_⟩
 refine ⟨_,_,_,(H.b0.at0 rfl),?_⟩
 exact ⟨fun _=>YN.mk H sl1 hr,fun _=>YN.mk H sl1 hr⟩
theorem c16 {F:Fr} {w:World} {ex:List Ex} {ro:List Ro} {L:List Pk} {l:Option Addr} {c:Nat} (H:Sat F w ex ro) (hl:Ro.deep [.row 30 (L.flatMap Pk.dat)] [.slice l L.length c]∈ro) (hn:L.length<=2000000) (hs:∀p∈L,p.size<=1100000):Calls pg 16 #[.slice l L.length c] w (YN F ex ro):=by
 apply of16
 refine ⟨fun _=>YN.mk H (by repeat (exact List.Sublist.refl _)) (fun _ h=>h),fun _=>?_⟩
 refine ⟨fun x m w=>∃j:Nat,x=(j:Int)/\j+m=L.length/\Sat F w ex ro,⟨L.length,0,rfl,by omega,H⟩,?_⟩
 clear H;rintro dd2 x m w ⟨j,rfl,hjm,H⟩
 refine ⟨fun hc=>?_,fun _=>YN.mk H (by repeat (exact List.Sublist.refl _)) (fun _ h=>h)⟩
 rw [decide_eq_true_eq] at hc
 have hjl:j < L.length:=by omega
 obtain ⟨p,us,e,hus,hcell,H1⟩:=H.eltF Pk.dat_lenN (by decide) hl (j:=j) hjl
 have hsj:=hs L[j] (List.getElem_mem hjl)
 clear H
 generalize L[j]=D at H1 hsj
 obtain ⟨a7,a8,a9,a10,a13,a14,a15,a16,a18,a24,a25,c7,c8,c9,c10,c13,c14,c15,c16,c18,c24,c25,R,rfl,hr,H,_⟩:=H1.pkF ms
 clear H1
 refine ⟨p,e,by omega,by omega,?_⟩
 refine ⟨_,LdC (pkC D a7 a8 a9 a10 a13 a14 a15 a16 a18 a24 a25 c7 c8 c9 c10 c13 c14 c15 c16 c18 c24 c25) (by kernel_rfl) (by rw [show (j:Int).toNat*30=j*30 by omega];exact hcell),?_⟩
 clear hcell
 refine sNew H ?_;clear H;intro b4 w _ H
 refine sSw0 H rfl (by kernel_rfl) (by rfl) (by rfl) ?_;clear H;intro w _ H
 refine ⟨_,H.b0.ld,?_⟩
 refine call_j (c42 H (hr _ ms) hsj) ?_
 clear H;rintro _ w ⟨b,rfl,H⟩
 refine ⟨_,rfl,fun _=>YN.mk H sl1 (fun r h=>hr r (mt h)),fun _=>?_⟩
 exact ⟨m - 1,by omega,j+1,by rw [wi64_of (by omega) (by omega)];simp,by omega,H.ds (fun r h=>hr r (mt h))⟩
theorem n16_b (v:Int) (r:List Int):n16 (b16 v++r)=v:=by
 show v / 256*256+v % 256=v
 omega
theorem n32_b (v:Int) (r:List Int):n32 (b32 v++r)=v:=by
 show (v / 16777216*256+v / 65536 % 256)*65536+(v / 256 % 256*256+v % 256)=v
 omega
theorem n64_b (v:Int) (r:List Int):n64 (b64 v++r)=v:=by
 have e:b64 v++r=b32 (v / 4294967296)++(b32 (v % 4294967296)++r):=by unfold b64;rw [List.append_assoc]
 rw [e]
 show n32 (b32 (v / 4294967296)++(b32 (v % 4294967296)++r))*4294967296+n32 (b32 (v % 4294967296)++r)=v
 rw [n32_b,n32_b];omega
theorem drop_b {A:List Int} (r:List Int) {n:Nat} (h:A.length=n):(A++r).drop n=r:=List.drop_left' h
theorem rep1_w (x:Rep) (r:List Int):rep1 (wRep x++r)=x:=by
 obtain ⟨a,b,c,d,e,f,g⟩:=x
 simp only [wRep,List.append_assoc]
 show (n32 (b32 a++_),b,c / 65536*65536+c / 256 % 256*256+c % 256,n32 (b32 d++_),n32 (b32 e++_),n32 (b32 f++_),n32 (b32 g++_))=_
 rw [n32_b,n32_b,n32_b,n32_b,n32_b,show c / 65536*65536+c / 256 % 256*256+c % 256=c by omega]
theorem reps_w:∀(L:List Rep) (r:List Int),reps L.length (L.flatMap wRep++r)=L
 | [],_=>rfl
 | x::l,r=>by
  rw [List.flatMap_cons,List.append_assoc]
  show rep1 _::reps l.length ((wRep x++(l.flatMap wRep++r)).drop 24)=_
  rw [rep1_w,drop_b _ (wRep_len x),reps_w l r]
theorem words_w:∀(L:List Int) (r:List Int),words L.length (L.flatMap b32++r)=L
 | [],_=>rfl
 | x::l,r=>by
  rw [List.flatMap_cons,List.append_assoc]
  show n32 _::words l.length ((b32 x++(l.flatMap b32++r)).drop 4)=_
  rw [n32_b,drop_b _ (b32_len x),words_w l r]
theorem pairsL_w:∀(L:List Par) (r:List Int),pairsL L.length (L.flatMap wPar++r)=L
 | [],_=>rfl
 | x::l,r=>by
  rw [List.flatMap_cons,List.append_assoc]
  obtain ⟨a,b⟩:=x
  show (n16 (b16 a++_),n16 (b16 b++_))::pairsL l.length ((wPar (a,b)++(l.flatMap wPar++r)).drop 4)=_
  rw [n16_b,n16_b,drop_b _ (wPar_len _),pairsL_w l r]
theorem sliceL_w:∀(L:List Sli) (r:List Int),(∀x∈L,(0<=x.1/\x.1 < 8192)/\(0<=x.2.1/\x.2.1 < 8192)/\0<=x.2.2/\x.2.2 < 64)->sliceL L.length (L.flatMap wSli++r)=L
 | [],_,_=>rfl
 | x::l,r,h=>by
  have ih:=sliceL_w l r fun y hy=>h y (mt hy)
  have hx:=h x ms
  rw [List.flatMap_cons,List.append_assoc]
  obtain ⟨a,b,c⟩:=x
  show (n32 (b32 (a*524288+b*64+c)++_) / 524288,n32 (b32 (a*524288+b*64+c)++_) / 64 % 8192,n32 (b32 (a*524288+b*64+c)++_) % 64)::sliceL l.length ((wSli (a,b,c)++(l.flatMap wSli++r)).drop 4)=_
  simp only at hx
  rw [n32_b,drop_b _ (wSli_len _),ih,show (a*524288+b*64+c) / 524288=a by omega,show (a*524288+b*64+c) / 64 % 8192=b by omega,show (a*524288+b*64+c) % 64=c by omega]
theorem entryL_w:∀(L:List Ent),entryL L.length (L.flatMap wEnt)=some L
 | []=>rfl
 | x::l=>by
  obtain ⟨a,b⟩:=x
  rw [List.flatMap_cons]
  show (if (0:Int)*65536+0*256+0≠0 then none else (entryL l.length ((wEnt (a,b)++l.flatMap wEnt).drop 8)).map fun r=>(n32 (b32 a++_),b)::r)=_
  rw [if_neg (by decide),drop_b _ (wEnt_len _),entryL_w l,n32_b]
  rfl
theorem met1_w {m:Met} (h:MetR m):met1 (metN m)=m:=by
 obtain ⟨a,b,c⟩:=m
 obtain ⟨hb,hc⟩:(0<=b/\b < 4)/\0<=c/\c < 8192:=h
 unfold met1 metN
 cases a with
 | false=>
  simp only [Bool.false_eq_true,if_false]
  rw [show ((0:Int)*32768+b*8192+c) / 32768=0 by omega,show ((0:Int)*32768+b*8192+c) / 8192 % 4=b by omega,show ((0:Int)*32768+b*8192+c) % 8192=c by omega]
  rfl
 | true=>
  simp only [if_true]
  rw [show ((1:Int)*32768+b*8192+c) / 32768=1 by omega,show ((1:Int)*32768+b*8192+c) / 8192 % 4=b by omega,show ((1:Int)*32768+b*8192+c) % 8192=c by omega]
  rfl
theorem metN_f {m:Met} (h:MetR m) (hf:MetF m):¬(metN m / 32768≠1/\metN m≠0):=by
 obtain ⟨a,b,c⟩:=m
 obtain ⟨hb,hc⟩:(0<=b/\b < 4)/\0<=c/\c < 8192:=h
 unfold metN
 rcases hf with rfl | ⟨h1,h2⟩
 ·simp only [if_true];omega
 ·simp only at h1 h2
  subst h1;subst h2
  cases a<;>decide
theorem metsL_w:∀(L:List Met) (r:List Int),(∀m∈L,MetR m)->(∀m∈L,MetF m)->metsL L.length (L.flatMap wMet++r)=some L
 | [],_,_,_=>rfl
 | x::l,r,h,hf=>by
  have ih:=metsL_w l r (fun y hy=>h y (mt hy)) (fun y hy=>hf y (mt hy))
  rw [List.flatMap_cons,List.append_assoc]
  show (if n16 (b16 (metN x)++_) / 32768≠1/\n16 (b16 (metN x)++_)≠0 then none else (metsL l.length ((wMet x++(l.flatMap wMet++r)).drop 2)).map fun q=>met1 (n16 (b16 (metN x)++_))::q)=_
  rw [n16_b,if_neg (metN_f (h x ms) (hf x ms)),drop_b _ (wMet_len x),ih,met1_w (h x ms)]
  rfl
theorem blocksL_w:∀(L:List Blo) (f:Nat) (ys:List Int),L.length < f->(∀y∈L,BloR y)->(∀y∈L,∀m∈y.2.2,MetF m)->ys.length=4->blocksL f (L.flatMap wBlo++ys)=some (L,ys)
 | [],f+1,ys,_,_,_,hy=>by
  unfold blocksL
  rw [if_pos (by rw [List.flatMap_nil,List.nil_append];omega)];rfl
 | x::l,f+1,ys,hf,h,hm,hy=>by
  have ih:=blocksL_w l f ys (by rw [List.length_cons] at hf;omega) (fun y hy=>h y (mt hy)) (fun y hy=>hm y (mt hy)) hy
  have hx:=h x ms
  have hmx:=hm x ms
  have hlen:=wBlo_len x
  obtain ⟨a,b,msz⟩:=x
  obtain ⟨ha,hb,hn,hM⟩:u32R a/\(0<=b/\b < 65536)/\msz.length<=16384/\∀m∈msz,MetR m:=hx
  simp only at hmx hlen
  rw [List.flatMap_cons,List.append_assoc]
  obtain ⟨R,hR⟩:∃R,R=l.flatMap wBlo++ys:=⟨_,rfl⟩
  rw [<-hR] at ih ⊢
  have hRl:4<=R.length:=by rw [hR,List.length_append];omega
  have e1:wBlo (a,b,msz)++R=b32 a++(b16 b++(b16 (msz.length:Int)++(msz.flatMap wMet++(List.replicate (2*(msz.length % 2)) 0++R)))):=by
   simp only [wBlo,List.append_assoc]
  have e2:(wBlo (a,b,msz)++R).length=bLen msz.length+R.length:=by rw [List.length_append,hlen]
  have e3:n16 ((wBlo (a,b,msz)++R).drop 6)=(msz.length:Int):=by rw [e1];exact n16_b _ _
  have e4:(wBlo (a,b,msz)++R).drop 8=msz.flatMap wMet++(List.replicate (2*(msz.length % 2)) 0++R):=by rw [e1];rfl
  have e5:(wBlo (a,b,msz)++R).drop (8+2*msz.length)=List.replicate (2*(msz.length % 2)) 0++R:=by
   rw [<-List.drop_drop,e4]
   exact drop_b _ (flat_bd wMet_len msz)
  have e6:(wBlo (a,b,msz)++R).drop (8+2*(msz.length+msz.length % 2))=R:=drop_b _ hlen
  have e7:n32 (wBlo (a,b,msz)++R)=a:=by rw [e1];exact n32_b _ _
  have e8:n16 ((wBlo (a,b,msz)++R).drop 4)=b:=by rw [e1];exact n16_b _ _
  unfold blocksL
  simp only [e3,e7,e8,Int.toNat_natCast]
  rw [e2,if_neg (by unfold bLen;omega),if_neg (by unfold bLen;omega),if_neg (by unfold bLen;omega),e4,metsL_w msz _ hM hmx]
  simp only
  rw [e5,if_neg,e6,ih]
  ·rfl
  ·rintro ⟨h1,h2⟩
   rw [h1] at h2
   exact h2 rfl
theorem items_w:∀(l:List Itm) (pre r:List Int) (f:Nat),l.length < f->(∀i∈l,ItmR i)->items (pre++(l.flatMap wItm++(0::r))) f pre.length=some (l,pre.length+itLen l+1)
 | [],pre,r,f+1,_,_=>by
  have h0:(pre++([].flatMap wItm++(0::r))).getD pre.length 0=0:=by rw [List.getD,List.getElem?_append_right (Nat.le_refl _)];simp
  unfold items
  rw [if_neg (by simp),if_pos h0]
  rfl
 | x::l,pre,r,f+1,hf,h=>by
  obtain ⟨ht,hs⟩:=h x ms
  obtain ⟨t,s⟩:=x
  simp only at ht hs
  have hl:=sbs_len s
  have ih:=items_w l (pre++([t,(s.size:Int)]++sbs s)) r f (by rw [List.length_cons] at hf;omega) (fun i hi=>h i (mt hi))
  have e1:pre++(((t,s)::l).flatMap wItm++(0::r))=(pre++([t,(s.size:Int)]++sbs s))++(l.flatMap wItm++(0::r)):=by
   simp only [List.flatMap_cons,wItm,List.append_assoc]
  have e2:(pre++([t,(s.size:Int)]++sbs s)).length=pre.length+2+s.size:=by
   simp only [List.length_append,List.length_cons,List.length_nil,hl];omega
  rw [e2] at ih
  rw [e1]
  obtain ⟨X,hX⟩:∃X,X=(pre++([t,(s.size:Int)]++sbs s))++(l.flatMap wItm++(0::r)):=⟨_,rfl⟩
  have e3:X=pre++(t::(s.size:Int)::(sbs s++(l.flatMap wItm++(0::r)))):=by rw [hX];simp
  have g0:X.getD pre.length 0=t:=by rw [e3,List.getD,List.getElem?_append_right (Nat.le_refl _)];simp
  have g1:X.getD (pre.length+1) 0=(s.size:Int):=by rw [e3,List.getD,List.getElem?_append_right (by omega),show pre.length+1 - pre.length=1 by omega];simp
  have hXl:pre.length+2+s.size < X.length:=by rw [hX,List.length_append,e2,List.length_append,List.length_cons];omega
  have g2:(X.drop (pre.length+2)).take s.size=sbs s:=by
   rw [e3,List.drop_append,show pre.length+2 - pre.length=2 by omega,List.drop_eq_nil_of_le (by omega),List.nil_append]
   show (sbs s++_).take s.size=_
   rw [List.take_left' hl]
  rw [<-hX] at ih ⊢
  unfold items
  rw [g0,g1,Int.toNat_natCast,if_neg (by omega),if_neg ht,if_neg (by omega),if_neg (by omega),ih,g2,strOf_sbs]
  simp only [Option.map_some,itLen,List.map_cons,List.sum_cons]
  congr 2
  omega
theorem zeros_w (r:List Int):∀(k f:Nat) (pre:List Int),pad4 pre.length=k->k<=f->zeros (pre++(List.replicate k 0++r)) f pre.length=some (pre.length+k)
 | 0,f,pre,h,_=>by
  have h4:pre.length % 4=0:=by unfold pad4 at h;omega
  cases f<;>(unfold zeros;rw [if_pos h4];rfl)
 | k+1,f+1,pre,h,hf=>by
  have h4:¬pre.length % 4=0:=by unfold pad4 at h;omega
  have ih:=zeros_w r k f (pre++[0]) (by rw [List.length_append];unfold pad4 at h ⊢;simp only [List.length_cons,List.length_nil];omega) (by omega)
  have e1:pre++(List.replicate (k+1) 0++r)=(pre++[0])++(List.replicate k 0++r):=by rw [List.replicate_succ];simp
  have g0:(pre++(List.replicate (k+1) 0++r)).getD pre.length 0=0:=by rw [List.getD,List.getElem?_append_right (Nat.le_refl _),List.replicate_succ];simp
  unfold zeros
  rw [if_neg h4,if_neg (by rw [List.length_append,List.length_append,List.length_replicate];omega),if_pos g0,e1]
  rw [List.length_append] at ih
  rw [show pre.length+1=pre.length+[(0:Int)].length from rfl,ih]
  simp only [List.length_cons,List.length_nil]
  congr 1
  omega
theorem chks_w:∀(L:List Chk),(∀y∈L,ChkR y)->chks L.length (L.flatMap wChk)=some L
 | [],_=>rfl
 | x::l,h=>by
  have ih:=chks_w l fun y hy=>h y (mt hy)
  obtain ⟨_,hI⟩:=h x ms
  have hlen:=wChk_len x
  obtain ⟨s,is⟩:=x
  simp only at hI hlen
  have hil:=itLen_le is
  rw [List.flatMap_cons]
  obtain ⟨R,hR⟩:∃R,R=l.flatMap wChk:=⟨_,rfl⟩
  rw [<-hR] at ih ⊢
  have hp:(b32 s++is.flatMap wItm++[0]).length=4+itLen is+1:=by
   simp only [List.length_append,b32_len,wItm_it,List.length_cons,List.length_nil]
  have e0:wChk (s,is)=(b32 s++is.flatMap wItm++[0])++List.replicate (pad4 (4+itLen is+1)) 0:=by
   simp only [wChk,hp]
  have e1:wChk (s,is)++R=b32 s++(is.flatMap wItm++(0::(List.replicate (pad4 (4+itLen is+1)) 0++R))):=by rw [e0];simp
  have e2:wChk (s,is)++R=(b32 s++is.flatMap wItm++[0])++(List.replicate (pad4 (4+itLen is+1)) 0++R):=by rw [e0,List.append_assoc]
  have hX:(wChk (s,is)++R).length=up4 (4+itLen is+1)+R.length:=by rw [List.length_append,hlen]
  have h1:items (wChk (s,is)++R) (wChk (s,is)++R).length 4=some (is,4+itLen is+1):=by
   have:=items_w is (b32 s) (List.replicate (pad4 (4+itLen is+1)) 0++R) (wChk (s,is)++R).length (by rw [hX];unfold up4;omega) hI
   rw [<-e1,b32_len] at this
   exact this
  have h2:zeros (wChk (s,is)++R) 3 (4+itLen is+1)=some (4+itLen is+1+pad4 (4+itLen is+1)):=by
   have:=zeros_w R (pad4 (4+itLen is+1)) 3 (b32 s++is.flatMap wItm++[0]) (by rw [hp]) (by unfold pad4;omega)
   rw [<-e2,hp] at this
   exact this
  have h3:(wChk (s,is)++R).drop (4+itLen is+1+pad4 (4+itLen is+1))=R:=drop_b _ (by rw [hlen];unfold up4 pad4;omega)
  have h4:n32 (wChk (s,is)++R)=s:=by rw [e1];exact n32_b _ _
  show chks (l.length+1) _=_
  unfold chks
  rw [if_neg (by rw [hX];unfold up4;omega),h1]
  simp only
  rw [h2]
  simp only
  rw [h3,ih,h4]
  rfl
theorem bye_w (L:List Int) (s:ByteArray) (hs:s.size<=255):rdBye L.length (L.flatMap b32++wBye s)=some { kind:=4,sources:=L,text:=s }:=by
 unfold rdBye
 rw [if_neg (by rw [List.length_append,fl32];omega),drop_b _ (fl32 L),words_w]
 simp only
 have hl:=sbs_len s
 unfold wBye
 by_cases h0:s.size=0
 ·have hse:s=⟨#[]⟩:=by rw [<-strOf_sbs s,List.eq_nil_of_length_eq_zero (hl.trans h0)];rfl
  rw [if_pos h0,if_pos (show ([]:List Int).length=0 from rfl),hse]
 ·rw [if_neg h0]
  have e1:[(s.size:Int)]++sbs s++List.replicate (pad4 (1+s.size)) 0=(s.size:Int)::(sbs s++List.replicate (pad4 (1+s.size)) 0):=rfl
  have hY:((s.size:Int)::(sbs s++List.replicate (pad4 (1+s.size)) 0)).length=1+s.size+pad4 (1+s.size):=by
   simp only [List.length_cons,List.length_append,hl,List.length_replicate];omega
  rw [e1]
  have hp:pad4 (1+s.size)<=3:=by unfold pad4;omega
  have e2:((s.size:Int)::(sbs s++List.replicate (pad4 (1+s.size)) 0)).drop (1+s.size)=List.replicate (pad4 (1+s.size)) 0:=by
   rw [show 1+s.size=s.size+1 by omega]
   show (sbs s++_).drop s.size=_
   exact drop_b _ hl
  have e3:((s.size:Int)::(sbs s++List.replicate (pad4 (1+s.size)) 0)).getD 0 0=(s.size:Int):=rfl
  rw [if_neg (by rw [hY];omega),e3,Int.toNat_natCast,if_neg (by rw [hY];omega),if_neg (by rw [hY];omega),if_neg (by omega),e2,if_pos (by simp)]
  rw [show 1+s.size - 1=s.size by omega]
  show some ({ kind:=4,sources:=L,text:=strOfNums ((sbs s++List.replicate (pad4 (1+s.size)) 0).take s.size) }:Pk)=_
  rw [List.take_left' hl,strOf_sbs]
theorem br_back {m i:Nat} (h0:0 < m) (h1:m < 262144) (hi:i<=63):∃M E:Nat,brM (sgl m i:Int)=(M:Int)/\brE (sgl m i:Int)=(E:Int)/\0 < M/\M < 262144/\sgl M E=sgl m i:=by
 have hl:=(norm_range (k:=23) h0 h1 (by omega)).1
 obtain ⟨k,hk1,hk2,hk3⟩:∃k:Nat,k<=i/\k+m.log2<=17/\(k=i\/17<=k+m.log2):=⟨min i (17 - m.log2),by omega,by omega,by omega⟩
 obtain ⟨h2,h3⟩:=br_sgl (j:=k) h0 h1 hk1 hk2 hk3
 have h4:=small_of h0 k (by omega)
 refine ⟨_,i - k,h3,by rw [h2];omega,h4.1,h4.2,?_⟩
 unfold sgl
 rw [log2_shift h0,show i - k+(m.log2+k)+126=i+m.log2+126 by omega,Nat.mul_assoc,<-Nat.pow_add,show k+(23 - (m.log2+k))=23 - m.log2 by omega]
theorem remb_w {s b:Int} {L:List Int} (hL:L.length<=255) (hb:∃m i:Nat,0 < m/\m < 262144/\i<=63/\b=(sgl m i:Int)) :
  rdRemb s 0 ([82,69,77,66,(L.length:Int),brE b*4+brM b / 65536,brM b / 256 % 256,brM b % 256]++L.flatMap b32)=some { kind:=12,sender:=s,bits:=b,sources:=L }:=by
 obtain ⟨m,i,h0,h1,hi,rfl⟩:=hb
 obtain ⟨M,E,hM,hE,hM0,hM1,hsg⟩:=br_back h0 h1 hi
 rw [hM,hE]
 have hl:([82,69,77,66,(L.length:Int),(E:Int)*4+(M:Int) / 65536,(M:Int) / 256 % 256,(M:Int) % 256]++L.flatMap b32).length=8+4*L.length:=by
  rw [List.length_append,fl32];rfl
 have h5:n24 (([82,69,77,66,(L.length:Int),(E:Int)*4+(M:Int) / 65536,(M:Int) / 256 % 256,(M:Int) % 256]++L.flatMap b32).drop 5)=(E:Int)*262144+M:=by
  show ((E:Int)*4+(M:Int) / 65536)*65536+(M:Int) / 256 % 256*256+(M:Int) % 256=_
  omega
 have h6:([82,69,77,66,(L.length:Int),(E:Int)*4+(M:Int) / 65536,(M:Int) / 256 % 256,(M:Int) % 256]++L.flatMap b32).getD 4 0=(L.length:Int):=rfl
 have h7:([82,69,77,66,(L.length:Int),(E:Int)*4+(M:Int) / 65536,(M:Int) / 256 % 256,(M:Int) % 256]++L.flatMap b32).drop 8=L.flatMap b32:=rfl
 unfold rdRemb
 rw [hl,h5,h6,h7,Int.toNat_natCast,show ((E:Int)*262144+M) % 262144=M by omega,show ((E:Int)*262144+M) / 262144=E by omega]
 rw [if_neg (by omega),if_neg (by decide),if_neg (by intro h;exact h rfl),if_neg (by omega),if_neg (by omega),Int.toNat_natCast,Int.toNat_natCast,hsg]
 have:=words_w L []
 rw [List.append_nil] at this
 rw [this]
/-! ### Headers -/
theorem hC_w {c t n:Int} (B:List Int) (hc:0<=c/\c < 32):hC (hdrB c t n++B)=c:=by
 show (128+c) % 32=c
 omega
theorem hT_w {c t n:Int} (B:List Int):hT (hdrB c t n++B)=t:=rfl
theorem hL_w {c t n:Int} (B:List Int):hL (hdrB c t n++B)=n:=n16_b n B
theorem hP_w {c t n:Int} (B:List Int) (hc:0<=c/\c < 32):hP (hdrB c t n++B)=false:=by
 show ((128+c) / 32 % 2 == 1)=false
 rw [show (128+c) / 32 % 2=0 by omega];rfl
theorem hOk_w {c t n:Int} (B:List Int) (hc:0<=c/\c < 32):hdrOk (hdrB c t n++B)=true:=by
 unfold hdrOk
 have h1:(hdrB c t n++B).getD 0 0 / 64=2:=by
  show (128+c) / 64=2
  omega
 rw [h1,decide_eq_true (show 4<=(hdrB c t n++B).length by rw [List.length_append];exact Nat.le_add_right _ _)]
 rfl
theorem go_w {c t n:Int} {B:List Int} {p:Pk} (hc:0<=c/\c < 32) (hn:4*n=(B.length:Int)) (hk:kindOf t c≠0) (h:rdBody (hdrB c t n++B)=some p):go (hdrB c t n++B)=some p:=by
 have e:rdOne (hdrB c t n++B)=(0,p):=by
  unfold rdOne
  rw [hOk_w B hc,hL_w,hT_w,hC_w B hc,hP_w B hc,if_neg (by decide),if_neg,if_neg hk,if_neg (by decide),h]
  ·rfl
  ·rw [List.length_append]
   show ¬4*(n+1)≠((4+B.length:Nat):Int)
   omega
 unfold go
 rw [e]
 rfl
theorem body_w {c t n:Int} {B:List Int} (hc:0<=c/\c < 32) {k:Int} (hk:kindOf t c=k) (h6:6<=k) (h8:8<=B.length):rdBody (hdrB c t n++B)=rdFb k false c t n B:=by
 unfold rdBody
 simp only [hT_w,hC_w B hc,hP_w B hc,hL_w,hk,show (hdrB c t n++B).drop 4=B from rfl]
 rw [if_neg (by omega),if_neg (by omega),if_neg (by omega),if_neg (by omega),if_neg (by omega),if_neg (by omega)]
theorem fb_s (s m:Int) (r:List Int):n32 (b32 s++(b32 m++r))=s/\n32 ((b32 s++(b32 m++r)).drop 4)=m/\(b32 s++(b32 m++r)).drop 8=r:=⟨n32_b _ _,n32_b m r,rfl⟩
theorem go_wr {p:Pk} (h:WrOk p) (hx:WrX p) (hr:p.kind=0->RawOk p.data):go (wrOne p)=some (trim p):=by
 have lo:=h.lo
 have hi:=h.hi
 have hkk:p.kind=0\/p.kind=1\/p.kind=2\/p.kind=3\/p.kind=4\/p.kind=5\/p.kind=6\/p.kind=7\/p.kind=8\/p.kind=9\/p.kind=10\/p.kind=11\/p.kind=12:=by omega
 rcases hkk with hk | hk | hk | hk | hk | hk | hk | hk | hk | hk | hk | hk | hk
 ·obtain ⟨h1,h2,h3,h4⟩:=hr hk
  rw [wr_0 hk,show trim p={ data:=p.data } by unfold trim;simp [hk]]
  have e:rdOne p.data=(0,{ data:=p.data }):=by
   unfold rdOne
   rw [h1,if_neg (by decide),if_neg (by omega),if_pos h2,if_neg h3]
  unfold go
  rw [e]
  rfl
 ·obtain ⟨_,_,_,_,_,hn,h4,hl,_⟩:=h.k1 hk
  have hB:b32 p.sender++b64 p.ntp++b32 p.rtp++b32 p.packets++b32 p.octets++p.reports.flatMap wRep++p.ext=b32 p.sender++(b64 p.ntp++(b32 p.rtp++(b32 p.packets++(b32 p.octets++(p.reports.flatMap wRep++p.ext))))):=by simp only [List.append_assoc]
  have hx:(b32 p.sender++(b64 p.ntp++(b32 p.rtp++(b32 p.packets++(b32 p.octets++(p.reports.flatMap wRep++p.ext)))))).length=24+24*p.reports.length+p.ext.length:=by
   simp only [List.length_append,b32_len,b64_len,wRep_fl];omega
  rw [wr_1 hk,show trim p={ kind:=1,sender:=p.sender,ntp:=p.ntp,rtp:=p.rtp,packets:=p.packets,octets:=p.octets,reports:=p.reports,ext:=p.ext } by unfold trim;simp [hk]]
  unfold wrSR
  rw [hB]
  refine go_w (by omega) (by rw [hx];omega) (by show (1:Int)≠0;decide) ?_
  obtain ⟨B,hBe⟩:∃B,B=b32 p.sender++(b64 p.ntp++(b32 p.rtp++(b32 p.packets++(b32 p.octets++(p.reports.flatMap wRep++p.ext))))):=⟨_,rfl⟩
  have f1:n32 B=p.sender:=by rw [hBe];exact n32_b _ _
  have f2:n64 (B.drop 4)=p.ntp:=by rw [hBe];exact n64_b p.ntp _
  have f3:n32 (B.drop 12)=p.rtp:=by rw [hBe];exact n32_b p.rtp _
  have f4:n32 (B.drop 16)=p.packets:=by rw [hBe];exact n32_b p.packets _
  have f5:n32 (B.drop 20)=p.octets:=by rw [hBe];exact n32_b p.octets _
  have f6:B.drop 24=p.reports.flatMap wRep++p.ext:=by rw [hBe];rfl
  rw [<-hBe] at hx ⊢
  unfold rdBody
  simp only [hT_w,hC_w B (show 0<=(p.reports.length:Int)/\(p.reports.length:Int) < 32 by omega),show kindOf 200 (p.reports.length:Int)=1 from rfl,show ∀c t n,(hdrB c t n++B).drop 4=B from fun _ _ _=>rfl,Int.toNat_natCast]
  rw [if_pos (by trivial),if_neg (by omega),f1,f2,f3,f4,f5,f6,reps_w,drop_b _ (wRep_fl _)]
 ·obtain ⟨_,hn,h4,hl,_⟩:=h.k2 hk
  have hx:(b32 p.sender++p.reports.flatMap wRep++p.ext).length=4+24*p.reports.length+p.ext.length:=by
   simp only [List.length_append,b32_len,wRep_fl]
  rw [wr_2 hk,show trim p={ kind:=2,sender:=p.sender,reports:=p.reports,ext:=p.ext } by unfold trim;simp [hk]]
  unfold wrRR
  refine go_w (by omega) (by rw [hx];omega) (by show (2:Int)≠0;decide) ?_
  obtain ⟨B,hBe⟩:∃B,B=b32 p.sender++p.reports.flatMap wRep++p.ext:=⟨_,rfl⟩
  have hB2:B=b32 p.sender++(p.reports.flatMap wRep++p.ext):=by rw [hBe,List.append_assoc]
  have f1:n32 B=p.sender:=by rw [hB2];exact n32_b _ _
  have f6:B.drop 4=p.reports.flatMap wRep++p.ext:=by rw [hB2];rfl
  rw [<-hBe] at hx ⊢
  unfold rdBody
  simp only [hT_w,hC_w B (show 0<=(p.reports.length:Int)/\(p.reports.length:Int) < 32 by omega),show kindOf 201 (p.reports.length:Int)=2 from rfl,show ∀c t n,(hdrB c t n++B).drop 4=B from fun _ _ _=>rfl,Int.toNat_natCast]
  rw [if_neg (by decide),if_pos (by trivial),if_neg (by omega),f1,f6,reps_w,drop_b _ (wRep_fl _)]
 ·obtain ⟨hn,hl,hR⟩:=h.k3 hk
  rw [wr_3 hk,show trim p={ kind:=3,chunks:=p.chunks } by unfold trim;simp [hk]]
  unfold wrSD
  have h4:=wChk_4 p.chunks
  refine go_w (by omega) (by omega) (by show (3:Int)≠0;decide) ?_
  unfold rdBody
  simp only [hT_w,hC_w (p.chunks.flatMap wChk) (show 0<=(p.chunks.length:Int)/\(p.chunks.length:Int) < 32 by omega),show kindOf 202 (p.chunks.length:Int)=3 from rfl,show ∀c t n,(hdrB c t n++p.chunks.flatMap wChk).drop 4=p.chunks.flatMap wChk from fun _ _ _=>rfl,Int.toNat_natCast]
  rw [if_neg (by decide),if_neg (by decide),if_pos (by trivial),chks_w _ hR]
  rfl
 ·obtain ⟨hn,ht,hR⟩:=h.k4 hk
  rw [wr_4 hk,show trim p={ kind:=4,sources:=p.sources,text:=p.text } by unfold trim;simp [hk]]
  unfold wrBye
  have hw:=wBye_len p.text
  refine go_w (by omega) ?_ (by show (4:Int)≠0;decide) ?_
  ·rw [List.length_append,fl32,hw]
   split
   ·omega
   ·unfold pad4;omega
  unfold rdBody
  simp only [hT_w,hC_w (p.sources.flatMap b32++wBye p.text) (show 0<=(p.sources.length:Int)/\(p.sources.length:Int) < 32 by omega),show kindOf 203 (p.sources.length:Int)=4 from rfl,show ∀c t n,(hdrB c t n++(p.sources.flatMap b32++wBye p.text)).drop 4=p.sources.flatMap b32++wBye p.text from fun _ _ _=>rfl,Int.toNat_natCast]
  rw [if_neg (by decide),if_neg (by decide),if_neg (by decide),if_pos (by trivial),bye_w _ _ ht]
 ·obtain ⟨hs,_,ht,h4,hd⟩:=h.k5 hk
  rw [wr_5 hk,show trim p={ kind:=5,sender:=p.sender,text:=p.text,sub:=p.sub,data:=p.data } by unfold trim;simp [hk]]
  unfold wrApp
  have hx:(b32 p.sender++sbs p.text++p.data).length=8+p.data.length:=by
   simp only [List.length_append,b32_len,sbs_len,ht]
  refine go_w hs (by rw [hx];omega) (by show (5:Int)≠0;decide) ?_
  obtain ⟨B,hBe⟩:∃B,B=b32 p.sender++sbs p.text++p.data:=⟨_,rfl⟩
  have hB2:B=b32 p.sender++(sbs p.text++p.data):=by rw [hBe,List.append_assoc]
  have f1:n32 B=p.sender:=by rw [hB2];exact n32_b _ _
  have f2:(B.drop 4).take 4=sbs p.text:=by rw [hB2];exact List.take_left' (by rw [sbs_len,ht])
  have f3:B.drop 8=p.data:=by rw [hBe];exact drop_b _ (by rw [List.length_append,b32_len,sbs_len,ht])
  rw [<-hBe] at hx ⊢
  unfold rdBody
  simp only [hT_w,hC_w B hs,show kindOf 204 p.sub=5 from rfl,show ∀c t n,(hdrB c t n++B).drop 4=B from fun _ _ _=>rfl]
  rw [if_neg (by decide),if_neg (by decide),if_neg (by decide),if_neg (by decide),if_pos (by trivial),if_neg (by omega),f1,f2,f3,strOf_sbs]
 ·obtain ⟨_,_,hn,_⟩:=h.k6 hk
  have hne:=hx.1 hk
  rw [wr_6 hk,show trim p={ kind:=6,sender:=p.sender,media:=p.media,pairs:=p.pairs } by unfold trim;simp [hk]]
  unfold wrFb
  rw [List.append_assoc]
  obtain ⟨g1,g2,g3⟩:=fb_s p.sender p.media (p.pairs.flatMap wPar)
  have hx:(b32 p.sender++(b32 p.media++p.pairs.flatMap wPar)).length=8+4*p.pairs.length:=by
   simp only [List.length_append,b32_len,flat_bd wPar_len];omega
  refine go_w (by decide) (by rw [hx];omega) (by decide) ?_
  rw [body_w (k:=6) (by decide) rfl (by decide) (by omega)]
  unfold rdFb
  simp only [g1,g2,g3]
  have hq:(p.pairs.flatMap wPar).length / 4=p.pairs.length:=by rw [flat_bd wPar_len];omega
  have hw:=pairsL_w p.pairs []
  rw [List.append_nil] at hw
  have:p.pairs.length≠0:=fun e=>hne (List.eq_nil_of_length_eq_zero e)
  rw [if_neg (by decide),if_pos (by trivial),hq,if_neg this,hw]
 ·rw [wr_7 hk,show trim p={ kind:=p.kind,sender:=p.sender,media:=p.media } by unfold trim;simp [hk],hk]
  unfold wrTwo
  have e:b32 p.sender++b32 p.media=b32 p.sender++(b32 p.media++[]):=by rw [List.append_nil]
  rw [e]
  obtain ⟨g1,g2,g3⟩:=fb_s p.sender p.media []
  refine go_w (by decide) rfl (by decide) ?_
  rw [body_w (k:=7) (by decide) rfl (by decide) (by show 8<=8;decide)]
  unfold rdFb
  simp only [g1,g2,g3]
  rfl
 ·obtain ⟨_,_,hbl,hl,hR⟩:=h.k8 hk
  obtain ⟨hne,hmf⟩:=hx.2.1 hk
  rw [wr_8 hk,show trim p={ kind:=8,sender:=p.sender,blocks:=p.blocks,time:=p.time } by unfold trim;simp [hk]]
  unfold wrCc
  have h4:=wBlo_4 p.blocks
  rw [List.append_assoc]
  have hx:(b32 p.sender++(p.blocks.flatMap wBlo++b32 p.time)).length=8+(p.blocks.flatMap wBlo).length:=by
   simp only [List.length_append,b32_len];omega
  refine go_w (by decide) (by rw [hx];omega) (by decide) ?_
  rw [body_w (k:=8) (by decide) rfl (by decide) (by omega)]
  have hlb:p.blocks.length<=(p.blocks.flatMap wBlo).length:=by have:=wBlo_ge p.blocks;omega
  unfold rdFb
  simp only [n32_b,show (b32 p.sender++(p.blocks.flatMap wBlo++b32 p.time)).drop 4=p.blocks.flatMap wBlo++b32 p.time from rfl]
  rw [if_neg (by decide),if_neg (by decide),if_neg (by decide),if_neg (by decide),if_neg (by decide),if_pos (by trivial)]
  unfold rdCc
  rw [blocksL_w p.blocks _ (b32 p.time) (by rw [List.length_append,b32_len];omega) hR hmf (b32_len _)]
  simp only
  have e:=n32_b p.time []
  rw [List.append_nil] at e
  rw [if_pos ⟨b32_len _,hne⟩,e]
 ·rw [wr_9 hk,show trim p={ kind:=p.kind,sender:=p.sender,media:=p.media } by unfold trim;simp [hk],hk]
  unfold wrTwo
  have e:b32 p.sender++b32 p.media=b32 p.sender++(b32 p.media++[]):=by rw [List.append_nil]
  rw [e]
  obtain ⟨g1,g2,g3⟩:=fb_s p.sender p.media []
  refine go_w (by decide) rfl (by decide) ?_
  rw [body_w (k:=9) (by decide) rfl (by decide) (by show 8<=8;decide)]
  unfold rdFb
  simp only [g1,g2,g3]
  rfl
 ·obtain ⟨_,_,hn,hR⟩:=h.k10 hk
  have hne:=hx.2.2.1 hk
  rw [wr_10 hk,show trim p={ kind:=10,sender:=p.sender,media:=p.media,slices:=p.slices } by unfold trim;simp [hk]]
  unfold wrFb
  rw [List.append_assoc]
  obtain ⟨g1,g2,g3⟩:=fb_s p.sender p.media (p.slices.flatMap wSli)
  have hx:(b32 p.sender++(b32 p.media++p.slices.flatMap wSli)).length=8+4*p.slices.length:=by
   simp only [List.length_append,b32_len,flat_bd wSli_len];omega
  refine go_w (by decide) (by rw [hx];omega) (by decide) ?_
  rw [body_w (k:=10) (by decide) rfl (by decide) (by omega)]
  unfold rdFb
  simp only [g1,g2,g3]
  have hq:(p.slices.flatMap wSli).length / 4=p.slices.length:=by rw [flat_bd wSli_len];omega
  have hw:=sliceL_w p.slices [] hR
  rw [List.append_nil] at hw
  have:p.slices.length≠0:=fun e=>hne (List.eq_nil_of_length_eq_zero e)
  rw [if_neg (by decide),if_neg (by decide),if_pos (by trivial),hq,if_neg this,hw]
 ·obtain ⟨_,_,hn,_⟩:=h.k11 hk
  have hne:=hx.2.2.2 hk
  rw [wr_11 hk,show trim p={ kind:=11,sender:=p.sender,media:=p.media,entries:=p.entries } by unfold trim;simp [hk]]
  unfold wrFb
  rw [List.append_assoc]
  obtain ⟨g1,g2,g3⟩:=fb_s p.sender p.media (p.entries.flatMap wEnt)
  have hx:(b32 p.sender++(b32 p.media++p.entries.flatMap wEnt)).length=8+8*p.entries.length:=by
   simp only [List.length_append,b32_len,flat_bd wEnt_len];omega
  refine go_w (by decide) (by rw [hx];omega) (by decide) ?_
  rw [body_w (k:=11) (by decide) rfl (by decide) (by omega)]
  unfold rdFb
  simp only [g1,g2,g3]
  have hq:(p.entries.flatMap wEnt).length / 8=p.entries.length:=by rw [flat_bd wEnt_len];omega
  rw [if_neg (by decide),if_neg (by decide),if_neg (by decide),if_pos (by trivial),hq,entryL_w]
  simp only
  rw [if_neg hne]
 ·obtain ⟨_,hn,_,hb⟩:=h.k12 hk
  rw [wr_12 hk,show trim p={ kind:=12,sender:=p.sender,bits:=p.bits,sources:=p.sources } by unfold trim;simp [hk]]
  unfold wrRemb
  have hw:=remb_w (s:=p.sender) hn hb
  generalize brE p.bits*4+brM p.bits / 65536=e1 at hw ⊢
  generalize brM p.bits / 256 % 256=e2 at hw ⊢
  generalize brM p.bits % 256=e3 at hw ⊢
  rw [List.append_assoc,List.append_assoc]
  obtain ⟨g1,g2,g3⟩:=fb_s p.sender 0 ([82,69,77,66,(p.sources.length:Int),e1,e2,e3]++p.sources.flatMap b32)
  have hx:(b32 p.sender++(b32 0++([82,69,77,66,(p.sources.length:Int),e1,e2,e3]++p.sources.flatMap b32))).length=16+4*p.sources.length:=by
   rw [List.length_append,List.length_append,List.length_append,b32_len,b32_len,fl32]
   show 4+(4+(8+_))=_
   omega
  refine go_w (by decide) (by rw [hx];omega) (by decide) ?_
  rw [body_w (k:=12) (by decide) rfl (by decide) (by omega)]
  unfold rdFb
  simp only [g1,g2,g3]
  rw [if_neg (by decide),if_neg (by decide),if_neg (by decide),if_neg (by decide),if_pos (by trivial),hw]
/-! ### Datagrams -/
theorem go_whole {xs:List Int} {p:Pk} (h:go xs=some p):hdrOk xs=true/\4*(hL xs+1)=(xs.length:Int):=by
 unfold go at h
 split at h
 ·rename_i h0
  have hok:hdrOk xs=true:=by
   cases hh:hdrOk xs with
   | true=>rfl
   | false=>unfold rdOne at h0;rw [if_pos hh] at h0;exact absurd h0 (by decide)
  refine ⟨hok,?_⟩
  by_cases hl:4*(hL xs+1)=(xs.length:Int)
  ·exact hl
  ·unfold rdOne at h0;rw [if_neg (by rw [hok];decide),if_pos hl] at h0;exact absurd h0 (by decide)
 ·cases h
theorem hdr_app {xs:List Int} (R:List Int) (h:hdrOk xs=true):4<=xs.length/\hdrOk (xs++R)=true/\hL (xs++R)=hL xs:=by
 have h4:4<=xs.length:=by
  simp only [hdrOk,Bool.and_eq_true,decide_eq_true_eq] at h
  exact h.1
 match xs,h4 with
 | a::b::c::d::r,h4=>
  refine ⟨h4,?_,rfl⟩
  simp only [hdrOk,Bool.and_eq_true,decide_eq_true_eq] at h ⊢
  exact ⟨by rw [List.length_append];omega,h.2⟩
theorem gl_wr:∀(L:List Pk) (f:Nat),(∀p∈L,WrOk p/\WrX p/\(p.kind=0->RawOk p.data))->(L.flatMap wrOne).length<=f->okSplit f (L.flatMap wrOne)=true/\gl f (L.flatMap wrOne)=some (L.map trim)
 | [],f,_,_=>by
  cases f<;>exact ⟨rfl,rfl⟩
 | p::l,f,h,hf=>by
  obtain ⟨h1,h2,h3⟩:=h p ms
  have hg:=go_wr h1 h2 h3
  obtain ⟨hok,hlen⟩:=go_whole hg
  rw [List.flatMap_cons] at hf ⊢
  obtain ⟨h4,hok2,hL2⟩:=hdr_app (l.flatMap wrOne) hok
  rw [List.length_append] at hf
  cases f with
  | zero=>omega
  | succ f=>
   obtain ⟨i1,i2⟩:=gl_wr l f (fun q hq=>h q (mt hq)) (by omega)
   have hN:hN (wrOne p++l.flatMap wrOne)=(wrOne p).length:=by unfold Go.Proofs.YtkdialecadjedaaGreatDoor.hN;rw [hL2];omega
   have hfit:hFit (wrOne p++l.flatMap wrOne):=⟨hok2,by rw [hL2,List.length_append];omega⟩
   have hne:¬wrOne p++l.flatMap wrOne=[]:=fun e=>by
    have:=congrArg List.length e
    rw [List.length_append,List.length_nil] at this
    omega
   constructor
   ·unfold okSplit
    rw [if_neg hne,if_pos hfit,hN,drop_b _ rfl,i1]
   ·unfold gl
    rw [if_neg hne,if_pos hfit,hN,drop_b _ rfl,List.take_left' rfl,hg]
    simp only
    rw [i2]
    rfl
structure LgOk (p:Pk) (X:List Int):Prop where
 lo:0<=p.kind
 hi:p.kind<=12
 wx:WrX p
 ok:WrOk p
 eq:X=wrOne p
 raw:p.kind=0->RawOk p.data
 len:X.length<=131072
def LgPost (F:Fr) (ex:List Ex) (ro:List Ro) (p:Pk) (en:Ending) (w':World):Prop:=
 ∃cells a X c ok ro',en=.returned (.tuple #[.agg cells.toArray,.slice a X.length c,.bool ok])/\(∀r∈ro,r∈ro')/\Sat F w' ex ro'/\cells.length=30/\cells.all Value.oneCell'=true/\(ok=true->Ro.deep (trim p).dat cells∈ro'/\Ro.B X a X.length c∈ro'/\LgOk p X)
theorem c43 {F:Fr} {w:World} {ex:List Ex} {ro:List Ro} {p:Pk} {cells:List Value} (H:Sat F w ex ro) (hp:Ro.deep p.dat cells∈ro) (hF:0<=p.kind->p.kind<=13->FoOk p):Calls pg 43 #[.agg cells.toArray] w (LgPost F ex ro p):=by
 have hp0:=hp
 obtain ⟨a7,a8,a9,a10,a13,a14,a15,a16,a18,a24,a25,c7,c8,c9,c10,c13,c14,c15,c16,c18,c24,c25,R,rfl,hr,H,_⟩:=H.pkF hp
 apply of43
 refine sNew H ?_;clear H;intro b1 w _ H
 replace H:Sat F w (.blk b1 63 (pkC p a7 a8 a9 a10 a13 a14 a15 a16 a18 a24 a25 c7 c8 c9 c10 c13 c14 c15 c16 c18 c24 c25)::ex) R:=H
 refine sNew H ?_;clear H;intro b3 w _ H
 replace H:Sat F w (.blk b3 63 zC::.blk b1 63 (pkC p a7 a8 a9 a10 a13 a14 a15 a16 a18 a24 a25 c7 c8 c9 c10 c13 c14 c15 c16 c18 c24 c25)::ex) R:=H
 refine ⟨_,H.b1.ld,?_⟩
 refine call_j (c48 H (hr _ hp0) hF) ?_
 clear H;rintro _ w ⟨a,c,X,ok,R2,rfl,hr2,H,hm,hok⟩
 refine ⟨_,_,_,_,rfl,?_⟩
 refine ⟨fun _=>?_,fun h1=>⟨fun _=>?_,fun h2=>?_⟩⟩
 ·refine ⟨_,H.b1.ld,?_⟩
  refine sSw0 H rfl (by kernel_rfl) (by rfl) (by rfl) ?_;clear H;intro w _ H
  refine ⟨_,H.b0.ld,?_⟩
  exact ⟨_,none,[],0,false,R2,rfl,fun r h=>hr2 r (hr r h),H.dr,rfl,rfl,fun h=>by cases h⟩
 ·refine ⟨_,H.b1.ld,?_⟩
  refine sSw0 H rfl (by kernel_rfl) (by rfl) (by rfl) ?_;clear H;intro w _ H
  refine ⟨_,H.b0.ld,?_⟩
  exact ⟨_,none,[],0,false,R2,rfl,fun r h=>hr2 r (hr r h),H.dr,rfl,rfl,fun h=>by cases h⟩
 ·have h1:ok=true:=by simpa using h1
  rw [decide_eq_false_iff_not] at h2
  obtain ⟨⟨lo,hi⟩,hx,_,hraw,hwr⟩:=hok h1
  obtain ⟨hw,hX⟩:=hwr (by omega)
  refine ⟨_,H.b1.ld,?_⟩
  refine call_j (c87 H (hr2 _ (hr _ hp0)) lo hi) ?_
  clear H;rintro _ w ⟨cells2,R3,rfl,hr3,H,hm3⟩
  obtain ⟨e7,e8,e9,e10,e13,e14,e15,e16,e18,e24,e25,f7,f8,f9,f10,f13,f14,f15,f16,f18,f24,f25,R4,rfl,hr4,H,_⟩:=H.pkF hm3
  refine ⟨_,rfl,?_⟩
  refine sSw0 H rfl (by kernel_rfl) (by rfl) (by rfl) ?_;clear H;intro w _ H
  refine ⟨_,H.b0.ld,?_⟩
  exact ⟨_,a,X,c,true,R4,rfl,fun r h=>hr4 r (hr3 r (hr2 r (hr r h))),H.dr,rfl,rfl,fun _=>⟨hr4 _ hm3,hr4 _ (hr3 _ hm),lo,hi,hx,hw,hX,hraw,by omega⟩⟩
def LsPost (F:Fr) (ex:List Ex) (ro:List Ro) (L:List Pk) (en:Ending) (w':World):Prop:=
 (∃o n oc a k c,en=.returned (.tuple #[.slice o n oc,.slice a k c,.bool false])/\Sat F w' ex ro) \/
 ∃o oc a k c ro',en=.returned (.tuple #[.slice o L.length oc,.slice a k c,.bool true])/\(∀r∈ro,r∈ro')/\Sat F w' ex ro'/\Ro.deep [.row 30 ((L.map trim).flatMap Pk.dat)] [.slice o L.length oc]∈ro'/\L≠[]/\(∀p∈L,LgOk p (wrOne p))/\(L.flatMap wrOne).length<=262144
theorem c17 {F:Fr} {w:World} {ex:List Ex} {ro:List Ro} {L:List Pk} {l:Option Addr} {c:Nat} (H:Sat F w ex ro) (hl:Ro.deep [.row 30 (L.flatMap Pk.dat)] [.slice l L.length c]∈ro) (hn:L.length<=2000000) (hF:∀p∈L,0<=p.kind->p.kind<=13->FoOk p):Calls pg 17 #[.slice l L.length c] w (LsPost F ex ro L):=by
 apply of17
 refine ⟨fun o ol oc a al ac x m w=>∃(j:Nat) (r ra:Option Nat) (X:List Int),x=(j:Int)/\j+m=L.length/\ol=j/\al=X.length/\X=(L.take j).flatMap wrOne/\X.length<=262144/\(∀p∈L.take j,LgOk p (wrOne p))/\Sat F w (.own 63 30 o ol oc r (((L.take j).map trim).flatMap Pk.dat)::.own 5 1 a al ac ra (ob X)::ex) ro,
  ⟨L.length,0,none,none,[],rfl,by omega,rfl,rfl,by simp,by decide,by simp,(H.nilOwn 5 1).nilOwn 63 30⟩,?_⟩
 clear H;rintro dd2 o ol oc a al ac x m w ⟨j,r,ra,X,rfl,hjm,rfl,rfl,hX,hXl,hall,H⟩
 refine ⟨fun hc=>?_,fun hc=>?_⟩
 ·rw [decide_eq_true_eq] at hc
  have hjl:ol < L.length:=by omega
  obtain ⟨pp,us,e,hus,hcell,H1⟩:=H.eltF Pk.dat_lenN (by decide) hl (j:=ol) hjl
  have htk:L.take (ol+1)=L.take ol++[L[ol]]:=by rw [List.take_add_one,List.getElem?_eq_getElem hjl];rfl
  have hFj:=hF L[ol] (List.getElem_mem hjl)
  clear H
  generalize L[ol]=D at H1 htk hFj
  obtain ⟨a7,a8,a9,a10,a13,a14,a15,a16,a18,a24,a25,c7,c8,c9,c10,c13,c14,c15,c16,c18,c24,c25,R,rfl,hr,H,_⟩:=H1.pkF ms
  clear H1
  refine ⟨pp,e,by omega,by omega,?_⟩
  refine ⟨_,LdC (pkC D a7 a8 a9 a10 a13 a14 a15 a16 a18 a24 a25 c7 c8 c9 c10 c13 c14 c15 c16 c18 c24 c25) (by kernel_rfl) (by rw [show (ol:Int).toNat*30=ol*30 by omega];exact hcell),?_⟩
  clear hcell
  refine sNew H ?_;clear H;intro b11 w _ H
  refine sSw0 H rfl (by kernel_rfl) (by rfl) (by rfl) ?_;clear H;intro w _ H
  refine ⟨_,H.b0.ld,?_⟩
  refine call_j (c43 H (hr _ ms) hFj) ?_
  clear H;rintro _ w ⟨cells,a2,Y,k2,ok,R2,rfl,hr2,H,hl30,h1c,hok⟩
  refine ⟨_,_,_,_,_,rfl,?_⟩
  refine sNew H ?_;clear H;intro b20 w _ H
  refine sSw0 H rfl (by rw [hl30];kernel_rfl) (by rw [hl30];rfl) h1c ?_
  clear H;intro w _ H
  have hr3:∀r∈ro,r∈R2:=fun r h=>hr2 r (hr r (mt h))
  refine ⟨fun _=>Or.inl ⟨none,0,0,none,0,0,rfl,H.ds hr3⟩,fun h1=>?_⟩
  have h1:ok=true:=by simpa using h1
  refine ⟨fun _=>Or.inl ⟨none,0,0,none,0,0,rfl,H.ds hr3⟩,fun h2=>?_⟩
  rw [decide_eq_false_iff_not] at h2
  obtain ⟨hd,hb,hlg⟩:=hok h1
  have hYl:=hlg.len
  refine ⟨_,Ld0 rfl H.b0 (by rw [hl30];kernel_rfl),?_⟩
  refine ⟨by simpa [Value.cells] using hl30,?_⟩
  refine sPush2 H (bytes:=360) (by kernel_rfl) (trim D).dat (by simpa [Value.cells] using hl30) (fun G h=>h (.deep _ _) hd) (by simpa [Value.cells] using h1c) (by unfold maxLen;omega) (by omega) ?_
  clear H;intro o2 ol2 oc2 r2 w eo2 _ H
  replace H:=H.r3
  refine sAppV H hb (by omega) ?_
  clear H;intro a3 n3 k3 r3 w hn3 _ H
  subst eo2
  have hn3':n3=(X++Y).length:=by rw [List.length_append];exact hn3
  refine ⟨m - 1,by omega,ol+1,r2,r3,X++Y,by rw [wi64_of (by omega) (by omega)];simp,by omega,rfl,hn3',?_,?_,?_,?_⟩
  ·rw [htk,List.flatMap_append,<-hX,hlg.eq]
   simp only [fm1,fm2,fm3]
  ·rw [List.length_append];omega
  ·rw [htk]
   intro y hy
   rcases List.mem_append.1 hy with hy | hy
   ·exact hall y hy
   ·rw [List.mem_singleton.1 hy];rw [<-hlg.eq];exact hlg
  ·rw [htk,List.map_append,List.flatMap_append]
   simp only [List.map_cons,List.map_nil,List.flatMap_cons,List.flatMap_nil,List.append_nil]
   exact (H.u3.r2).sub sl2 hr3
 ·rw [decide_eq_false_iff_not] at hc
  obtain rfl:ol=L.length:=by omega
  rw [List.take_length] at hX hall H
  subst hX
  by_cases h0:L=[]
  ·refine Or.inl ⟨o,L.length,oc,a,(L.flatMap wrOne).length,ac,?_,H.dr⟩
   rw [h0];rfl
  ·have hp:decide (((L.length:Nat):Int) > (0:Int))=true:=by
    rw [decide_eq_true_eq]
    have:L.length≠0:=fun e=>h0 (List.eq_nil_of_length_eq_zero e)
    omega
   rw [hp]
   exact Or.inr ⟨o,oc,a,(L.flatMap wrOne).length,ac,_,rfl,fun r h=>mt h,H.freeze.sub sl1 (fun _ h=>h),ms,h0,hall,hXl⟩
theorem c15 {F:Fr} {w:World} {ex:List Ex} {ro:List Ro} {L:List Pk} {l:Option Addr} {c:Nat} (H:Sat F w ex ro) (hl:Ro.deep [.row 30 (L.flatMap Pk.dat)] [.slice l L.length c]∈ro) (hn:L.length<=2000000) (hs:∀p∈L,p.size<=1100000) :
  Calls pg 15 #[.slice l L.length c] w fun en w'=>∃o oc,en=.returned (.slice o L.length oc)/\Sat F w' ex (.deep [.row 30 (L.flatMap Pk.dat)] [.slice o L.length oc]::ro):=by
 apply of15
 refine ⟨fun o ol oc x m w=>∃(j:Nat) (r:Option Nat),x=(j:Int)/\j+m=L.length/\ol=j/\Sat F w (.own 63 30 o ol oc r ((L.take j).flatMap Pk.dat)::ex) ro,⟨L.length,0,none,rfl,by omega,rfl,H.nilOwn 63 30⟩,?_⟩
 clear H;rintro dd2 o ol oc x m w ⟨j,r,rfl,hjm,rfl,H⟩
 refine ⟨fun hc=>?_,fun hc=>?_⟩
 ·rw [decide_eq_true_eq] at hc
  have hjl:ol < L.length:=by omega
  obtain ⟨pp,us,e,hus,hcell,H1⟩:=H.eltF Pk.dat_lenN (by decide) hl (j:=ol) hjl
  have htk:L.take (ol+1)=L.take ol++[L[ol]]:=by rw [List.take_add_one,List.getElem?_eq_getElem hjl];rfl
  have hsj:=hs L[ol] (List.getElem_mem hjl)
  clear H
  generalize L[ol]=D at H1 htk hsj
  obtain ⟨a7,a8,a9,a10,a13,a14,a15,a16,a18,a24,a25,c7,c8,c9,c10,c13,c14,c15,c16,c18,c24,c25,R,rfl,hr,H,_⟩:=H1.pkF ms
  clear H1
  refine ⟨pp,e,by omega,by omega,?_⟩
  refine ⟨_,LdC (pkC D a7 a8 a9 a10 a13 a14 a15 a16 a18 a24 a25 c7 c8 c9 c10 c13 c14 c15 c16 c18 c24 c25) (by kernel_rfl) (by rw [show (ol:Int).toNat*30=ol*30 by omega];exact hcell),?_⟩
  clear hcell
  refine sNew H ?_;clear H;intro b11 w _ H
  refine sSw0 H rfl (by kernel_rfl) (by rfl) (by rfl) ?_;clear H;intro w _ H
  refine ⟨_,H.b0.ld,?_⟩
  refine call_j (c41 H (hr _ ms) hsj) ?_
  clear H;rintro _ w ⟨cells,R2,rfl,hr2,H,hd⟩
  obtain ⟨e7,e8,e9,e10,e13,e14,e15,e16,e18,e24,e25,f7,f8,f9,f10,f13,f14,f15,f16,f18,f24,f25,R4,rfl,hr4,H,_⟩:=H.pkF hd
  refine ⟨_,rfl,?_⟩
  refine ⟨rfl,?_⟩
  refine sPush1 H (bytes:=360) (by kernel_rfl) D.dat (by rfl) (fun G h=>h (.deep _ _) (hr4 _ hd)) (by rfl) (by unfold maxLen;omega) (by omega) ?_
  clear H;intro o2 ol2 oc2 r2 w eo2 _ H
  subst eo2
  refine ⟨m - 1,by omega,ol+1,r2,by rw [wi64_of (by omega) (by omega)];simp,by omega,rfl,?_⟩
  rw [htk,List.flatMap_append]
  simp only [fm1,fm2,fm3]
  exact H.ds (fun r h=>hr4 r (hr2 r (hr r (mt h))))
 ·rw [decide_eq_false_iff_not] at hc
  obtain rfl:ol=L.length:=by omega
  rw [List.take_length] at H
  exact ⟨o,oc,rfl,H.freeze⟩
theorem c19 {F:Fr} {w:World} {ex:List Ex} {ro:List Ro} {L:List Pk} {l:Option Addr} {c:Nat} (H:Sat F w ex ro) (hl:Ro.deep [.row 30 (L.flatMap Pk.dat)] [.slice l L.length c]∈ro) (hn:L.length<=2000000) (hs:∀p∈L,p.size<=1100000) :
  Calls pg 19 #[.slice l L.length c] w fun en w'=>∃o oc,en=.returned (.slice o L.length oc)/\Sat F w' ex (.deep [.row 30 (L.flatMap Pk.dat)] [.slice o L.length oc]::ro):=by
 apply of19
 refine ⟨fun o ol oc x m w=>∃(j:Nat) (r:Option Nat),x=(j:Int)/\j+m=L.length/\ol=j/\Sat F w (.own 75 30 o ol oc r ((L.take j).flatMap Pk.dat)::ex) ro,⟨L.length,0,none,rfl,by omega,rfl,H.nilOwn 75 30⟩,?_⟩
 clear H;rintro dd2 o ol oc x m w ⟨j,r,rfl,hjm,rfl,H⟩
 refine ⟨fun hc=>?_,fun hc=>?_⟩
 ·rw [decide_eq_true_eq] at hc
  have hjl:ol < L.length:=by omega
  obtain ⟨pp,us,e,hus,hcell,H1⟩:=H.eltF Pk.dat_lenN (by decide) hl (j:=ol) hjl
  have htk:L.take (ol+1)=L.take ol++[L[ol]]:=by rw [List.take_add_one,List.getElem?_eq_getElem hjl];rfl
  have hsj:=hs L[ol] (List.getElem_mem hjl)
  clear H
  generalize L[ol]=D at H1 htk hsj
  obtain ⟨a7,a8,a9,a10,a13,a14,a15,a16,a18,a24,a25,c7,c8,c9,c10,c13,c14,c15,c16,c18,c24,c25,R,rfl,hr,H,_⟩:=H1.pkF ms
  clear H1
  refine ⟨pp,e,by omega,by omega,?_⟩
  refine ⟨_,LdC (pkC D a7 a8 a9 a10 a13 a14 a15 a16 a18 a24 a25 c7 c8 c9 c10 c13 c14 c15 c16 c18 c24 c25) (by kernel_rfl) (by rw [show (ol:Int).toNat*30=ol*30 by omega];exact hcell),?_⟩
  clear hcell
  refine sNew H ?_;clear H;intro b11 w _ H
  refine sSw0 H rfl (by kernel_rfl) (by rfl) (by rfl) ?_;clear H;intro w _ H
  refine ⟨_,H.b0.ld,?_⟩
  refine call_j (c47 H (hr _ ms) hsj) ?_
  clear H;rintro _ w ⟨cells,R2,rfl,hr2,H,hd⟩
  obtain ⟨e7,e8,e9,e10,e13,e14,e15,e16,e18,e24,e25,f7,f8,f9,f10,f13,f14,f15,f16,f18,f24,f25,R4,rfl,hr4,H,_⟩:=H.pkF hd
  refine ⟨_,rfl,?_⟩
  refine ⟨rfl,?_⟩
  refine sPush1 H (bytes:=360) (by kernel_rfl) D.dat (by rfl) (fun G h=>h (.deep _ _) (hr4 _ hd)) (by rfl) (by unfold maxLen;omega) (by omega) ?_
  clear H;intro o2 ol2 oc2 r2 w eo2 _ H
  subst eo2
  refine ⟨m - 1,by omega,ol+1,r2,by rw [wi64_of (by omega) (by omega)];simp,by omega,rfl,?_⟩
  rw [htk,List.flatMap_append]
  simp only [fm1,fm2,fm3]
  exact H.ds (fun r h=>hr4 r (hr2 r (hr r (mt h))))
 ·rw [decide_eq_false_iff_not] at hc
  obtain rfl:ol=L.length:=by omega
  rw [List.take_length] at H
  exact ⟨o,oc,rfl,H.freeze⟩
structure ByP (p:Pk):Prop where
 ext:By p.ext
 data:By p.data
 reps:∀y∈p.reports,0<=y.2.1/\y.2.1 < 256
 itms:∀y∈p.chunks,∀i∈y.2,0<=i.1/\i.1 < 256
 ents:∀y∈p.entries,0<=y.2/\y.2 < 256
theorem By.app {A B:List Int} (h:By A) (k:By B):By (A++B):=fun x hx=>(List.mem_append.1 hx).elim (h x) (k x)
theorem By.fl {α:Type} {f:α->List Int} {L:List α} (h:∀y∈L,By (f y)):By (L.flatMap f):=fun x hx=>by
 obtain ⟨y,hy,hxy⟩:=List.mem_flatMap.1 hx
 exact h y hy x hxy
theorem by_0:By []:=fun x hx=>by cases hx
theorem by_c {a:Int} {r:List Int} (ha:0<=a/\a < 256) (h:By r):By (a::r):=fun x hx=>by
 rcases List.mem_cons.1 hx with rfl | hx
 ·exact ha
 ·exact h x hx
theorem by_z (n:Nat):By (List.replicate n 0):=fun x hx=>by rw [(List.mem_replicate.1 hx).2];decide
theorem by16 {v:Int} (h:0<=v/\v < 65536):By (b16 v):=by_c (by omega) (by_c (by omega) by_0)
theorem by32 {v:Int} (h:u32R v):By (b32 v):=by
 obtain ⟨h1,h2⟩:0<=v/\v < 4294967296:=h
 exact by_c (by omega) (by_c (by omega) (by_c (by omega) (by_c (by omega) by_0)))
theorem by64 {v:Int} (h:0<=v/\v < 18446744073709551616):By (b64 v):=(by32 ⟨by omega,by omega⟩).app (by32 ⟨by omega,by omega⟩)
theorem bys (s:ByteArray):By (sbs s):=fun x hx=>by
 obtain ⟨c,_,rfl⟩:=List.mem_map.1 hx
 have:=c.toNat_lt
 omega
theorem byH {c t n:Int} (hc:0<=c/\c < 32) (ht:0<=t/\t < 256) (hn:0<=n/\n < 65536):By (hdrB c t n):=by_c (by omega) (by_c ht (by16 hn))
theorem byRep {x:Rep} (h:RepR x) (h1:0<=x.2.1/\x.2.1 < 256):By (wRep x):=by
 obtain ⟨a,b,c,d,e,f,g⟩:=x
 obtain ⟨h0,h2,h3,h4,h5,h6⟩:u32R a/\(0<=c/\c < 16777216)/\u32R d/\u32R e/\u32R f/\u32R g:=h
 exact ((((by32 h0).app (by_c h1 (by_c (by omega) (by_c (by omega) (by_c (by omega) by_0))))).app (by32 h3)).app (by32 h4)).app (by32 h5) |>.app (by32 h6)
theorem wr_By {p:Pk} (h:WrOk p) (b:ByP p) (hl:(wrOne p).length<=262144):By (wrOne p):=by
 have lo:=h.lo
 have hi:=h.hi
 have hkk:p.kind=0\/p.kind=1\/p.kind=2\/p.kind=3\/p.kind=4\/p.kind=5\/p.kind=6\/p.kind=7\/p.kind=8\/p.kind=9\/p.kind=10\/p.kind=11\/p.kind=12:=by omega
 rcases hkk with hk | hk | hk | hk | hk | hk | hk | hk | hk | hk | hk | hk | hk
 ·rw [wr_0 hk];exact b.data
 ·obtain ⟨h1,h2,h3,h4,h5,hn,_,hx,hR⟩:=h.k1 hk
  rw [wr_1 hk]
  exact (byH ⟨by omega,by omega⟩ (by decide) ⟨by omega,by omega⟩).app (((((((by32 h1).app (by64 h2)).app (by32 h3)).app (by32 h4)).app (by32 h5)).app (By.fl fun y hy=>byRep (hR y hy) (b.reps y hy))).app b.ext)
 ·obtain ⟨h1,hn,_,hx,hR⟩:=h.k2 hk
  rw [wr_2 hk]
  exact (byH ⟨by omega,by omega⟩ (by decide) ⟨by omega,by omega⟩).app (((by32 h1).app (By.fl fun y hy=>byRep (hR y hy) (b.reps y hy))).app b.ext)
 ·obtain ⟨hn,hx,hR⟩:=h.k3 hk
  rw [wr_3 hk]
  refine (byH ⟨by omega,by omega⟩ (by decide) ⟨by omega,by omega⟩).app (By.fl fun y hy=>?_)
  obtain ⟨hs,hI⟩:=hR y hy
  have hb:=b.itms y hy
  obtain ⟨s,l⟩:=y
  exact (((by32 hs).app (By.fl fun i hi=>by_c (hb i hi) (by_c (by have:=(hI i hi).2;omega) (bys i.2)))).app (by_c (by decide) by_0)).app (by_z _)
 ·obtain ⟨hn,ht,hR⟩:=h.k4 hk
  have hw:=wBye_len p.text
  rw [wr_4 hk]
  refine (byH ⟨by omega,by omega⟩ (by decide) ⟨by omega,?_⟩).app ((By.fl fun y hy=>by32 (hR y hy)).app ?_)
  ·have:(wBye p.text).length<=260:=by rw [hw];split<;>(try unfold pad4)<;>omega
   omega
  ·unfold wBye
   split
   ·exact by_0
   ·exact ((by_c (by omega) by_0).app (bys _)).app (by_z _)
 ·obtain ⟨hs,h1,ht,_,hd⟩:=h.k5 hk
  rw [wr_5 hk]
  exact (byH hs (by decide) ⟨by omega,by omega⟩).app (((by32 h1).app (bys _)).app b.data)
 ·obtain ⟨h1,h2,hn,hR⟩:=h.k6 hk
  rw [wr_6 hk]
  exact (byH (by decide) (by decide) ⟨by omega,by omega⟩).app (((by32 h1).app (by32 h2)).app (By.fl fun y hy=>(by16 (hR y hy).1).app (by16 (hR y hy).2)))
 ·obtain ⟨h1,h2⟩:=h.k7 hk
  rw [wr_7 hk]
  exact (byH (by decide) (by decide) (by decide)).app ((by32 h1).app (by32 h2))
 ·obtain ⟨h1,h2,_,hx,hR⟩:=h.k8 hk
  rw [wr_8 hk]
  refine (byH (by decide) (by decide) ⟨by omega,by omega⟩).app (((by32 h1).app (By.fl fun y hy=>?_)).app (by32 h2))
  obtain ⟨a1,a2,a3,a4⟩:=hR y hy
  obtain ⟨s,bg,l⟩:=y
  replace a3:l.length<=16384:=a3
  refine ((((by32 a1).app (by16 a2)).app (by16 ⟨by omega,by omega⟩)).app (By.fl fun m hm=>?_)).app (by_z _)
  obtain ⟨c1,c2⟩:=a4 m hm
  obtain ⟨mb,me,mo⟩:=m
  simp only at c1 c2
  refine by16 ?_
  unfold metN
  cases mb
  ·simp only [Bool.false_eq_true,if_false];omega
  ·simp only [if_true];omega
 ·obtain ⟨h1,h2⟩:=h.k9 hk
  rw [wr_9 hk]
  exact (byH (by decide) (by decide) (by decide)).app ((by32 h1).app (by32 h2))
 ·obtain ⟨h1,h2,hn,hR⟩:=h.k10 hk
  rw [wr_10 hk]
  refine (byH (by decide) (by decide) ⟨by omega,by omega⟩).app (((by32 h1).app (by32 h2)).app (By.fl fun y hy=>?_))
  obtain ⟨c1,c2,c3⟩:=hR y hy
  obtain ⟨f,n,q⟩:=y
  simp only at c1 c2 c3
  exact by32 ⟨by omega,by omega⟩
 ·obtain ⟨h1,h2,hn,hR⟩:=h.k11 hk
  rw [wr_11 hk]
  exact (byH (by decide) (by decide) ⟨by omega,by omega⟩).app (((by32 h1).app (by32 h2)).app (By.fl fun y hy=>(by32 (hR y hy)).app (by_c (b.ents y hy) (by_c (by decide) (by_c (by decide) (by_c (by decide) by_0))))))
 ·obtain ⟨h1,hn,hR,m,i,m0,m1,hi63,hb⟩:=h.k12 hk
  obtain ⟨hE,hM⟩:=br_rng m0 m1 hi63
  rw [<-hb] at hE hM
  rw [wr_12 hk]
  refine (byH (by decide) (by decide) ⟨by omega,by omega⟩).app ((((by32 h1).app (by32 (by decide))).app ?_).app (By.fl fun y hy=>by32 (hR y hy)))
  exact by_c (by decide) (by_c (by decide) (by_c (by decide) (by_c (by decide) (by_c (by omega) (by_c (by omega) (by_c (by omega) (by_c (by omega) by_0)))))))
theorem trim_w {p:Pk} (h:WrOk p):WrOk (trim p)/\wrOne (trim p)=wrOne p/\(trim p).kind=p.kind:=by
 have lo:=h.lo
 have hi:=h.hi
 have hkk:p.kind=0\/p.kind=1\/p.kind=2\/p.kind=3\/p.kind=4\/p.kind=5\/p.kind=6\/p.kind=7\/p.kind=8\/p.kind=9\/p.kind=10\/p.kind=11\/p.kind=12:=by omega
 rcases hkk with hk | hk | hk | hk | hk | hk | hk | hk | hk | hk | hk | hk | hk
 ·rw [wr_0 hk,show trim p={ data:=p.data } by unfold trim;simp [hk],hk];exact ⟨WrOk.of0 rfl,wr_0 rfl,rfl⟩
 ·rw [wr_1 hk,show trim p={ kind:=1,sender:=p.sender,ntp:=p.ntp,rtp:=p.rtp,packets:=p.packets,octets:=p.octets,reports:=p.reports,ext:=p.ext } by unfold trim;simp [hk],hk];exact ⟨WrOk.of1 rfl (h.k1 hk),wr_1 rfl,rfl⟩
 ·rw [wr_2 hk,show trim p={ kind:=2,sender:=p.sender,reports:=p.reports,ext:=p.ext } by unfold trim;simp [hk],hk];exact ⟨WrOk.of2 rfl (h.k2 hk),wr_2 rfl,rfl⟩
 ·rw [wr_3 hk,show trim p={ kind:=3,chunks:=p.chunks } by unfold trim;simp [hk],hk];exact ⟨WrOk.of3 rfl (h.k3 hk),wr_3 rfl,rfl⟩
 ·rw [wr_4 hk,show trim p={ kind:=4,sources:=p.sources,text:=p.text } by unfold trim;simp [hk],hk];exact ⟨WrOk.of4 rfl (h.k4 hk),wr_4 rfl,rfl⟩
 ·rw [wr_5 hk,show trim p={ kind:=5,sender:=p.sender,text:=p.text,sub:=p.sub,data:=p.data } by unfold trim;simp [hk],hk];exact ⟨WrOk.of5 rfl (h.k5 hk),wr_5 rfl,rfl⟩
 ·rw [wr_6 hk,show trim p={ kind:=6,sender:=p.sender,media:=p.media,pairs:=p.pairs } by unfold trim;simp [hk],hk];exact ⟨WrOk.of6 rfl (h.k6 hk),wr_6 rfl,rfl⟩
 ·rw [wr_7 hk,show trim p={ kind:=7,sender:=p.sender,media:=p.media } by unfold trim;simp [hk],hk];exact ⟨WrOk.of7 rfl (h.k7 hk),wr_7 rfl,rfl⟩
 ·rw [wr_8 hk,show trim p={ kind:=8,sender:=p.sender,blocks:=p.blocks,time:=p.time } by unfold trim;simp [hk],hk];exact ⟨WrOk.of8 rfl (h.k8 hk),wr_8 rfl,rfl⟩
 ·rw [wr_9 hk,show trim p={ kind:=9,sender:=p.sender,media:=p.media } by unfold trim;simp [hk],hk];exact ⟨WrOk.of9 rfl (h.k9 hk),wr_9 rfl,rfl⟩
 ·rw [wr_10 hk,show trim p={ kind:=10,sender:=p.sender,media:=p.media,slices:=p.slices } by unfold trim;simp [hk],hk];exact ⟨WrOk.of10 rfl (h.k10 hk),wr_10 rfl,rfl⟩
 ·rw [wr_11 hk,show trim p={ kind:=11,sender:=p.sender,media:=p.media,entries:=p.entries } by unfold trim;simp [hk],hk];exact ⟨WrOk.of11 rfl (h.k11 hk),wr_11 rfl,rfl⟩
 ·rw [wr_12 hk,show trim p={ kind:=12,sender:=p.sender,bits:=p.bits,sources:=p.sources } by unfold trim;simp [hk],hk];exact ⟨WrOk.of12 rfl (h.k12 hk),wr_12 rfl,rfl⟩
theorem trim_fl:∀{L:List Pk},(∀p∈L,WrOk p)->(L.map trim).flatMap wrOne=L.flatMap wrOne
 | [],_=>rfl
 | p::l,h=>by
  rw [List.map_cons,List.flatMap_cons,List.flatMap_cons,(trim_w (h p ms)).2.1,trim_fl fun q hq=>h q (mt hq)]
theorem fl_mem {L:List Pk} {p:Pk} (h:p∈L):(wrOne p).length<=(L.flatMap wrOne).length:=by
 induction L with
 | nil=>cases h
 | cons q l ih=>
  rw [List.flatMap_cons,List.length_append]
  rcases List.mem_cons.1 h with rfl | h
  ·omega
  ·have:=ih h;omega
structure LsOk (L:List Pk):Prop where
 ok:∀p∈L.map trim,WrOk p
 bu:∀p∈L.map trim,BuOk p
 sz:∀p∈L.map trim,p.size<=1100000
 gd:∀p∈L.map trim,Gd p (L.flatMap wrOne).length
 by_:By (L.flatMap wrOne)
 gl:gl (L.flatMap wrOne).length (L.flatMap wrOne)=some (L.map trim)
 fl:(L.map trim).flatMap wrOne=L.flatMap wrOne
theorem ls_ok {L:List Pk} (h:∀p∈L,LgOk p (wrOne p)) (hl:(L.flatMap wrOne).length<=262144) (hb:∀p∈L,ByP p):LsOk L:=by
 have hG:∀p∈L,Gd (trim p) (L.flatMap wrOne).length:=fun p hp=>by
  have hk:=(trim_w (h p hp).ok).2.2
  have h1:=go_Gd (go_wr (h p hp).ok (h p hp).wx (h p hp).raw) (by rw [hk];have:=(h p hp).hi;omega)
  exact h1.mono (fl_mem hp)
 have hW:∀p∈L,WrOk p:=fun p hp=>(h p hp).ok
 refine ⟨fun q hq=>?_,fun q hq=>?_,fun q hq=>?_,fun q hq=>?_,?_,?_,trim_fl hW⟩
 ·obtain ⟨p,hp,rfl⟩:=List.mem_map.1 hq
  exact (trim_w (hW p hp)).1
 ·obtain ⟨p,hp,rfl⟩:=List.mem_map.1 hq
  have hw:=(trim_w (hW p hp)).1
  refine ⟨hw.lo,hw.hi,by have:=(hG p hp).sz;omega,fun hk=>?_⟩
  obtain ⟨_,_,_,m,i,h5,h6,h7,h8⟩:=hw.k12 hk
  rw [h8]
  have:=sgl_small h5 h6 h7
  omega
 ·obtain ⟨p,hp,rfl⟩:=List.mem_map.1 hq
  have:=(hG p hp).sz
  omega
 ·obtain ⟨p,hp,rfl⟩:=List.mem_map.1 hq
  exact hG p hp
 ·exact By.fl fun p hp=>wr_By (hW p hp) (hb p hp) (by have:=fl_mem hp;omega)
 ·exact (gl_wr L _ (fun p hp=>⟨(h p hp).ok,(h p hp).wx,(h p hp).raw⟩) (Nat.le_refl _)).2
theorem exT0 (K:Value->Prop):exT pg 0 K=K (.tuple #[]):=by kernel_rfl
theorem fn_u {f:FuncId} {args args':Array Value} {w:World} {R:Ending->World->Prop} {K:Value->World->Prop} (hb:hasBody pg f=true) (he:args=args') (h:Calls pg f args' w R) (hR:∀e w',R e w'->e=.returned (.tuple #[])/\K (.tuple #[]) w'):fnVc pg f args 0 K w:=by
 subst he
 unfold fnVc
 rw [hb]
 exact h.mono fun e w' hr=>by unfold retK;rw [exT0];exact hR e w' hr
abbrev KS (b3:Nat) (T3:TypeId) (a:Option Addr) (n c:Nat) (r:Option Nat) (B:List Int) (ex:List Ex):List Ex:=.own 5 1 a n c r (ob B)::.blk b3 T3 [.slice a n c]::ex
def kL:List Int:=[56,48,40,32,24,16,8,0]
def kP (v:Int) (k:Nat):List Int:=(kL.take k).map fun i=>IntKind.u8.wrap (ishr .u64 v i)
theorem kP_step (v:Int) {k:Nat} (h:k < 8):kP v (k+1)=kP v k++[IntKind.u8.wrap (ishr .u64 v (56 - 8*(k:Int)))]:=by
 have:k=0\/k=1\/k=2\/k=3\/k=4\/k=5\/k=6\/k=7:=by omega
 rcases this with rfl | rfl | rfl | rfl | rfl | rfl | rfl | rfl<;>rfl
theorem c81 {F:Fr} {w:World} {b3:Nat} {T3:TypeId} {a:Option Addr} {n c:Nat} {r:Option Nat} {B:List Int} {ex:List Ex} {ro:List Ro} {L:List Int} {l:Option Addr} {lc:Nat} (H:Sat F w (KS b3 T3 a n c r B ex) ro)
  (hl:Ro.deep [.row 1 (oi .u64 L)] [.slice l L.length lc]∈ro) (hn:n+8*L.length<=90000000) :
  Calls pg 81 #[.slice l L.length lc,.pointer (some ⟨b3,0,none⟩)] w fun en w'=>en=.returned (.tuple #[])/\∃a' n' c' r',n'=n+8*L.length/\Sat F w' (KS b3 T3 a' n' c' r' (B++kn L) ex) ro:=by
 apply of81
 refine ⟨fun x m w=>∃(j:Nat) (a':Option Addr) (n' c':Nat) (r':Option Nat),x=(j:Int)/\j+m=L.length/\n'=n+8*j/\Sat F w (KS b3 T3 a' n' c' r' (B++kn (L.take j)) ex) ro,⟨L.length,0,a,n,c,r,rfl,by omega,by omega,by rw [List.take_zero];simpa [kn] using H⟩,?_⟩
 clear H;rintro dd2 x m w ⟨j,a,n1,c,r,rfl,hjm,hn1,H⟩
 refine ⟨fun hc=>?_,fun hc=>?_⟩
 ·rw [decide_eq_true_eq] at hc
  have hjl:j < L.length:=by omega
  have htk:L.take (j+1)=L.take j++[L[j]]:=by rw [List.take_add_one,List.getElem?_eq_getElem hjl];rfl
  obtain ⟨bb,oo,hle,hcell⟩:=H.elt hl (by omega)
  have hc1:=hcell j (.int .u64 L[j]) (by rw [oi_get _ _ _ hjl];simp [List.getD,List.getElem?_eq_getElem hjl])
  refine ⟨_,hle,by omega,by omega,?_⟩
  refine ⟨_,(by rw [show (j:Int).toNat*1=j by omega,add_flat];exact hc1),?_⟩
  clear hcell hc1
  generalize L[j]=v at htk
  obtain ⟨B1,hB1⟩:∃B1,B1=B++kn (L.take j):=⟨_,rfl⟩
  rw [<-hB1] at H
  refine ⟨fun i q w=>∃(k:Nat) (a':Option Addr) (n' c':Nat) (r':Option Nat),i=56 - 8*(k:Int)/\k+q=8/\n'=n1+k/\Sat F w (KS b3 T3 a' n' c' r' (B1++kP v k) ex) ro,⟨8,0,a,n1,c,r,by omega,by omega,by omega,by simpa [kP] using H⟩,?_⟩
  clear H;rintro dd3 i q w ⟨k,a,n2,c,r,rfl,hkq,hn2,H⟩
  refine ⟨fun hc2=>?_,fun hc2=>?_⟩
  ·rw [decide_eq_true_eq] at hc2
   have hk8:k < 8:=by omega
   refine ⟨r,?_⟩;replace H:=H.drew;generalize w.drew=w at H ⊢;obtain ⟨F2,ex2,S,back1,back2,hm⟩:=H.regO
   refine ⟨(H.ne (mt ms) ms),H.b1.row,_,_,_,(by exact Ce (by rfl) H.b1 rfl),?_⟩
   refine ⟨by omega,rfl,?_⟩
   clear H;have H:=S;clear S
   refine sNew H ?_;clear H;intro bp w _ H
   refine ⟨(back2 H).1,?_⟩
   have H1:=H.blkRow 1 1 (ob [IntKind.u8.wrap (ishr .u64 v (56 - 8*(k:Int)))]) (by rfl) (by decide) (fun G h=>DeepL.ones [_])
   clear H
   refine sAppV H1 ms (by omega) ?_
   clear H1;intro a3 n3 c3 r3 w hn3 _ H
   refine ⟨(back1 H).1,?_⟩
   replace H:=(back1 H).2;clear back1 back2 hm
   refine sSt1 H (by rfl) (by kernel_rfl) (by rfl) (by rfl) ?_;clear H;intro w _ H
   refine ⟨q - 1,by omega,k+1,a3,n3,c3,r3,by rw [wi64_of (by omega) (by omega)];omega,by omega,by omega,?_⟩
   rw [kP_step v hk8,<-List.append_assoc]
   exact H.sub (List.Sublist.refl _) (fun r h=>mt h)
  ·rw [decide_eq_false_iff_not] at hc2
   obtain rfl:k=8:=by omega
   refine ⟨m - 1,by omega,j+1,a,n2,c,r,by rw [wi64_of (by omega) (by omega)];simp,by omega,by omega,?_⟩
   have e:B++kn (L.take (j+1))=B1++kP v 8:=by
    rw [hB1,htk,List.append_assoc]
    unfold kn
    rw [List.flatMap_append,List.flatMap_cons,List.flatMap_nil,List.append_nil]
    rfl
   rw [e]
   exact H
 ·rw [decide_eq_false_iff_not] at hc
  obtain rfl:j=L.length:=by omega
  rw [List.take_length] at H
  exact ⟨rfl,a,n1,c,r,hn1,H⟩
theorem nK {F:Fr} {w:World} {b3:Nat} {T3:TypeId} {a:Option Addr} {n c k:Nat} {r:Option Nat} {B:List Int} {ex:List Ex} {ro:List Ro} (H:Sat F w (KS b3 T3 a n c r B ex) ro) (L:List Int) (hk:L.length=k) (hn:n+8*k<=90000000) (hk2:k<=100) {K:Value->World->Prop}
  (h:∀a' n' c' r' w',n'=n+8*k->Sat F w' (KS b3 T3 a' n' c' r' (B++kn L) ex) ro->K (.tuple #[]) w') :
  gNew (L.map (Value.int .u64)).toArray 52 (fun p w'=>fnVc pg 81 (#[]++#[.slice (some p) k k]++#[.pointer (some ⟨b3,0,none⟩)]) 0 K w') w:=by
 subst hk
 refine sNew H ?_
 clear H;intro bp w _ H
 have hd:∀G:Nat->Prop,DeepL w G (oi .u64 L) (L.map (Value.int .u64)):=fun G=>by
  have e:oi .u64 L=(L.map (Value.int .u64)).map .one:=by simp [oi]
  rw [e]
  exact DeepL.ones _
 have H1:=H.blkRow 1 L.length (oi .u64 L) (by simp) (by unfold maxLen;omega) (fun G h=>by simpa using hd G)
 clear H
 refine fn_u (args':=#[.slice (some ⟨bp,0,none⟩) L.length L.length,.pointer (some ⟨b3,0,none⟩)]) (by kernel_rfl) (by simp) (c81 H1 ms hn) ?_
 rintro _ w' ⟨rfl,a',n',c',r',hn',H⟩
 exact ⟨rfl,h a' n' c' r' w' hn' (H.sub (List.Sublist.refl _) (fun r h=>mt h))⟩
theorem nn0 {a:Nat}:some a≠none:=Option.some_ne_none _
theorem nKg {F:Fr} {w w0:World} {b3:Nat} {T3:TypeId} {a:Option Addr} {n c k:Nat} {r:Option Nat} {B:List Int} {ex:List Ex} {ro:List Ro} (H:Sat F w (KS b3 T3 a n c r B ex) ro) (g:w0.grownBy w none) (L:List Int) (hk:L.length=k) (hn:n+8*k<=90000000) (hk2:k<=100) {K:Value->World->Prop}
  (h:∀a' n' c' r' w',n'=n+8*k->Sat F w' (KS b3 T3 a' n' c' r' (B++kn L) ex) ro->K (.tuple #[]) w') :
  gNew (L.map (Value.int .u64)).toArray 52 (fun p w'=>w0.grownBy w' none/\fnVc pg 81 (#[]++#[.slice (some p) k k]++#[.pointer (some ⟨b3,0,none⟩)]) 0 K w') w:=by
 subst hk
 refine sNew H ?_
 clear H;intro bp w g2 H
 refine ⟨gtr g g2,?_⟩
 have hd:∀G:Nat->Prop,DeepL w G (oi .u64 L) (L.map (Value.int .u64)):=fun G=>by
  have e:oi .u64 L=(L.map (Value.int .u64)).map .one:=by simp [oi]
  rw [e]
  exact DeepL.ones _
 have H1:=H.blkRow 1 L.length (oi .u64 L) (by simp) (by unfold maxLen;omega) (fun G h=>by simpa using hd G)
 clear H
 refine fn_u (args':=#[.slice (some ⟨bp,0,none⟩) L.length L.length,.pointer (some ⟨b3,0,none⟩)]) (by kernel_rfl) (by simp) (c81 H1 ms hn) ?_
 rintro _ w' ⟨rfl,a',n',c',r',hn',H⟩
 exact ⟨rfl,h a' n' c' r' w' hn' (H.sub (List.Sublist.refl _) (fun r h=>mt h))⟩
theorem c82 {F:Fr} {w:World} {b3 b5:Nat} {T3 T5:TypeId} {a:Option Addr} {n c:Nat} {r:Option Nat} {B:List Int} {ex:List Ex} {ro:List Ro} (H:Sat F w (KS b3 T3 a n c r B (.blk b5 T5 [.func (.func 81) #[] #[.pointer (some ⟨b3,0,none⟩)]]::ex)) ro) (s:ByteArray) (hn:n+8+s.size<=90000000) :
  Calls pg 82 #[.string s,.pointer (some ⟨b5,0,none⟩),.pointer (some ⟨b3,0,none⟩)] w fun en w'=>en=.returned (.tuple #[])/\∃a' n' c' r',n'=n+8+s.size/\Sat F w' (KS b3 T3 a' n' c' r' (B++kt s) (.blk b5 T5 [.func (.func 81) #[] #[.pointer (some ⟨b3,0,none⟩)]]::ex)) ro:=by
 apply of82
 refine ⟨_,_,_,(by exact Ce (by rfl) H.b2 rfl),?_⟩
 refine ⟨rfl,?_⟩
 refine nK (k:=1) H [un s.size] rfl (by omega) (by decide) ?_
 clear H;intro a n2 c r w hn2 H
 refine ⟨_,_,_,(by exact Ce (by rfl) H.b1 rfl),?_⟩
 refine sAppS H s (by omega) (by omega) ?_
 clear H;intro a3 c3 r3 w H
 refine sSt1 H (by rfl) (by kernel_rfl) (by rfl) (by rfl) ?_;clear H;intro w _ H
 refine ⟨rfl,a3,n2+s.size,c3,r3,by omega,?_⟩
 unfold kt
 rw [<-List.append_assoc]
 exact H
theorem c83 {w:World} {x:Bool}:Calls pg 83 #[.bool x] w fun en w'=>en=.returned (.int .u64 (ub x))/\w'=w:=by
 apply of83
 cases x
 ·exact ⟨fun h=>absurd h (by decide),fun _=>⟨rfl,rfl⟩⟩
 ·exact ⟨fun _=>⟨rfl,rfl⟩,fun h=>absurd h (by decide)⟩
theorem kb_le (p:Pk):(kb1 p).length<=(keyB p).length/\(kb2 p).length<=(keyB p).length/\(kb3 p).length<=(keyB p).length/\(kb4 p).length<=(keyB p).length/\(kb5 p).length<=(keyB p).length/\(kb6 p).length<=(keyB p).length/\(kb7 p).length<=(keyB p).length/\(kb8 p).length<=(keyB p).length:=by
 have h8:(kb8 p).length<=(keyB p).length:=by unfold keyB;simp only [List.length_append];omega
 have h7:(kb7 p).length<=(kb8 p).length:=by unfold kb8;simp only [List.length_append];omega
 have h6:(kb6 p).length<=(kb7 p).length:=by unfold kb7;simp only [List.length_append];omega
 have h5:(kb5 p).length<=(kb6 p).length:=by unfold kb6;simp only [List.length_append];omega
 have h4:(kb4 p).length<=(kb5 p).length:=by unfold kb5;simp only [List.length_append];omega
 have h3:(kb3 p).length<=(kb4 p).length:=by unfold kb4;simp only [List.length_append];omega
 have h2:(kb2 p).length<=(kb3 p).length:=by unfold kb3;simp only [List.length_append];omega
 have h1:(kb1 p).length<=(kb2 p).length:=by unfold kb2;simp only [List.length_append];omega
 omega
theorem ssz_mem:∀(l:List Sta) (B:Sta),B∈l->B.2.2.2.2.length<=ssz l
 | c::r,B,h=>by
  simp only [ssz]
  rcases List.mem_cons.1 h with rfl | h
  ·omega
  ·have:=ssz_mem r B h;omega
theorem fl1 {α:Type} {f:α->List Int} {L:List α} {j:Nat} {D:α} (h:L.take (j+1)=L.take j++[D]) (B:List Int):B++(L.take (j+1)).flatMap f=(B++(L.take j).flatMap f)++f D:=by
 rw [h,List.flatMap_append,List.append_assoc]
 simp only [fm1,fm2,fm3]
def KePost (F:Fr) (ex:List Ex) (ro:List Ro) (p:Pk) (en:Ending) (w':World):Prop:=en=.returned (.string (strOfNums (keyB p)))/\Sat F w' ex ro
end Go.Proofs.YtkdialecadjedaaGreatDoor
