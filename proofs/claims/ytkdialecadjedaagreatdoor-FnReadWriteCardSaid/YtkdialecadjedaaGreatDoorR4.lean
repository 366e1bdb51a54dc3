/- A part of a proof, joined by a program out of smaller texts (conditions: those that each theorem names). -/
import Derived.Test.YtkdialecadjedaaGreatDoorR3
namespace Go.Proofs.YtkdialecadjedaaGreatDoor
set_option linter.unusedVariables false
set_option linter.unusedSimpArgs false
set_option linter.unusedSectionVars false
set_option maxRecDepth 100000
set_option maxHeartbeats 8000000
open Go
def UmPost (F:Fr) (ex:List Ex) (ro:List Ro) (xs:List Int) (en:Ending) (w':World):Prop:=
 ((hdrOk xs=false\/(xs.length:Int) < 4*(hL xs+1))/\∃e,en=.returned (.tuple #[.nilIface,.int .i64 0,e])/\isIf e/\isNilI e=false/\Sat F w' ex ro) \/
 (hdrOk xs=true/\4*(hL xs+1)<=(xs.length:Int)/\∃T v e ro',en=.returned (.tuple #[.iface T v,.int .i64 (4*(hL xs+1)),e])/\isIf e/\(∀r∈ro,r∈ro')/\Sat F w' ex ro' /\
  ∀p,go (xs.take (4*(hL xs+1)).toNat)=some p->e=.nilIface/\Ro.deep [pkI p] [.iface T v]∈ro')
theorem head_take {xs:List Int} {S:Nat} (h:4<=S):hdrOk (xs.take S)=(hdrOk xs)/\hL (xs.take S)=hL xs/\hT (xs.take S)=hT xs/\hC (xs.take S)=hC xs:=by
 have h0:(xs.take S).getD 0 0=xs.getD 0 0:=getD_take (by omega)
 have h1:(xs.take S).getD 1 0=xs.getD 1 0:=getD_take (by omega)
 have h2:(xs.take S).getD 2 0=xs.getD 2 0:=getD_take (by omega)
 have h3:(xs.take S).getD 3 0=xs.getD 3 0:=getD_take (by omega)
 refine ⟨?_,?_,h1,?_⟩
 ·unfold hdrOk
  rw [h0]
  have:decide (4<=(xs.take S).length)=decide (4<=xs.length):=by rw [List.length_take];congr 1;apply propext;omega
  rw [this]
 ·unfold hL n16
  rw [getD_drop,getD_drop,getD_drop,getD_drop]
  exact congr (congrArg _ (congrArg (·*256) h2)) h3
 ·unfold hC;rw [h0]
theorem uFin {F:Fr} {w:World} {ex exs:List Ex} {ro ro':List Ro} {xs:List Int} {b:Nat} {T TT:TypeId} {cells:List Value} {e:Value} (H:Sat F w (.blk b T cells::exs) ro') (hs:ex.Sublist exs) (hok:hdrOk xs=true) (hS:4*(hL xs+1)<=(xs.length:Int)) (he:isIf e) (hr:∀r∈ro,r∈ro')
  (hg:∀p,gd (xs.take (4*(hL xs+1)).toNat)=some p->e=.nilIface/\Ro.deep (rtcpD p) cells∈ro') (hgo:go (xs.take (4*(hL xs+1)).toNat)=gd (xs.take (4*(hL xs+1)).toNat)) (hT:∀p,gd (xs.take (4*(hL xs+1)).toNat)=some p->tyK p.kind=TT) :
  UmPost F ex ro xs (.returned (.tuple #[.iface TT (.pointer (some ⟨b,0,none⟩)),.int .i64 (4*(hL xs+1)),e])) w:=by
 refine .inr ⟨hok,hS,?_⟩
 cases hq:gd (xs.take (4*(hL xs+1)).toNat) with
 | none=>exact ⟨TT,_,e,ro',rfl,he,hr,H.sub (hs.trans (List.sublist_cons_self _ _)) (fun _ h=>h),fun p hp=>by rw [hgo,hq] at hp;cases hp⟩
 | some p=>
  obtain ⟨h1,h2⟩:=hg p hq
  have H1:=H.blkPtr (rtcpD p) (fun G h=>h _ h2)
  have H2:=H1.addD (ds:=[pkI p]) (vs:=[.iface TT (.pointer (some ⟨b,0,none⟩))]) (fun G h=>by unfold pkI;rw [hT p hq];exact dc (.ifc _ _ _ (h (.deep [_] [_]) ms).head) dn)
  refine ⟨TT,_,e,_,rfl,he,fun r h=>mt (mt (hr r h)),H2.sub hs (fun _ h=>h),fun p' hp=>?_⟩
  rw [hgo,hq] at hp
  cases hp
  exact ⟨h1,ms⟩
theorem uRaw {F:Fr} {w:World} {ex exs:List Ex} {ro ro':List Ro} {xs:List Int} {b:Nat} {T:TypeId} {a:Option Addr} {n c:Nat} {t k:Int} (H:Sat F w (.blk b T [.slice a n c]::exs) ro') (hs:ex.Sublist exs) (hok:hdrOk xs=true) (hS:4*(hL xs+1)<=(xs.length:Int)) (hr:∀r∈ro,r∈ro')
  (hB:Ro.B (xs.take (4*(hL xs+1)).toNat) a n c∈ro') (hd:Hd (xs.take (4*(hL xs+1)).toNat) t k) (hk:kindOf t k=0) :
  UmPost F ex ro xs (.returned (.tuple #[.iface 242 (.pointer (some ⟨b,0,none⟩)),.int .i64 (4*(hL xs+1)),.nilIface])) w:=by
 refine .inr ⟨hok,hS,?_⟩
 have hg:=go_raw hd hk
 have H1:=H.blkPtr [.row 1 (ob (xs.take (4*(hL xs+1)).toNat))] (fun G h=>h _ hB)
 have H2:=H1.addD (ds:=[pkI { data:=xs.take (4*(hL xs+1)).toNat }]) (vs:=[.iface 242 (.pointer (some ⟨b,0,none⟩))]) (fun G h=>dc (.ifc _ _ _ (h (.deep [_] [_]) ms).head) dn)
 refine ⟨_,_,.nilIface,_,rfl,trivial,fun r h=>mt (mt (hr r h)),H2.sub hs (fun _ h=>h),fun p hp=>?_⟩
 rw [hg] at hp
 split at hp
 ·cases hp
 ·cases hp
  exact ⟨rfl,ms⟩
theorem c79 {F:Fr} {w:World} {ex:List Ex} {ro:List Ro} {xs:List Int} {a:Option Addr} {n c:Nat} (H:Sat F w ex ro)
  (hx:Ro.B xs a n c∈ro) (hb:By xs) (hE:ErrC (go (xs.take (4*(hL xs+1)).toNat)=none) ro) (hn:n<=1000000) (h13:kindOf (hT xs) (hC xs)≠13):Calls pg 79 #[.slice a n c] w (UmPost F ex ro xs):=by
 apply of79
 have hlen:=H.lenB hx
 have hnc:n<=c:=(H.deep1 hx).len.2.1
 refine sNew H ?_;clear H;intro b1 w _ H
 by_cases hok:hdrOk xs=false
 ·refine call_j (hdr_bad H hx hb hE hok) ?_
  clear H
  rintro _ w ⟨e,rfl,h1,h2,H⟩
  refine ⟨_,rfl,h1,fun _=>?_,fun h=>by rw [h2] at h;cases h⟩
  exact .inl ⟨.inl hok,e,rfl,h1,h2,H.d1⟩
 have hok:hdrOk xs=true:=by simpa using hok
 have hLr:0<=hL xs/\hL xs < 65536:=by unfold hL;exact n16_lt (hb.drop 2)
 refine call_j (c55 H hx hb hok) ?_
 clear H
 rintro _ w ⟨rfl,H⟩
 refine ⟨_,rfl,by simp [isIf],fun h=>absurd h (by decide),fun _=>?_⟩
 refine ⟨_,(H.b0.at0 rfl),?_⟩
 rw [wi64_of (n:=hL xs) (by omega) (by omega),wi64_of (n:=hL xs+1) (by omega) (by omega),wi64_of (n:=(hL xs+1)*4) (by omega) (by omega),Int.mul_comm (hL xs+1) 4]
 refine ⟨fun h=>?_,fun h=>?_⟩
 ·rw [decide_eq_true_eq] at h
  replace H:=H.drew;generalize w.drew=w at H ⊢
  obtain ⟨v,h1,h2,h3⟩:=hE.laid 1 (by decide)
  exact ⟨v,H.cell h1 rfl,.inl ⟨.inr (by omega),v,rfl,h2,h3 (by decide),H.d1⟩⟩
 rw [decide_eq_false_iff_not] at h
 have hS:4*(hL xs+1)<=(xs.length:Int):=by omega
 obtain ⟨S,hSd⟩:∃S,S=(4*(hL xs+1)).toNat:=⟨_,rfl⟩
 have hS4:4<=S:=by omega
 obtain ⟨h1,h2,h3,h4⟩:=head_take (xs:=xs) hS4
 have hyl:(xs.take S).length=S:=by rw [List.length_take];omega
 have hd0:Hd (xs.take S) (hT (xs.take S)) (hC (xs.take S)):=⟨by rw [h1];exact hok,by rw [h2,hyl];omega,rfl,rfl⟩
 have hby:By (xs.take S):=hb.take S
 have hn2:S<=1000000:=by omega
 refine ⟨by omega,by omega,?_⟩
 refine ⟨_,(H.b0.at0 rfl),?_⟩
 rw [<-hSd]
 have H1:Sat F w _ (Ro.B (xs.take S) (cutA a 0 c 1) S c::ro):=H.cutB hx 0 S (Nat.zero_le _) (by omega)
 replace H:=H1
 clear H1
 have hE2:ErrC (go (xs.take S)=none) (Ro.B (xs.take S) (cutA a 0 c 1) S c::ro):=by rw [hSd];exact hE.mono (fun r h=>mt h)
 subst hSd
 refine ⟨fun hc=>?_,fun hc=>?_⟩
 ·have ht:hT xs=200:=by simpa using hc
  have hd:Hd (xs.take (4*(hL xs+1)).toNat) 200 (hC (xs.take (4*(hL xs+1)).toNat)):=⟨hd0.ok,hd0.len,by rw [h3];exact ht,rfl⟩
  refine sNew H ?_;clear H;intro bk w _ H
  refine inv_ptr (f:=143) (e:=194) (by kernel_rfl) (by rfl) (by kernel_rfl) (call_j (c143 H ms hby (hE2.imp (fun h=>(go_gd hd (by unfold kindOf;simp)).trans h)) hd hn2) ?_)
  clear H
  rintro _ w ⟨e,cells,ro',rfl,he1,hr',hcl,H,hg⟩
  refine ⟨_,rfl,?_⟩
  exact uFin H (List.sublist_cons_self _ _) hok hS he1 (fun r h=>hr' r (mt h)) hg (go_gd hd (by unfold kindOf;simp)) (fun p hp=>by rw [gd_kind hd (by unfold kindOf;simp) hp];rfl)
 ·have n200:¬hT xs=200:=by simpa using hc
  refine ⟨fun hc=>?_,fun hc=>?_⟩
  ·have ht:hT xs=201:=by simpa using hc
   have hd:Hd (xs.take (4*(hL xs+1)).toNat) 201 (hC (xs.take (4*(hL xs+1)).toNat)):=⟨hd0.ok,hd0.len,by rw [h3];exact ht,rfl⟩
   refine sNew H ?_;clear H;intro bk w _ H
   refine inv_ptr (f:=156) (e:=197) (by kernel_rfl) (by rfl) (by kernel_rfl) (call_j (c156 H ms hby (hE2.imp (fun h=>(go_gd hd (by unfold kindOf;simp)).trans h)) hd hn2) ?_)
   clear H
   rintro _ w ⟨e,cells,ro',rfl,he1,hr',hcl,H,hg⟩
   refine ⟨_,rfl,?_⟩
   exact uFin H (List.sublist_cons_self _ _) hok hS he1 (fun r h=>hr' r (mt h)) hg (go_gd hd (by unfold kindOf;simp)) (fun p hp=>by rw [gd_kind hd (by unfold kindOf;simp) hp];rfl)
  ·have n201:¬hT xs=201:=by simpa using hc
   refine ⟨fun hc=>?_,fun hc=>?_⟩
   ·have ht:hT xs=202:=by simpa using hc
    have hd:Hd (xs.take (4*(hL xs+1)).toNat) 202 (hC (xs.take (4*(hL xs+1)).toNat)):=⟨hd0.ok,hd0.len,by rw [h3];exact ht,rfl⟩
    refine sNew H ?_;clear H;intro bk w _ H
    refine inv_ptr (f:=161) (e:=252) (by kernel_rfl) (by rfl) (by kernel_rfl) (call_j (c161 H ms hby (hE2.imp (fun h=>(go_gd hd (by unfold kindOf;simp)).trans h)) hd hn2) ?_)
    clear H
    rintro _ w ⟨e,cells,ro',rfl,he1,hr',hcl,H,hg⟩
    refine ⟨_,rfl,?_⟩
    exact uFin H (List.sublist_cons_self _ _) hok hS he1 (fun r h=>hr' r (mt h)) hg (go_gd hd (by unfold kindOf;simp)) (fun p hp=>by rw [gd_kind hd (by unfold kindOf;simp) hp];rfl)
   ·have n202:¬hT xs=202:=by simpa using hc
    refine ⟨fun hc=>?_,fun hc=>?_⟩
    ·have ht:hT xs=203:=by simpa using hc
     have hd:Hd (xs.take (4*(hL xs+1)).toNat) 203 (hC (xs.take (4*(hL xs+1)).toNat)):=⟨hd0.ok,hd0.len,by rw [h3];exact ht,rfl⟩
     refine sNew H ?_;clear H;intro bk w _ H
     refine inv_ptr (f:=172) (e:=203) (by kernel_rfl) (by rfl) (by kernel_rfl) (call_j (c172 H ms hby (hE2.imp (fun h=>(go_gd hd (by unfold kindOf;simp)).trans h)) hd hn2) ?_)
     clear H
     rintro _ w ⟨e,cells,ro',rfl,he1,hr',hcl,H,hg⟩
     refine ⟨_,rfl,?_⟩
     exact uFin H (List.sublist_cons_self _ _) hok hS he1 (fun r h=>hr' r (mt h)) hg (go_gd hd (by unfold kindOf;simp)) (fun p hp=>by rw [gd_kind hd (by unfold kindOf;simp) hp];rfl)
    ·have n203:¬hT xs=203:=by simpa using hc
     refine ⟨fun hc=>?_,fun hc=>?_⟩
     ·have ht:hT xs=205:=by simpa using hc
      refine ⟨_,(H.b0.at0 rfl),?_⟩
      refine ⟨fun hc=>?_,fun hc=>?_⟩
      ·have hct:hC xs=1:=by simpa using hc
       have hd:Hd (xs.take (4*(hL xs+1)).toNat) 205 1:=⟨hd0.ok,hd0.len,by rw [h3];exact ht,by rw [h4];exact hct⟩
       refine sNew H ?_;clear H;intro bk w _ H
       refine inv_ptr (f:=181) (e:=210) (by kernel_rfl) (by rfl) (by kernel_rfl) (call_j (c181 H ms hby (hE2.imp (fun h=>(go_gd hd (by decide)).trans h)) hd hn2) ?_)
       clear H
       rintro _ w ⟨e,cells,ro',rfl,he1,hr',hcl,H,hg⟩
       refine ⟨_,rfl,?_⟩
       exact uFin H (List.sublist_cons_self _ _) hok hS he1 (fun r h=>hr' r (mt h)) hg (go_gd hd (by decide)) (fun p hp=>by rw [gd_kind hd (by decide) hp];rfl)
      ·have m1:¬hC xs=1:=by simpa using hc
       refine ⟨fun hc=>?_,fun hc=>?_⟩
       ·have hct:hC xs=5:=by simpa using hc
        have hd:Hd (xs.take (4*(hL xs+1)).toNat) 205 5:=⟨hd0.ok,hd0.len,by rw [h3];exact ht,by rw [h4];exact hct⟩
        refine sNew H ?_;clear H;intro bk w _ H
        refine inv_ptr (f:=186) (e:=216) (by kernel_rfl) (by rfl) (by kernel_rfl) (call_j (c186 H ms hby (hE2.imp (fun h=>(go_gd hd (by decide)).trans h)) hd) ?_)
        clear H
        rintro _ w ⟨e,cells,ro',rfl,he1,hr',hcl,H,hg⟩
        refine ⟨_,rfl,?_⟩
        exact uFin H (List.sublist_cons_self _ _) hok hS he1 (fun r h=>hr' r (mt h)) hg (go_gd hd (by decide)) (fun p hp=>by rw [gd_kind hd (by decide) hp];rfl)
       ·have m5:¬hC xs=5:=by simpa using hc
        refine ⟨fun hc=>?_,fun hc=>?_⟩
        ·have hct:hC xs=15:=by simpa using hc
         exact absurd (by rw [ht,hct];rfl) h13
        ·have m15:¬hC xs=15:=by simpa using hc
         refine ⟨fun hc=>?_,fun hc=>?_⟩
         ·have hct:hC xs=11:=by simpa using hc
          have hd:Hd (xs.take (4*(hL xs+1)).toNat) 205 11:=⟨hd0.ok,hd0.len,by rw [h3];exact ht,by rw [h4];exact hct⟩
          refine sNew H ?_;clear H;intro bk w _ H
          refine inv_ptr (f:=192) (e:=221) (by kernel_rfl) (by rfl) (by kernel_rfl) (call_j (c192 H ms hby (hE2.imp (fun h=>(go_gd hd (by decide)).trans h)) hd hn2) ?_)
          clear H
          rintro _ w ⟨e,cells,ro',rfl,he1,hr',hcl,H,hg⟩
          refine ⟨_,rfl,?_⟩
          exact uFin H (List.sublist_cons_self _ _) hok hS he1 (fun r h=>hr' r (mt h)) hg (go_gd hd (by decide)) (fun p hp=>by rw [gd_kind hd (by decide) hp];rfl)
         ·have m11:¬hC xs=11:=by simpa using hc
          refine sNew H ?_;clear H;intro bk w _ H
          refine inv_ptr (f:=248) (e:=129) (by kernel_rfl) (by rfl) (by kernel_rfl) (call_j (c248 H ms hby hd0.ok) ?_)
          clear H
          rintro _ w ⟨rfl,H⟩
          refine ⟨_,rfl,?_⟩
          exact uRaw H (List.sublist_cons_self _ _) hok hS (fun r h=>mt h) ms hd0 (by rw [h3,h4,ht];unfold kindOf;simp [m1,m5,m15,m11])
     ·have n205:¬hT xs=205:=by simpa using hc
      refine ⟨fun hc=>?_,fun hc=>?_⟩
      ·have ht:hT xs=206:=by simpa using hc
       refine ⟨_,(H.b0.at0 rfl),?_⟩
       refine ⟨fun hc=>?_,fun hc=>?_⟩
       ·have hct:hC xs=1:=by simpa using hc
        have hd:Hd (xs.take (4*(hL xs+1)).toNat) 206 1:=⟨hd0.ok,hd0.len,by rw [h3];exact ht,by rw [h4];exact hct⟩
        refine sNew H ?_;clear H;intro bk w _ H
        refine inv_ptr (f:=203) (e:=223) (by kernel_rfl) (by rfl) (by kernel_rfl) (call_j (c203 H ms hby (hE2.imp (fun h=>(go_gd hd (by decide)).trans h)) hd) ?_)
        clear H
        rintro _ w ⟨e,cells,ro',rfl,he1,hr',hcl,H,hg⟩
        refine ⟨_,rfl,?_⟩
        exact uFin H (List.sublist_cons_self _ _) hok hS he1 (fun r h=>hr' r (mt h)) hg (go_gd hd (by decide)) (fun p hp=>by rw [gd_kind hd (by decide) hp];rfl)
       ·have m1:¬hC xs=1:=by simpa using hc
        refine ⟨fun hc=>?_,fun hc=>?_⟩
        ·have hct:hC xs=2:=by simpa using hc
         have hd:Hd (xs.take (4*(hL xs+1)).toNat) 206 2:=⟨hd0.ok,hd0.len,by rw [h3];exact ht,by rw [h4];exact hct⟩
         refine sNew H ?_;clear H;intro bk w _ H
         refine inv_ptr (f:=207) (e:=227) (by kernel_rfl) (by rfl) (by kernel_rfl) (call_j (c207 H ms hby (hE2.imp (fun h=>(go_gd hd (by decide)).trans h)) hd hn2) ?_)
         clear H
         rintro _ w ⟨e,cells,ro',rfl,he1,hr',hcl,H,hg⟩
         refine ⟨_,rfl,?_⟩
         exact uFin H (List.sublist_cons_self _ _) hok hS he1 (fun r h=>hr' r (mt h)) hg (go_gd hd (by decide)) (fun p hp=>by rw [gd_kind hd (by decide) hp];rfl)
        ·have m2:¬hC xs=2:=by simpa using hc
         refine ⟨fun hc=>?_,fun hc=>?_⟩
         ·have hct:hC xs=15:=by simpa using hc
          have hd:Hd (xs.take (4*(hL xs+1)).toNat) 206 15:=⟨hd0.ok,hd0.len,by rw [h3];exact ht,by rw [h4];exact hct⟩
          refine sNew H ?_;clear H;intro bk w _ H
          refine inv_ptr (f:=217) (e:=239) (by kernel_rfl) (by rfl) (by kernel_rfl) (call_j (c217 H ms hby (hE2.imp (fun h=>(go_gd hd (by decide)).trans h)) hd hn2) ?_)
          clear H
          rintro _ w ⟨e,cells,ro',rfl,he1,hr',hcl,H,hg⟩
          refine ⟨_,rfl,?_⟩
          exact uFin H (List.sublist_cons_self _ _) hok hS he1 (fun r h=>hr' r (mt h)) hg (go_gd hd (by decide)) (fun p hp=>by rw [gd_kind hd (by decide) hp];rfl)
         ·have m15:¬hC xs=15:=by simpa using hc
          refine ⟨fun hc=>?_,fun hc=>?_⟩
          ·have hct:hC xs=4:=by simpa using hc
           have hd:Hd (xs.take (4*(hL xs+1)).toNat) 206 4:=⟨hd0.ok,hd0.len,by rw [h3];exact ht,by rw [h4];exact hct⟩
           refine sNew H ?_;clear H;intro bk w _ H
           refine inv_ptr (f:=212) (e:=232) (by kernel_rfl) (by rfl) (by kernel_rfl) (call_j (c212 H ms hby (hE2.imp (fun h=>(go_gd hd (by decide)).trans h)) hd hn2) ?_)
           clear H
           rintro _ w ⟨e,cells,ro',rfl,he1,hr',hcl,H,hg⟩
           refine ⟨_,rfl,?_⟩
           exact uFin H (List.sublist_cons_self _ _) hok hS he1 (fun r h=>hr' r (mt h)) hg (go_gd hd (by decide)) (fun p hp=>by rw [gd_kind hd (by decide) hp];rfl)
          ·have m4:¬hC xs=4:=by simpa using hc
           refine sNew H ?_;clear H;intro bk w _ H
           refine inv_ptr (f:=248) (e:=129) (by kernel_rfl) (by rfl) (by kernel_rfl) (call_j (c248 H ms hby hd0.ok) ?_)
           clear H
           rintro _ w ⟨rfl,H⟩
           refine ⟨_,rfl,?_⟩
           exact uRaw H (List.sublist_cons_self _ _) hok hS (fun r h=>mt h) ms hd0 (by rw [h3,h4,ht];unfold kindOf;simp [m1,m2,m15,m4])
      ·have n206:¬hT xs=206:=by simpa using hc
       refine ⟨fun hc=>?_,fun hc=>?_⟩
       ·have ht:hT xs=204:=by simpa using hc
        have hd:Hd (xs.take (4*(hL xs+1)).toNat) 204 (hC (xs.take (4*(hL xs+1)).toNat)):=⟨hd0.ok,hd0.len,by rw [h3];exact ht,rfl⟩
        refine sNew H ?_;clear H;intro bk w _ H
        refine inv_ptr (f:=177) (e:=206) (by kernel_rfl) (by rfl) (by kernel_rfl) (call_j (c177 H ms hby (hE2.imp (fun h=>(go_gd hd (by unfold kindOf;simp)).trans h)) hd hn2) ?_)
        clear H
        rintro _ w ⟨e,cells,ro',rfl,he1,hr',hcl,H,hg⟩
        refine ⟨_,rfl,?_⟩
        exact uFin H (List.sublist_cons_self _ _) hok hS he1 (fun r h=>hr' r (mt h)) hg (go_gd hd (by unfold kindOf;simp)) (fun p hp=>by rw [gd_kind hd (by unfold kindOf;simp) hp];rfl)
       ·have n204:¬hT xs=204:=by simpa using hc
        refine sNew H ?_;clear H;intro bk w _ H
        refine inv_ptr (f:=248) (e:=129) (by kernel_rfl) (by rfl) (by kernel_rfl) (call_j (c248 H ms hby hd0.ok) ?_)
        clear H
        rintro _ w ⟨rfl,H⟩
        refine ⟨_,rfl,?_⟩
        exact uRaw H (List.sublist_cons_self _ _) hok hS (fun r h=>mt h) ms hd0 (by rw [h3];unfold kindOf;simp [n200,n201,n202,n203,n204,n205,n206])
def hN (xs:List Int):Nat:=(4*(hL xs+1)).toNat
def hFit (xs:List Int):Prop:=hdrOk xs=true/\4*(hL xs+1)<=(xs.length:Int)
instance (xs:List Int):Decidable (hFit xs):=by unfold hFit;infer_instance
def okSplit:Nat->List Int->Bool
 | 0,xs=>xs.isEmpty
 | f+1,xs=>if xs=[] then true else if hFit xs then okSplit f (xs.drop (hN xs)) else false
def gl:Nat->List Int->Option (List Pk)
 | 0,xs=>if xs=[] then some [] else none
 | f+1,xs=>if xs=[] then some [] else if hFit xs then
   match go (xs.take (hN xs)) with
   | some p=>(gl f (xs.drop (hN xs))).map (p::·)
   | none=>none
  else none
def UmsPost (F:Fr) (ex:List Ex) (ro:List Ro) (L:List Pk) (en:Ending) (w':World):Prop:=
 ∃o oc ro',en=.returned (.tuple #[.slice o L.length oc,.nilIface])/\(∀r∈ro,r∈ro')/\Sat F w' ex ro'/\Ro.deep [.row 1 (L.map pkI)] [.slice o L.length oc]∈ro'
theorem gl_cons {f:Nat} {ys:List Int} {L:List Pk} (h:gl (f+1) ys=some L) (hne:ys≠[]):hFit ys/\∃p L2,go (ys.take (hN ys))=some p/\gl f (ys.drop (hN ys))=some L2/\L=p::L2:=by
 unfold gl at h
 rw [if_neg hne] at h
 by_cases hf:hFit ys
 ·rw [if_pos hf] at h
  cases hq:go (ys.take (hN ys)) with
  | none=>rw [hq] at h;cases h
  | some p=>
   rw [hq] at h
   simp only at h
   cases hq2:gl f (ys.drop (hN ys)) with
   | none=>rw [hq2] at h;cases h
   | some L3=>
    rw [hq2] at h
    cases h
    exact ⟨hf,p,L3,rfl,rfl,rfl⟩
 ·rw [if_neg hf] at h;cases h
theorem gl_nil {f:Nat} {L:List Pk} (h:gl f []=some L):L=[]:=by cases f<;>simp [gl] at h<;>exact h.symm▸rfl
theorem go_kind {xs:List Int} {p:Pk} (hb:By xs) (hf:hFit xs) (h:go (xs.take (hN xs))=some p) (hk:p.kind≠13):kindOf (hT xs) (hC xs)≠13:=by
 intro h13
 obtain ⟨hok,hS⟩:=hf
 have hl0:0<=hL xs:=by unfold hL;exact (n16_lt (hb.drop 2)).1
 obtain ⟨h1,h2,h3,h4⟩:=head_take (xs:=xs) (S:=hN xs) (by unfold hN;omega)
 have hyl:(xs.take (hN xs)).length=hN xs:=by rw [List.length_take];unfold hN;omega
 have hd:Hd (xs.take (hN xs)) (hT xs) (hC xs):=⟨by rw [h1];exact hok,by rw [h2,hyl];unfold hN;omega,h3,h4⟩
 rw [go_gd hd (by rw [h13];decide)] at h
 have:=gd_kind hd (by rw [h13];decide) h
 omega
theorem c36 {F:Fr} {w:World} {ex:List Ex} {ro:List Ro} {xs:List Int} {a:Option Addr} {n c:Nat} {L:List Pk} (H:Sat F w ex ro)
  (hx:Ro.B xs a n c∈ro) (hb:By xs) (hE:ErrC False ro) (hn:n<=1000000) (hgl:gl xs.length xs=some L) (hL0:L≠[]) (h13:∀p∈L,p.kind≠13):Calls pg 36 #[.slice a n c] w (UmsPost F ex ro L):=by
 apply of36
 have hlen:=H.lenB hx
 refine ⟨fun a' l' c' oa ol oc m w=>∃(ys:List Int) (f:Nat) (A L2:List Pk) (r:Option Nat),l'=m/\ys.length=l'/\l'<=f/\l'+ol<=n/\By ys/\gl f ys=some L2/\L=A++L2/\ol=A.length/\Sat F w (.own 123 1 oa ol oc r (A.map pkI)::ex) (Ro.B ys a' l' c'::ro),
  ⟨n,xs,n,[],L,none,rfl,hlen,Nat.le_refl _,by omega,hb,by rw [<-hlen];exact hgl,rfl,rfl,(H.nilOwn 123 1).sub (List.Sublist.refl _) (fun r hr=>by rcases List.mem_cons.1 hr with rfl | h;exact hx;exact h)⟩,?_⟩
 clear H;rintro dd2 a' l' c' oa ol oc m w ⟨ys,f,A,L2,r,rfl,hyl,hlf,hol,hby,hg,hLA,rfl,H⟩
 refine ⟨fun hc=>?_,fun hc=>?_⟩
 ·have hl0:l'≠0:=by simpa using hc
  have hne:ys≠[]:=by rintro rfl;exact hl0 hyl.symm
  cases f with
  | zero=>omega
  | succ f=>
  obtain ⟨hfit,p,L3,h1,h2,rfl⟩:=gl_cons hg hne
  have hk:=go_kind hby hfit h1 (h13 p (by rw [hLA];simp))
  have hNe:(4*(hL ys+1)).toNat=hN ys:=rfl
  refine call_j (c79 H ms hby ((hE.mono (fun r h=>mt h)).imp (fun h=>by rw [hNe,h1] at h;cases h)) (by omega) hk) ?_
  rintro en w2 (⟨hbad,_⟩ | ⟨ho,hS,T,v,e,ro',rfl,he1,hr',H2,hp⟩)
  ·exfalso
   rcases hbad with h | h
   ·rw [hfit.1] at h;cases h
   ·have:=hfit.2;omega
  clear H
  have hLr:0<=hL ys/\hL ys < 65536:=by unfold hL;exact n16_lt (hby.drop 2)
  obtain ⟨rfl,hm⟩:=hp p h1
  refine ⟨_,_,_,rfl,he1,fun he=>absurd he (by decide),fun _=>?_⟩
  refine ⟨rfl,?_⟩
  refine sPush0 H2 (bytes:=16) (by kernel_rfl) [pkI p] (by rfl) (fun G h=>dc (h (.deep [_] [_]) hm).head dn) (by rfl) (by unfold maxLen;omega) (by omega) ?_
  clear H2;intro o2 ol2 oc2 r2 w ex2 _ H
  subst ex2
  have hN4:4<=hN ys/\hN ys<=l':=by unfold hN;omega
  refine ⟨by omega,by omega,?_⟩
  rw [hNe]
  have H3:=H.skipB (hr' _ ms) (hN ys) (by omega)
  refine ⟨l' - hN ys,by omega,ys.drop (hN ys),f,A++[p],L3,r2,rfl,by rw [List.length_drop,hyl],by omega,by omega,hby.drop _,h2,by rw [hLA,List.append_assoc];rfl,by simp,?_⟩
  rw [List.map_append]
  exact H3.sub (List.Sublist.refl _) (fun r h=>by rcases List.mem_cons.1 h with rfl | h;exact ms;exact mt (hr' _ (mt h)))
 ·have hl0:l'=0:=by simpa using hc
  subst hl0
  obtain rfl:ys=[]:=List.eq_nil_of_length_eq_zero hyl
  obtain rfl:=gl_nil hg
  rw [List.append_nil] at hLA
  subst hLA
  refine ⟨fun h0=>?_,fun h0=>?_⟩
  ·have ho0:L.length=0:=by simpa using h0
   exact absurd (List.eq_nil_of_length_eq_zero ho0) hL0
  ·replace H:=H.freeze
   exact ⟨oa,oc,_,rfl,fun r h=>mt (mt h),H,ms⟩
theorem own_block {w:World} {base:Nat} {e:TypeId} {size:Nat} {a:Option Addr} {l c:Nat} {r:Option Nat} {xs:List Value} (h:OS w base e size a l c r xs) {k:Nat} (hk:r=some k):∃t us,Blk w k t us:=by
 have h2:=h.blk
 rw [hk] at h2
 rcases h.own.2 with ⟨hv,_⟩ | ⟨g,cap,cur,hv,_,hg,_⟩
 ·rw [hv] at h2;cases h2
 ·rw [hv] at h2
  cases h2
  exact ⟨e,cur.toList,⟨by simpa using hg⟩⟩
theorem Ex.cellsOf {w:World} {G:Nat->Prop} {e:Ex} (h:e.holds w G) {b:Nat} (hb:b∈e.foot):∃t us,Blk w b t us:=by
 cases e with
 | blk b' t l=>
  obtain rfl:b=b':=by simpa [Ex.foot] using hb
  exact ⟨t,l,h⟩
 | own e sz a n c r ds=>
  obtain ⟨xs,h1,_⟩:=h
  have hr:r=some b:=by simpa [Ex.foot] using hb
  exact own_block h1 hr
 | many t bs=>
  obtain ⟨p,hp,rfl⟩:=List.mem_map.1 (show b∈bs.map (·.1) from hb)
  exact ⟨t,p.2,h p hp⟩
def cellsAt (w:World) (b:Nat):TypeId×List Value:=match w.heap[b]? with
 | some (.cells c t _)=>(t,c.toList)
 | _=>(0,[])
theorem cellsAt_of {w:World} {b:Nat} {t:TypeId} {us:List Value} (h:Blk w b t us):cellsAt w b=(t,us):=by
 unfold cellsAt
 rw [h.eq]
def stillEx (w:World) (bs:List Nat):List Ex:=bs.map fun b=>.blk b (cellsAt w b).1 (cellsAt w b).2
theorem foots_still (w:World) (bs:List Nat):foots (stillEx w bs)=bs:=by
 induction bs with
 | nil=>rfl
 | cons b bs ih=>unfold stillEx at ih ⊢;rw [List.map_cons,foots_cons,ih];rfl
theorem Sat.still {F:Fr} {w:World} {ex:List Ex} {ro:List Ro} (H:Sat F w ex ro):∃ex2,Sat ⟨w,fun b=>b∈foots ex⟩ w ex2 ro /\
  ∀w' ro',Sat ⟨w,fun b=>b∈foots ex⟩ w' ex2 ro'->w.grownBy w' none/\Sat F w' ex ro':=by
 have hf:=foots_still w (foots ex)
 have hB:∀b∈foots ex,Blk w b (cellsAt w b).1 (cellsAt w b).2:=by
  intro b hb
  obtain ⟨e,he,hbe⟩:=List.mem_flatMap.1 (show b∈ex.flatMap Ex.foot from hb)
  obtain ⟨t,us,h⟩:=Ex.cellsOf (H.he e he) hbe
  rw [cellsAt_of h]
  exact h
 refine ⟨stillEx w (foots ex),Sat.start (by rw [hf];exact H.nd) (by rw [hf];exact fun b hb=>⟨(H.lt b hb).1,hb⟩) ?_ (by rw [hf];exact H.hr),fun w' ro' H'=>?_⟩
 ·intro e he
  obtain ⟨b,hb,rfl⟩:=List.mem_map.1 he
  exact hB b hb
 ·have hg:w.grownBy w' none:=by
   refine ⟨H'.gr.os,H'.gr.tape,H'.gr.output,H'.gr.size,fun k hk _=>?_⟩
   by_cases hm:k∈foots ex
   ·have h1:Blk w' k (cellsAt w k).1 (cellsAt w k).2:=H'.he _ (List.mem_map.2 ⟨k,hm,rfl⟩)
    exact h1.eq.trans (hB k hm).eq.symm
   ·exact H'.gr.block k hk hm
  have H1:=H.grow hg
  refine ⟨hg,⟨H1.gr,H1.nd,H1.lt,H1.he,fun r hr=>?_⟩⟩
  have:=H'.hr r hr
  rw [hf] at this
  exact this
theorem all_u32 (xs:List Int):(xs.map (Value.int .u32)).all Value.oneCell'=true:=by rw [List.all_eq_true];intro u hu;obtain ⟨x,_,rfl⟩:=List.mem_map.1 hu;rfl
theorem c98 {F:Fr} {w:World} {ex:List Ex} {ro:List Ro} {l:List Int} {a:Option Addr} {n c:Nat} (H:Sat F w ex ro) (hx:Ro.deep [.row 1 (oi .u32 l)] [.slice a n c]∈ro) (hn:n<=10000000):Calls pg 98 #[.slice a n c] w fun en w'=>
  ∃a' c',en=.returned (.slice a' n c')/\w.grownBy w' none/\Sat F w' ex (.deep [.row 1 (oi .u32 l)] [.slice a' n c']::ro):=by
 apply of98
 rw [oi_ones] at hx ⊢
 exact clone_j (t:=55) (e:=51) (bytes:=4) (R:=fun en w'=>∃a' c',en=.returned (.slice a' n c')/\w.grownBy w' none/\Sat F w' ex (.deep [.row 1 ((l.map (Value.int .u32)).map .one)] [.slice a' n c']::ro)) H hx hn (all_u32 l) (by kernel_rfl) (by decide) (fun a' c' w' g H=>⟨a',c',rfl,g,H⟩)
theorem c117 {F:Fr} {w:World} {ex:List Ex} {ro:List Ro} {r0 r1 r2 r3 r4 r5 r6:Int} (H:Sat F w ex ro) :
  Calls pg 117 #[.agg #[.int .u32 r0,.int .u8 r1,.int .u32 r2,.int .u32 r3,.int .u32 r4,.int .u32 r5,.int .u32 r6]] w fun en w'=>
   en=.returned (.agg #[.int .u32 r0,.int .u8 r1,.int .u32 r2,.int .u32 r3,.int .u32 r4,.int .u32 r5,.int .u32 r6])/\Sat F w' ex ro:=by
 apply of117
 refine sNew H ?_;clear H;intro b1 w _ H
 refine sNew H ?_;clear H;intro b3 w _ H
 refine ⟨_,(H.b1.at0 rfl),?_⟩
 refine ⟨_,(H.b1.at0 rfl),?_⟩
 refine ⟨_,(H.b1.at0 rfl),?_⟩
 refine ⟨_,(H.b1.at0 rfl),?_⟩
 refine ⟨_,(H.b1.at0 rfl),?_⟩
 refine ⟨_,(H.b1.at0 rfl),?_⟩
 refine ⟨_,(H.b1.at0 rfl),?_⟩
 refine sSw0 H rfl (by kernel_rfl) (by rfl) (by rfl) ?_;clear H;intro w _ H
 refine ⟨_,_,_,_,_,_,_,H.b0.ld,?_⟩
 exact ⟨rfl,H.sub ((List.sublist_cons_self _ _).trans (List.sublist_cons_self _ _)) (fun _ h=>h)⟩
theorem Rep.dat_len' (x:Rep):(Rep.dat x).length=7:=rfl
theorem c102 {F:Fr} {w:World} {ex:List Ex} {ro:List Ro} {L:List Rep} {l:Option Addr} {c:Nat} (H:Sat F w ex ro) (hl:Ro.deep [.row 7 (L.flatMap Rep.dat)] [.slice l L.length c]∈ro) (hn:L.length<=1000000) :
  Calls pg 102 #[.slice l L.length c] w fun en w'=>∃o oc,en=.returned (.slice o L.length oc)/\Sat F w' ex (.deep [.row 7 (L.flatMap Rep.dat)] [.slice o L.length oc]::ro):=by
 apply of102
 refine ⟨fun o ol oc x m w=>∃(j:Nat) (r:Option Nat),x=(j:Int)/\j+m=L.length/\ol=j/\Sat F w (.own 166 7 o ol oc r ((L.take j).flatMap Rep.dat)::ex) ro,⟨L.length,0,none,rfl,by omega,rfl,H.nilOwn 166 7⟩,?_⟩
 clear H;rintro dd2 o ol oc x m w ⟨j,r,rfl,hjm,rfl,H⟩
 refine ⟨fun hc=>?_,fun hc=>?_⟩
 ·rw [decide_eq_true_eq] at hc
  have hjl:ol < L.length:=by omega
  obtain ⟨p,us,e,hus,hcell,H1⟩:=H.eltF Rep.dat_len' (by decide) hl (j:=ol) hjl
  have htk:L.take (ol+1)=L.take ol++[L[ol]]:=by rw [List.take_add_one,List.getElem?_eq_getElem hjl];rfl
  clear H
  generalize L[ol]=D at H1 htk
  obtain ⟨d0,d1,d2,d3,d4,d5,d6⟩:=D
  refine ⟨p,e,by omega,by omega,?_⟩
  obtain rfl:=H1.ones (us:=[.int .u32 d0,.int .u8 d1,.int .u32 d2,.int .u32 d3,.int .u32 d4,.int .u32 d5,.int .u32 d6]) ms
  refine ⟨_,_,_,_,_,_,_,LdC [.int .u32 d0,.int .u8 d1,.int .u32 d2,.int .u32 d3,.int .u32 d4,.int .u32 d5,.int .u32 d6] (by kernel_rfl) (by rw [show (ol:Int).toNat*7=ol*7 by omega];exact hcell),?_⟩
  have H:=H1
  clear H1 hcell
  refine sNew H ?_;clear H;intro b15 w _ H
  refine sSw0 H rfl (by kernel_rfl) (by rfl) (by rfl) ?_;clear H;intro w _ H
  refine ⟨_,_,_,_,_,_,_,H.b0.ld,?_⟩
  refine call_j (c117 H) ?_
  clear H
  rintro _ w ⟨rfl,H⟩
  refine ⟨_,_,_,_,_,_,_,rfl,?_⟩
  refine ⟨rfl,?_⟩
  refine sPush1 H (bytes:=28) (by kernel_rfl) (Rep.dat (d0,d1,d2,d3,d4,d5,d6)) (by rfl) (fun G h=>DeepL.ones [_,_,_,_,_,_,_]) (by rfl) (by unfold maxLen;omega) (by omega) ?_
  clear H;intro o2 ol2 oc2 r2 w ex2 _ H
  subst ex2
  refine ⟨m - 1,by omega,ol+1,r2,?_,by omega,rfl,?_⟩
  ·rw [wi64_of (by omega) (by omega)];simp
  ·rw [htk,List.flatMap_append]
   simp only [List.flatMap_cons,List.flatMap_nil,List.append_nil]
   exact H.sub (List.sublist_cons_self _ _) (fun r h=>mt h)
 ·rw [decide_eq_false_iff_not] at hc
  obtain rfl:ol=L.length:=by omega
  rw [List.take_length] at H
  exact ⟨o,oc,rfl,H.freeze⟩
theorem Met.dat_len' (x:Met):(Met.dat x).length=3:=rfl
theorem Blo.dat_len' (x:Blo):(Blo.dat x).length=3:=rfl
theorem c104 {F:Fr} {w:World} {ex:List Ex} {ro:List Ro} {L:List Blo} {l:Option Addr} {c:Nat} (H:Sat F w ex ro) (hl:Ro.deep [.row 3 (L.flatMap Blo.dat)] [.slice l L.length c]∈ro) (hn:L.length<=1000000) (hn2:∀B∈L,B.2.2.length<=1000000) :
  Calls pg 104 #[.slice l L.length c] w fun en w'=>∃o oc,en=.returned (.slice o L.length oc)/\Sat F w' ex (.deep [.row 3 (L.flatMap Blo.dat)] [.slice o L.length oc]::ro):=by
 apply of104
 refine ⟨fun o ol oc x m w=>∃(j:Nat) (r:Option Nat),x=(j:Int)/\j+m=L.length/\ol=j/\Sat F w (.own 176 3 o ol oc r ((L.take j).flatMap Blo.dat)::ex) ro,⟨L.length,0,none,rfl,by omega,rfl,H.nilOwn 176 3⟩,?_⟩
 clear H;rintro dd2 o ol oc x m w ⟨j,r,rfl,hjm,rfl,H⟩
 refine ⟨fun hc=>?_,fun hc=>?_⟩
 ·rw [decide_eq_true_eq] at hc
  have hjl:ol < L.length:=by omega
  obtain ⟨p,us,e,hus,hcell,H1⟩:=H.eltF Blo.dat_len' (by decide) hl (j:=ol) hjl
  have htk:L.take (ol+1)=L.take ol++[L[ol]]:=by rw [List.take_add_one,List.getElem?_eq_getElem hjl];rfl
  have hDm:=hn2 L[ol] (List.getElem_mem hjl)
  clear H
  generalize L[ol]=D at H1 htk hDm
  obtain ⟨d0,d1,ms⟩:=D
  replace hDm:ms.length<=1000000:=hDm
  refine ⟨p,e,by omega,by omega,?_⟩
  obtain ⟨x0,us0,rfl,H2⟩:=H1.uncons List.mem_cons_self
  obtain ⟨x1,us1,rfl,H3⟩:=H2.uncons (List.mem_cons_of_mem _ List.mem_cons_self)
  obtain ⟨x2,us2,rfl,H4⟩:=H3.uncons (List.mem_cons_of_mem _ List.mem_cons_self)
  obtain rfl:us2=[]:=by simpa using hus
  obtain rfl:=H2.one1 List.mem_cons_self
  obtain rfl:=H3.one1 List.mem_cons_self
  obtain ⟨sa,sn,sc,rfl,hsl⟩:=H4.rowS List.mem_cons_self
  rw [flat_len Met.dat_len'] at hsl
  obtain rfl:sn=ms.length:=by omega
  refine ⟨_,_,_,_,_,LdC [.int .u32 d0,.int .u16 d1,.slice sa ms.length sc] (by kernel_rfl) (by rw [show (ol:Int).toNat*3=ol*3 by omega];exact hcell),?_⟩
  have H:Sat F w _ (.deep [.row 3 (ms.flatMap Met.dat)] [.slice sa ms.length sc]::ro):=H4.sub (List.Sublist.refl _) (fun r h=>by rcases List.mem_cons.1 h with rfl | h;exact List.mem_cons_self;simp [h])
  clear H1 H2 H3 H4 hcell
  refine sNew H ?_;clear H;intro b13 w _ H
  refine sSw0 H rfl (by kernel_rfl) (by rfl) (by rfl) ?_;clear H;intro w _ H
  refine ⟨_,(by exact Ce (by exact add_flat _ _ _) H.b0 rfl),?_⟩
  refine ⟨_,(by exact Ce (by exact add_flat _ _ _) H.b0 rfl),?_⟩
  refine sNew H ?_;clear H;intro b18 w _ H
  refine sSw0 H rfl (by kernel_rfl) (by rfl) (by rfl) ?_;clear H;intro w _ H
  refine ⟨_,_,_,(by exact Ce (by exact add_flat _ _ _) H.b1 rfl),?_⟩
  refine ⟨fun x m2 w=>∃(i:Nat) (o2:Option Addr) (oc2:Nat) (r2:Option Nat),x=(i:Int)/\i+m2=ms.length /\
    Sat F w (.blk b18 176 [.int .u32 d0,.int .u16 d1,.slice o2 i oc2]::.blk b13 278 [.int .u32 d0,.int .u16 d1,.slice sa ms.length sc]::.own 177 3 o2 i oc2 r2 ((ms.take i).flatMap Met.dat)::.own 176 3 o ol oc r ((L.take ol).flatMap Blo.dat)::ex)
     (.deep [.row 3 (ms.flatMap Met.dat)] [.slice sa ms.length sc]::ro),
   ⟨ms.length,0,none,0,none,rfl,by omega,(H.nilOwn 177 3).u2⟩,?_⟩
  clear H;rintro dd23 x m2 w ⟨i,o2,oc2,r2,rfl,him,H⟩
  refine ⟨fun hc=>?_,fun hc=>?_⟩
  ·rw [decide_eq_true_eq] at hc
   have hil:i < ms.length:=by omega
   obtain ⟨p2,us,e2,hus2,hcell,H1⟩:=H.eltF Met.dat_len' (by decide) List.mem_cons_self (j:=i) hil
   have htk2:ms.take (i+1)=ms.take i++[ms[i]]:=by rw [List.take_add_one,List.getElem?_eq_getElem hil];rfl
   clear H
   generalize ms[i]=E at H1 htk2
   obtain ⟨e0,e1,e3⟩:=E
   refine ⟨p2,e2,by omega,by omega,?_⟩
   obtain rfl:=H1.ones (us:=[.bool e0,.int .u8 e1,.int .u16 e3]) List.mem_cons_self
   refine ⟨_,_,_,LdC [.bool e0,.int .u8 e1,.int .u16 e3] (by kernel_rfl) (by rw [show (i:Int).toNat*3=i*3 by omega];exact hcell),?_⟩
   have H:=H1
   clear H1 hcell
   refine sNew H ?_;clear H;intro b33 w _ H
   refine sSw0 H rfl (by kernel_rfl) (by rfl) (by rfl) ?_;clear H;intro w _ H
   refine ⟨_,_,_,(by exact Ce (by exact add_flat _ _ _) H.b1 rfl),?_⟩
   refine ⟨_,(by exact Ce (by exact add_flat _ _ _) H.b0 rfl),?_⟩
   refine ⟨_,(by exact Ce (by exact add_flat _ _ _) H.b0 rfl),?_⟩
   refine ⟨_,(by exact Ce (by exact add_flat _ _ _) H.b0 rfl),?_⟩
   refine ⟨rfl,?_⟩
   refine sPush3 H (bytes:=4) (by kernel_rfl) (Met.dat (e0,e1,e3)) (by rfl) (fun G h=>DeepL.ones [_,_,_]) (by rfl) (by unfold maxLen;omega) (by omega) ?_
   clear H;intro o3 ol3 oc3 r3 w ex3 _ H
   refine sSt1 H (by exact add_flat _ _ _) (by kernel_rfl) (by rfl) (by rfl) ?_;clear H;intro w _ H
   subst ex3
   refine ⟨m2 - 1,by omega,i+1,o3,oc3,r3,?_,by omega,?_⟩
   ·rw [wi64_of (by omega) (by omega)];simp
   ·rw [htk2,List.flatMap_append]
    simp only [List.flatMap_cons,List.flatMap_nil,List.append_nil]
    exact H.sub (List.sublist_cons_self _ _) (fun r h=>List.mem_cons_of_mem _ h)
  ·rw [decide_eq_false_iff_not] at hc
   obtain rfl:i=ms.length:=by omega
   rw [List.take_length] at H
   replace H:=H.r2.freeze
   refine ⟨_,_,_,_,_,(by exact Ld0 rfl H.b0 (by kernel_rfl)),?_⟩
   refine ⟨rfl,?_⟩
   refine sPush2 H (bytes:=32) (by kernel_rfl) (Blo.dat (d0,d1,ms)) (by rfl) (fun G h=>DeepL.cons (.one _) (DeepL.cons (.one _) (DeepL.cons (h (.deep [_] [_]) List.mem_cons_self).head (DeepL.nil _ _)))) (by rfl) (by unfold maxLen;omega) (by omega) ?_
   clear H;intro o3 ol3 oc3 r3 w ex3 _ H
   subst ex3
   refine ⟨m - 1,by omega,ol+1,r3,?_,by omega,rfl,?_⟩
   ·rw [wi64_of (by omega) (by omega)];simp
   ·rw [htk,List.flatMap_append]
    simp only [List.flatMap_cons,List.flatMap_nil,List.append_nil]
    exact H.sub (by exact (List.sublist_cons_self _ _).trans (List.sublist_cons_self _ _)) (fun r h=>by simp [h])
 ·rw [decide_eq_false_iff_not] at hc
  obtain rfl:ol=L.length:=by omega
  rw [List.take_length] at H
  exact ⟨o,oc,rfl,H.freeze⟩
theorem Chk.dat_len' (x:Chk):(Chk.dat x).length=2:=rfl
theorem c103 {F:Fr} {w:World} {ex:List Ex} {ro:List Ro} {L:List Chk} {v:Value} (H:Sat F w ex ro) (hp:Ro.deep [.ptr [.row 2 (L.flatMap Chk.dat)]] [v]∈ro) (hn:L.length<=1000000) (hn2:∀B∈L,B.2.length<=1000000) :
  Calls pg 103 #[v] w fun en w'=>∃o oc,en=.returned (.slice o L.length oc)/\Sat F w' ex (.deep [.row 2 (L.flatMap Chk.dat)] [.slice o L.length oc]::ro):=by
 obtain ⟨b,vs,rfl,hcell,_,_,H1⟩:=H.ptr hp
 obtain ⟨x0,us0,rfl,H2⟩:=H1.uncons List.mem_cons_self
 obtain ⟨l,n,c,rfl,hll⟩:=H2.rowS List.mem_cons_self
 rw [flat_len Chk.dat_len'] at hll
 obtain rfl:n=L.length:=by omega
 apply of103
 refine ⟨_,rfl,?_⟩
 refine ⟨_,_,_,hcell 0 _ rfl,?_⟩
 replace H:Sat F w ex (.deep [.row 2 (L.flatMap Chk.dat)] [.slice l L.length c]::ro):=H2.sub (List.Sublist.refl _) (fun r h=>by rcases List.mem_cons.1 h with rfl | h;exact List.mem_cons_self;simp [h])
 clear H1 H2 hcell
 refine ⟨fun o ol oc x m w=>∃(j:Nat) (r:Option Nat),x=(j:Int)/\j+m=L.length/\ol=j/\Sat F w (.own 169 2 o ol oc r ((L.take j).flatMap Chk.dat)::ex) (.deep [.row 2 (L.flatMap Chk.dat)] [.slice l L.length c]::ro),⟨L.length,0,none,rfl,by omega,rfl,H.nilOwn 169 2⟩,?_⟩
 clear H;rintro dd2 o ol oc x m w ⟨j,r,rfl,hjm,rfl,H⟩
 refine ⟨fun hc=>?_,fun hc=>?_⟩
 ·rw [decide_eq_true_eq] at hc
  have hjl:ol < L.length:=by omega
  obtain ⟨p,us,e,hus,hcell,H1⟩:=H.eltF Chk.dat_len' (by decide) List.mem_cons_self (j:=ol) hjl
  have htk:L.take (ol+1)=L.take ol++[L[ol]]:=by rw [List.take_add_one,List.getElem?_eq_getElem hjl];rfl
  have hDm:=hn2 L[ol] (List.getElem_mem hjl)
  clear H
  generalize L[ol]=D at H1 htk hDm
  obtain ⟨d0,ms⟩:=D
  replace hDm:ms.length<=1000000:=hDm
  refine ⟨p,e,by omega,by omega,?_⟩
  obtain ⟨x0,us0,rfl,H2⟩:=H1.uncons List.mem_cons_self
  obtain ⟨x1,us1,rfl,H3⟩:=H2.uncons (List.mem_cons_of_mem _ List.mem_cons_self)
  obtain rfl:us1=[]:=by simpa using hus
  obtain rfl:=H2.one1 List.mem_cons_self
  obtain ⟨sa,sn,sc,rfl,hsl⟩:=H3.rowS List.mem_cons_self
  rw [flat_len Itm.dat_len] at hsl
  obtain rfl:sn=ms.length:=by omega
  refine ⟨_,_,_,_,LdC [.int .u32 d0,.slice sa ms.length sc] (by kernel_rfl) (by rw [show (ol:Int).toNat*2=ol*2 by omega];exact hcell),?_⟩
  have H:Sat F w _ (.deep [.row 2 (ms.flatMap Itm.dat)] [.slice sa ms.length sc]::.deep [.row 2 (L.flatMap Chk.dat)] [.slice l L.length c]::ro):=H3.sub (List.Sublist.refl _) (fun r h=>by
   rcases List.mem_cons.1 h with rfl | h
   ·exact List.mem_cons_self
   ·exact List.mem_cons_of_mem _ (List.mem_cons_of_mem _ (List.mem_cons_of_mem _ (List.mem_cons_of_mem _ (List.mem_cons_of_mem _ h)))))
  clear H1 H2 H3 hcell
  refine sNew H ?_;clear H;intro b13 w _ H
  refine sSw0 H rfl (by kernel_rfl) (by rfl) (by rfl) ?_;clear H;intro w _ H
  refine ⟨_,(by exact Ce (by exact add_flat _ _ _) H.b0 rfl),?_⟩
  refine sNew H ?_;clear H;intro b18 w _ H
  refine sSw0 H rfl (by kernel_rfl) (by rfl) (by rfl) ?_;clear H;intro w _ H
  refine ⟨_,_,_,(by exact Ce (by exact add_flat _ _ _) H.b1 rfl),?_⟩
  refine ⟨fun x m2 w=>∃(i:Nat) (o2:Option Addr) (oc2:Nat) (r2:Option Nat),x=(i:Int)/\i+m2=ms.length /\
    Sat F w (.blk b18 169 [.int .u32 d0,.slice o2 i oc2]::.blk b13 255 [.int .u32 d0,.slice sa ms.length sc]::.own 170 2 o2 i oc2 r2 ((ms.take i).flatMap Itm.dat)::.own 169 2 o ol oc r ((L.take ol).flatMap Chk.dat)::ex)
     (.deep [.row 2 (ms.flatMap Itm.dat)] [.slice sa ms.length sc]::.deep [.row 2 (L.flatMap Chk.dat)] [.slice l L.length c]::ro),
   ⟨ms.length,0,none,0,none,rfl,by omega,(H.nilOwn 170 2).u2⟩,?_⟩
  clear H;rintro dd23 x m2 w ⟨i,o2,oc2,r2,rfl,him,H⟩
  refine ⟨fun hc=>?_,fun hc=>?_⟩
  ·rw [decide_eq_true_eq] at hc
   have hil:i < ms.length:=by omega
   obtain ⟨p2,us,e2,hus2,hcell,H1⟩:=H.eltF Itm.dat_len (by decide) List.mem_cons_self (j:=i) hil
   have htk2:ms.take (i+1)=ms.take i++[ms[i]]:=by rw [List.take_add_one,List.getElem?_eq_getElem hil];rfl
   clear H
   generalize ms[i]=E at H1 htk2
   obtain ⟨e0,e1⟩:=E
   refine ⟨p2,e2,by omega,by omega,?_⟩
   obtain rfl:=H1.ones (us:=[.int .u8 e0,.string e1]) List.mem_cons_self
   refine ⟨_,_,LdC [.int .u8 e0,.string e1] (by kernel_rfl) (by rw [show (i:Int).toNat*2=i*2 by omega];exact hcell),?_⟩
   have H:=H1
   clear H1 hcell
   refine sNew H ?_;clear H;intro b33 w _ H
   refine sSw0 H rfl (by kernel_rfl) (by rfl) (by rfl) ?_;clear H;intro w _ H
   refine ⟨_,_,_,(by exact Ce (by exact add_flat _ _ _) H.b1 rfl),?_⟩
   refine ⟨_,(by exact Ce (by exact add_flat _ _ _) H.b0 rfl),?_⟩
   refine ⟨_,(by exact Ce (by exact add_flat _ _ _) H.b0 rfl),?_⟩
   refine ⟨rfl,?_⟩
   refine sPush3 H (bytes:=24) (by kernel_rfl) (Itm.dat (e0,e1)) (by rfl) (fun G h=>DeepL.ones [_,_]) (by rfl) (by unfold maxLen;omega) (by omega) ?_
   clear H;intro o3 ol3 oc3 r3 w ex3 _ H
   refine sSt1 H (by exact add_flat _ _ _) (by kernel_rfl) (by rfl) (by rfl) ?_;clear H;intro w _ H
   subst ex3
   refine ⟨m2 - 1,by omega,i+1,o3,oc3,r3,?_,by omega,?_⟩
   ·rw [wi64_of (by omega) (by omega)];simp
   ·rw [htk2,List.flatMap_append]
    simp only [List.flatMap_cons,List.flatMap_nil,List.append_nil]
    exact H.sub (List.sublist_cons_self _ _) (fun r h=>List.mem_cons_of_mem _ h)
  ·rw [decide_eq_false_iff_not] at hc
   obtain rfl:i=ms.length:=by omega
   rw [List.take_length] at H
   replace H:=H.r2.freeze
   refine ⟨_,_,_,_,(by exact Ld0 rfl H.b0 (by kernel_rfl)),?_⟩
   refine ⟨rfl,?_⟩
   refine sPush2 H (bytes:=32) (by kernel_rfl) (Chk.dat (d0,ms)) (by rfl) (fun G h=>DeepL.cons (.one _) (DeepL.cons (h (.deep [_] [_]) List.mem_cons_self).head (DeepL.nil _ _))) (by rfl) (by unfold maxLen;omega) (by omega) ?_
   clear H;intro o3 ol3 oc3 r3 w ex3 _ H
   subst ex3
   refine ⟨m - 1,by omega,ol+1,r3,?_,by omega,rfl,?_⟩
   ·rw [wi64_of (by omega) (by omega)];simp
   ·rw [htk,List.flatMap_append]
    simp only [List.flatMap_cons,List.flatMap_nil,List.append_nil]
    exact H.sub (by exact (List.sublist_cons_self _ _).trans (List.sublist_cons_self _ _)) (fun r h=>List.mem_cons_of_mem _ (List.mem_cons_of_mem _ h))
 ·rw [decide_eq_false_iff_not] at hc
  obtain rfl:ol=L.length:=by omega
  rw [List.take_length] at H
  exact ⟨o,oc,rfl,H.freeze.sub (List.Sublist.refl _) (fun r h=>by rcases List.mem_cons.1 h with rfl | h;exact List.mem_cons_self;simp [h])⟩
theorem c96 {F:Fr} {w:World} {ex:List Ex} {ro:List Ro} {L:List Rep} {l:Option Addr} {c:Nat} (H:Sat F w ex ro) (hl:Ro.deep [.row 7 (L.flatMap Rep.dat)] [.slice l L.length c]∈ro) (hn:L.length<=1000000) :
  Calls pg 96 #[.slice l L.length c] w fun en w'=>∃o oc,en=.returned (.slice o L.length oc)/\Sat F w' ex (.deep [.row 7 (L.flatMap Rep.dat)] [.slice o L.length oc]::ro):=by
 apply of96
 refine ⟨fun o ol oc x m w=>∃(j:Nat) (r:Option Nat),x=(j:Int)/\j+m=L.length/\ol=j/\Sat F w (.own 275 7 o ol oc r ((L.take j).flatMap Rep.dat)::ex) ro,⟨L.length,0,none,rfl,by omega,rfl,H.nilOwn 275 7⟩,?_⟩
 clear H;rintro dd2 o ol oc x m w ⟨j,r,rfl,hjm,rfl,H⟩
 refine ⟨fun hc=>?_,fun hc=>?_⟩
 ·rw [decide_eq_true_eq] at hc
  have hjl:ol < L.length:=by omega
  obtain ⟨p,us,e,hus,hcell,H1⟩:=H.eltF Rep.dat_len' (by decide) hl (j:=ol) hjl
  have htk:L.take (ol+1)=L.take ol++[L[ol]]:=by rw [List.take_add_one,List.getElem?_eq_getElem hjl];rfl
  clear H
  generalize L[ol]=D at H1 htk
  obtain ⟨d0,d1,d2,d3,d4,d5,d6⟩:=D
  refine ⟨p,e,by omega,by omega,?_⟩
  obtain rfl:=H1.ones (us:=[.int .u32 d0,.int .u8 d1,.int .u32 d2,.int .u32 d3,.int .u32 d4,.int .u32 d5,.int .u32 d6]) ms
  refine ⟨_,_,_,_,_,_,_,LdC [.int .u32 d0,.int .u8 d1,.int .u32 d2,.int .u32 d3,.int .u32 d4,.int .u32 d5,.int .u32 d6] (by kernel_rfl) (by rw [show (ol:Int).toNat*7=ol*7 by omega];exact hcell),?_⟩
  have H:=H1
  clear H1 hcell
  refine sNew H ?_;clear H;intro b15 w _ H
  refine sSw0 H rfl (by kernel_rfl) (by rfl) (by rfl) ?_;clear H;intro w _ H
  refine ⟨_,(H.b0.at0 rfl),?_⟩
  refine ⟨_,(H.b0.at0 rfl),?_⟩
  refine ⟨_,(H.b0.at0 rfl),?_⟩
  refine ⟨_,(H.b0.at0 rfl),?_⟩
  refine ⟨_,(H.b0.at0 rfl),?_⟩
  refine ⟨_,(H.b0.at0 rfl),?_⟩
  refine ⟨_,(H.b0.at0 rfl),?_⟩
  refine ⟨rfl,?_⟩
  refine sPush1 H (bytes:=28) (by kernel_rfl) (Rep.dat (d0,d1,d2,d3,d4,d5,d6)) (by rfl) (fun G h=>DeepL.ones [_,_,_,_,_,_,_]) (by rfl) (by unfold maxLen;omega) (by omega) ?_
  clear H;intro o2 ol2 oc2 r2 w ex2 _ H
  subst ex2
  refine ⟨m - 1,by omega,ol+1,r2,?_,by omega,rfl,?_⟩
  ·rw [wi64_of (by omega) (by omega)];simp
  ·rw [htk,List.flatMap_append]
   simp only [List.flatMap_cons,List.flatMap_nil,List.append_nil]
   exact H.sub (List.sublist_cons_self _ _) (fun r h=>mt h)
 ·rw [decide_eq_false_iff_not] at hc
  obtain rfl:ol=L.length:=by omega
  rw [List.take_length] at H
  exact ⟨o,oc,rfl,H.freeze⟩
theorem c99 {F:Fr} {w:World} {ex:List Ex} {ro:List Ro} {L:List Blo} {l:Option Addr} {c:Nat} (H:Sat F w ex ro) (hl:Ro.deep [.row 3 (L.flatMap Blo.dat)] [.slice l L.length c]∈ro) (hn:L.length<=1000000) (hn2:∀B∈L,B.2.2.length<=1000000) :
  Calls pg 99 #[.slice l L.length c] w fun en w'=>∃o oc,en=.returned (.slice o L.length oc)/\Sat F w' ex (.deep [.row 3 (L.flatMap Blo.dat)] [.slice o L.length oc]::ro):=by
 apply of99
 refine ⟨fun o ol oc x m w=>∃(j:Nat) (r:Option Nat),x=(j:Int)/\j+m=L.length/\ol=j/\Sat F w (.own 278 3 o ol oc r ((L.take j).flatMap Blo.dat)::ex) ro,⟨L.length,0,none,rfl,by omega,rfl,H.nilOwn 278 3⟩,?_⟩
 clear H;rintro dd2 o ol oc x m w ⟨j,r,rfl,hjm,rfl,H⟩
 refine ⟨fun hc=>?_,fun hc=>?_⟩
 ·rw [decide_eq_true_eq] at hc
  have hjl:ol < L.length:=by omega
  obtain ⟨p,us,e,hus,hcell,H1⟩:=H.eltF Blo.dat_len' (by decide) hl (j:=ol) hjl
  have htk:L.take (ol+1)=L.take ol++[L[ol]]:=by rw [List.take_add_one,List.getElem?_eq_getElem hjl];rfl
  have hDm:=hn2 L[ol] (List.getElem_mem hjl)
  clear H
  generalize L[ol]=D at H1 htk hDm
  obtain ⟨d0,d1,ms⟩:=D
  replace hDm:ms.length<=1000000:=hDm
  refine ⟨p,e,by omega,by omega,?_⟩
  obtain ⟨x0,us0,rfl,H2⟩:=H1.uncons List.mem_cons_self
  obtain ⟨x1,us1,rfl,H3⟩:=H2.uncons (List.mem_cons_of_mem _ List.mem_cons_self)
  obtain ⟨x2,us2,rfl,H4⟩:=H3.uncons (List.mem_cons_of_mem _ List.mem_cons_self)
  obtain rfl:us2=[]:=by simpa using hus
  obtain rfl:=H2.one1 List.mem_cons_self
  obtain rfl:=H3.one1 List.mem_cons_self
  obtain ⟨sa,sn,sc,rfl,hsl⟩:=H4.rowS List.mem_cons_self
  rw [flat_len Met.dat_len'] at hsl
  obtain rfl:sn=ms.length:=by omega
  refine ⟨_,_,_,_,_,LdC [.int .u32 d0,.int .u16 d1,.slice sa ms.length sc] (by kernel_rfl) (by rw [show (ol:Int).toNat*3=ol*3 by omega];exact hcell),?_⟩
  have H:Sat F w _ (.deep [.row 3 (ms.flatMap Met.dat)] [.slice sa ms.length sc]::ro):=H4.sub (List.Sublist.refl _) (fun r h=>by rcases List.mem_cons.1 h with rfl | h;exact List.mem_cons_self;simp [h])
  clear H1 H2 H3 H4 hcell
  refine sNew H ?_;clear H;intro b13 w _ H
  refine sSw0 H rfl (by kernel_rfl) (by rfl) (by rfl) ?_;clear H;intro w _ H
  refine ⟨_,(by exact Ce (by exact add_flat _ _ _) H.b0 rfl),?_⟩
  refine ⟨_,(by exact Ce (by exact add_flat _ _ _) H.b0 rfl),?_⟩
  refine sNew H ?_;clear H;intro b18 w _ H
  refine sSw0 H rfl (by kernel_rfl) (by rfl) (by rfl) ?_;clear H;intro w _ H
  refine ⟨_,_,_,(by exact Ce (by exact add_flat _ _ _) H.b1 rfl),?_⟩
  refine ⟨fun x m2 w=>∃(i:Nat) (o2:Option Addr) (oc2:Nat) (r2:Option Nat),x=(i:Int)/\i+m2=ms.length /\
    Sat F w (.blk b18 278 [.int .u32 d0,.int .u16 d1,.slice o2 i oc2]::.blk b13 176 [.int .u32 d0,.int .u16 d1,.slice sa ms.length sc]::.own 281 3 o2 i oc2 r2 ((ms.take i).flatMap Met.dat)::.own 278 3 o ol oc r ((L.take ol).flatMap Blo.dat)::ex)
     (.deep [.row 3 (ms.flatMap Met.dat)] [.slice sa ms.length sc]::ro),
   ⟨ms.length,0,none,0,none,rfl,by omega,(H.nilOwn 281 3).u2⟩,?_⟩
  clear H;rintro dd23 x m2 w ⟨i,o2,oc2,r2,rfl,him,H⟩
  refine ⟨fun hc=>?_,fun hc=>?_⟩
  ·rw [decide_eq_true_eq] at hc
   have hil:i < ms.length:=by omega
   obtain ⟨p2,us,e2,hus2,hcell,H1⟩:=H.eltF Met.dat_len' (by decide) List.mem_cons_self (j:=i) hil
   have htk2:ms.take (i+1)=ms.take i++[ms[i]]:=by rw [List.take_add_one,List.getElem?_eq_getElem hil];rfl
   clear H
   generalize ms[i]=E at H1 htk2
   obtain ⟨e0,e1,e3⟩:=E
   refine ⟨p2,e2,by omega,by omega,?_⟩
   obtain rfl:=H1.ones (us:=[.bool e0,.int .u8 e1,.int .u16 e3]) List.mem_cons_self
   refine ⟨_,_,_,LdC [.bool e0,.int .u8 e1,.int .u16 e3] (by kernel_rfl) (by rw [show (i:Int).toNat*3=i*3 by omega];exact hcell),?_⟩
   have H:=H1
   clear H1 hcell
   refine sNew H ?_;clear H;intro b33 w _ H
   refine sSw0 H rfl (by kernel_rfl) (by rfl) (by rfl) ?_;clear H;intro w _ H
   refine ⟨_,_,_,(by exact Ce (by exact add_flat _ _ _) H.b1 rfl),?_⟩
   refine ⟨_,(by exact Ce (by exact add_flat _ _ _) H.b0 rfl),?_⟩
   refine ⟨_,(by exact Ce (by exact add_flat _ _ _) H.b0 rfl),?_⟩
   refine ⟨_,(by exact Ce (by exact add_flat _ _ _) H.b0 rfl),?_⟩
   refine ⟨rfl,?_⟩
   refine sPush3 H (bytes:=4) (by kernel_rfl) (Met.dat (e0,e1,e3)) (by rfl) (fun G h=>DeepL.ones [_,_,_]) (by rfl) (by unfold maxLen;omega) (by omega) ?_
   clear H;intro o3 ol3 oc3 r3 w ex3 _ H
   refine sSt1 H (by exact add_flat _ _ _) (by kernel_rfl) (by rfl) (by rfl) ?_;clear H;intro w _ H
   subst ex3
   refine ⟨m2 - 1,by omega,i+1,o3,oc3,r3,?_,by omega,?_⟩
   ·rw [wi64_of (by omega) (by omega)];simp
   ·rw [htk2,List.flatMap_append]
    simp only [List.flatMap_cons,List.flatMap_nil,List.append_nil]
    exact H.sub (List.sublist_cons_self _ _) (fun r h=>List.mem_cons_of_mem _ h)
  ·rw [decide_eq_false_iff_not] at hc
   obtain rfl:i=ms.length:=by omega
   rw [List.take_length] at H
   replace H:=H.r2.freeze
   refine ⟨_,_,_,_,_,(by exact Ld0 rfl H.b0 (by kernel_rfl)),?_⟩
   refine ⟨rfl,?_⟩
   refine sPush2 H (bytes:=32) (by kernel_rfl) (Blo.dat (d0,d1,ms)) (by rfl) (fun G h=>DeepL.cons (.one _) (DeepL.cons (.one _) (DeepL.cons (h (.deep [_] [_]) List.mem_cons_self).head (DeepL.nil _ _)))) (by rfl) (by unfold maxLen;omega) (by omega) ?_
   clear H;intro o3 ol3 oc3 r3 w ex3 _ H
   subst ex3
   refine ⟨m - 1,by omega,ol+1,r3,?_,by omega,rfl,?_⟩
   ·rw [wi64_of (by omega) (by omega)];simp
   ·rw [htk,List.flatMap_append]
    simp only [List.flatMap_cons,List.flatMap_nil,List.append_nil]
    exact H.sub (by exact (List.sublist_cons_self _ _).trans (List.sublist_cons_self _ _)) (fun r h=>by simp [h])
 ·rw [decide_eq_false_iff_not] at hc
  obtain rfl:ol=L.length:=by omega
  rw [List.take_length] at H
  exact ⟨o,oc,rfl,H.freeze⟩
theorem c97 {F:Fr} {w:World} {ex:List Ex} {ro:List Ro} {L:List Chk} {l:Option Addr} {c:Nat} (H:Sat F w ex ro) (hl:Ro.deep [.row 2 (L.flatMap Chk.dat)] [.slice l L.length c]∈ro) (hn:L.length<=1000000) (hn2:∀B∈L,B.2.length<=1000000) :
  Calls pg 97 #[.slice l L.length c] w fun en w'=>∃b,en=.returned (.pointer (some ⟨b,0,none⟩))/\Sat F w' ex (.deep [.ptr [.row 2 (L.flatMap Chk.dat)]] [.pointer (some ⟨b,0,none⟩)]::ro):=by
 apply of97
 refine sNew H ?_;clear H;intro b1 w _ H
 refine ⟨fun x m w=>∃(ol:Nat) (o:Option Addr) (oc:Nat) (r:Option Nat),x=(ol:Int)/\ol+m=L.length/\Sat F w (.blk b1 252 [.slice o ol oc]::.own 255 2 o ol oc r ((L.take ol).flatMap Chk.dat)::ex) ro,⟨L.length,0,none,0,none,rfl,by omega,(H.nilOwn 255 2).u1⟩,?_⟩
 clear H;rintro dd2 x m w ⟨ol,o,oc,r,rfl,hjm,H⟩
 refine ⟨fun hc=>?_,fun hc=>?_⟩
 ·rw [decide_eq_true_eq] at hc
  have hjl:ol < L.length:=by omega
  obtain ⟨p,us,e,hus,hcell,H1⟩:=H.eltF Chk.dat_len' (by decide) hl (j:=ol) hjl
  have htk:L.take (ol+1)=L.take ol++[L[ol]]:=by rw [List.take_add_one,List.getElem?_eq_getElem hjl];rfl
  have hDm:=hn2 L[ol] (List.getElem_mem hjl)
  clear H
  generalize L[ol]=D at H1 htk hDm
  obtain ⟨d0,ms⟩:=D
  replace hDm:ms.length<=1000000:=hDm
  refine ⟨p,e,by omega,by omega,?_⟩
  obtain ⟨x0,us0,rfl,H2⟩:=H1.uncons List.mem_cons_self
  obtain ⟨x1,us1,rfl,H3⟩:=H2.uncons (List.mem_cons_of_mem _ List.mem_cons_self)
  obtain rfl:us1=[]:=by simpa using hus
  obtain rfl:=H2.one1 List.mem_cons_self
  obtain ⟨sa,sn,sc,rfl,hsl⟩:=H3.rowS List.mem_cons_self
  rw [flat_len Itm.dat_len] at hsl
  obtain rfl:sn=ms.length:=by omega
  refine ⟨_,_,_,_,LdC [.int .u32 d0,.slice sa ms.length sc] (by kernel_rfl) (by rw [show (ol:Int).toNat*2=ol*2 by omega];exact hcell),?_⟩
  have H:Sat F w _ (.deep [.row 2 (ms.flatMap Itm.dat)] [.slice sa ms.length sc]::ro):=H3.sub (List.Sublist.refl _) (fun r h=>by
   rcases List.mem_cons.1 h with rfl | h
   ·exact List.mem_cons_self
   ·exact List.mem_cons_of_mem _ (List.mem_cons_of_mem _ (List.mem_cons_of_mem _ (List.mem_cons_of_mem _ (List.mem_cons_of_mem _ h)))))
  clear H1 H2 H3 hcell
  refine sNew H ?_;clear H;intro b13 w _ H
  refine sSw0 H rfl (by kernel_rfl) (by rfl) (by rfl) ?_;clear H;intro w _ H
  refine ⟨_,(by exact Ce (by exact add_flat _ _ _) H.b0 rfl),?_⟩
  refine sNew H ?_;clear H;intro b18 w _ H
  refine sSw0 H rfl (by kernel_rfl) (by rfl) (by rfl) ?_;clear H;intro w _ H
  refine ⟨_,_,_,(by exact Ce (by exact add_flat _ _ _) H.b1 rfl),?_⟩
  refine ⟨fun x m2 w=>∃(i:Nat) (o2:Option Addr) (oc2:Nat) (r2:Option Nat),x=(i:Int)/\i+m2=ms.length /\
    Sat F w (.blk b18 255 [.int .u32 d0,.slice o2 i oc2]::.blk b13 169 [.int .u32 d0,.slice sa ms.length sc]::.own 258 2 o2 i oc2 r2 ((ms.take i).flatMap Itm.dat)::.blk b1 252 [.slice o ol oc]::.own 255 2 o ol oc r ((L.take ol).flatMap Chk.dat)::ex)
     (.deep [.row 2 (ms.flatMap Itm.dat)] [.slice sa ms.length sc]::ro),
   ⟨ms.length,0,none,0,none,rfl,by omega,(H.nilOwn 258 2).u2⟩,?_⟩
  clear H;rintro dd23 x m2 w ⟨i,o2,oc2,r2,rfl,him,H⟩
  refine ⟨fun hc=>?_,fun hc=>?_⟩
  ·rw [decide_eq_true_eq] at hc
   have hil:i < ms.length:=by omega
   obtain ⟨p2,us,e2,hus2,hcell,H1⟩:=H.eltF Itm.dat_len (by decide) List.mem_cons_self (j:=i) hil
   have htk2:ms.take (i+1)=ms.take i++[ms[i]]:=by rw [List.take_add_one,List.getElem?_eq_getElem hil];rfl
   clear H
   generalize ms[i]=E at H1 htk2
   obtain ⟨e0,e1⟩:=E
   refine ⟨p2,e2,by omega,by omega,?_⟩
   obtain rfl:=H1.ones (us:=[.int .u8 e0,.string e1]) List.mem_cons_self
   refine ⟨_,_,LdC [.int .u8 e0,.string e1] (by kernel_rfl) (by rw [show (i:Int).toNat*2=i*2 by omega];exact hcell),?_⟩
   have H:=H1
   clear H1 hcell
   refine sNew H ?_;clear H;intro b33 w _ H
   refine sSw0 H rfl (by kernel_rfl) (by rfl) (by rfl) ?_;clear H;intro w _ H
   refine ⟨_,_,_,(by exact Ce (by exact add_flat _ _ _) H.b1 rfl),?_⟩
   refine ⟨_,(by exact Ce (by exact add_flat _ _ _) H.b0 rfl),?_⟩
   refine ⟨_,(by exact Ce (by exact add_flat _ _ _) H.b0 rfl),?_⟩
   refine ⟨rfl,?_⟩
   refine sPush3 H (bytes:=24) (by kernel_rfl) (Itm.dat (e0,e1)) (by rfl) (fun G h=>DeepL.ones [_,_]) (by rfl) (by unfold maxLen;omega) (by omega) ?_
   clear H;intro o3 ol3 oc3 r3 w ex3 _ H
   refine sSt1 H (by exact add_flat _ _ _) (by kernel_rfl) (by rfl) (by rfl) ?_;clear H;intro w _ H
   subst ex3
   refine ⟨m2 - 1,by omega,i+1,o3,oc3,r3,?_,by omega,?_⟩
   ·rw [wi64_of (by omega) (by omega)];simp
   ·rw [htk2,List.flatMap_append]
    simp only [List.flatMap_cons,List.flatMap_nil,List.append_nil]
    exact H.sub (List.sublist_cons_self _ _) (fun r h=>List.mem_cons_of_mem _ h)
  ·rw [decide_eq_false_iff_not] at hc
   obtain rfl:i=ms.length:=by omega
   rw [List.take_length] at H
   replace H:=H.r2.freeze
   replace H:=H.r1.sub (List.sublist_cons_self _ _) (fun _ h=>h)
   refine ⟨r,?_⟩;replace H:=H.drew;generalize w.drew=wd1 at H ⊢;have K:=grew_refl wd1 (r)
   refine ⟨_,rfl,?_⟩
   refine ⟨(by exact H.ne (by (apply List.mem_cons_of_mem;exact List.mem_cons_self)) (by (apply List.mem_cons_of_mem;(apply List.mem_cons_of_mem;exact List.mem_cons_self)))),?_⟩
   refine ⟨(by exact H.b1.row),?_⟩
   refine ⟨_,_,_,(by exact Ce (by exact add_flat _ _ _) H.b1 rfl),?_⟩
   refine ⟨(by exact H.ne (by exact List.mem_cons_self) (by (apply List.mem_cons_of_mem;(apply List.mem_cons_of_mem;exact List.mem_cons_self)))),?_⟩
   refine ⟨(by exact H.b0.row),?_⟩
   refine ⟨_,_,_,_,(by exact Ld0 rfl H.b0 (by kernel_rfl)),?_⟩
   refine ⟨rfl,?_⟩
   refine sNew H ?_;clear H;intro b47 w g H;replace K:=World.grownBy.trans K (grew_none _ g);clear g
   refine ⟨K,?_⟩
   refine sApp3 H (bytes:=32) (by kernel_rfl) [.int .u32 d0,.slice o2 ms.length oc2] (Chk.dat (d0,ms)) (by rfl) (fun j u hu=>by rw [add_flat,Nat.zero_add];exact H.b0.cell hu) (fun G h=>DeepL.cons (.one _) (DeepL.cons (h (.deep [_] [_]) List.mem_cons_self).head (DeepL.nil _ _))) (by simp [Value.oneCell']) (by unfold maxLen;omega) (by omega) ?_
   clear H;intro o3 ol3 oc3 r3 w ex3 g H
   replace K:=World.grownBy.trans K g;clear g;replace H:=H.sub (List.sublist_cons_self _ _) (fun _ h=>h)
   refine ⟨K,?_⟩
   refine ⟨_,rfl,?_⟩
   refine sSt1 H (by exact add_flat _ _ _) (by kernel_rfl) (by rfl) (by rfl) ?_;clear H;intro w _ H
   subst ex3
   refine ⟨m - 1,by omega,ol+1,o3,oc3,r3,?_,by omega,?_⟩
   ·rw [wi64_of (by omega) (by omega)];simp
   ·rw [htk,List.flatMap_append]
    simp only [List.flatMap_cons,List.flatMap_nil,List.append_nil]
    exact H.sub (List.sublist_cons_self _ _) (fun r h=>by simp [h])
 ·rw [decide_eq_false_iff_not] at hc
  obtain rfl:ol=L.length:=by omega
  rw [List.take_length] at H
  refine ⟨b1,rfl,?_⟩
  exact (H.r1.freeze.blkPtr [.row 2 (L.flatMap Chk.dat)] (fun G h=>by repeat (first | exact DeepL.nil _ _ | refine DeepL.cons (h (.deep [_] [_]) (by exact List.mem_cons_self)).head ?_))).sub (List.Sublist.refl _) (fun r h=>by rcases List.mem_cons.1 h with rfl | h;exact List.mem_cons_self;simp [h])
def isz:List Itm->Nat
 | []=>0
 | i::r=>1+i.2.size+isz r
def csz:List Chk->Nat
 | []=>0
 | c::r=>1+isz c.2+csz r
def bsz:List Blo->Nat
 | []=>0
 | b::r=>1+b.2.2.length+bsz r
def ssz:List Sta->Nat
 | []=>0
 | s::r=>1+s.2.2.2.2.length+ssz r
def Pk.size (p:Pk):Nat:=p.reports.length+p.ext.length+csz p.chunks+p.sources.length+p.text.size+p.data.length+p.pairs.length+p.slices.length+p.entries.length+bsz p.blocks+ssz p.statuses+p.deltas.length
def trim (p:Pk):Pk:=
 if p.kind=1 then { kind:=1,sender:=p.sender,ntp:=p.ntp,rtp:=p.rtp,packets:=p.packets,octets:=p.octets,reports:=p.reports,ext:=p.ext } else
 if p.kind=2 then { kind:=2,sender:=p.sender,reports:=p.reports,ext:=p.ext } else
 if p.kind=3 then { kind:=3,chunks:=p.chunks } else
 if p.kind=4 then { kind:=4,sources:=p.sources,text:=p.text } else
 if p.kind=5 then { kind:=5,sender:=p.sender,text:=p.text,sub:=p.sub,data:=p.data } else
 if p.kind=6 then { kind:=6,sender:=p.sender,media:=p.media,pairs:=p.pairs } else
 if p.kind=8 then { kind:=8,sender:=p.sender,blocks:=p.blocks,time:=p.time } else
 if p.kind=10 then { kind:=10,sender:=p.sender,media:=p.media,slices:=p.slices } else
 if p.kind=11 then { kind:=11,sender:=p.sender,media:=p.media,entries:=p.entries } else
 if p.kind=12 then { kind:=12,sender:=p.sender,bits:=p.bits,sources:=p.sources } else
 if p.kind=13 then { kind:=13,sender:=p.sender,media:=p.media,base:=p.base,count:=p.count,ref:=p.ref,fb:=p.fb,statuses:=p.statuses,deltas:=p.deltas,hp:=p.hp,hc:=p.hc,ht:=p.ht,hl:=p.hl } else
 if p.kind=0 then { data:=p.data } else
 { kind:=p.kind,sender:=p.sender,media:=p.media }
theorem isz_len:∀l:List Itm,l.length<=isz l
 | []=>Nat.le_refl _
 | i::r=>by have:=isz_len r;simp only [isz,List.length_cons];omega
theorem csz_len:∀l:List Chk,l.length<=csz l
 | []=>Nat.le_refl _
 | i::r=>by have:=csz_len r;simp only [csz,List.length_cons];omega
theorem bsz_len:∀l:List Blo,l.length<=bsz l
 | []=>Nat.le_refl _
 | i::r=>by have:=bsz_len r;simp only [bsz,List.length_cons];omega
theorem csz_mem:∀(l:List Chk) (B:Chk),B∈l->B.2.length<=csz l
 | c::r,B,h=>by
  simp only [csz]
  rcases List.mem_cons.1 h with rfl | h
  ·have:=isz_len B.2;omega
  ·have:=csz_mem r B h;omega
theorem bsz_mem:∀(l:List Blo) (B:Blo),B∈l->B.2.2.length<=bsz l
 | c::r,B,h=>by
  simp only [bsz]
  rcases List.mem_cons.1 h with rfl | h
  ·omega
  ·have:=bsz_mem r B h;omega
structure Gd (p:Pk) (n:Nat):Prop where
 lo:0<=p.kind
 hi:p.kind<=12
 trim:trim p=p
 sz:p.size<=2*n
 bits:p.bits=(p.bits.toNat:Int)
theorem reps_lenZ:∀(k:Nat) (ys:List Int),(reps k ys).length=k
 | 0,_=>rfl
 | k+1,ys=>by rw [reps,List.length_cons,reps_lenZ k]
theorem items_sz (xs:List Int):∀(f i:Nat) (l:List Itm) (j:Nat),items xs f i=some (l,j)->isz l+i+1<=j/\j<=xs.length
 | 0,_,_,_,h=>by simp [items] at h
 | f+1,i,l,j,h=>by
  unfold items at h
  split at h
  ·cases h
  split at h
  ·cases h;simp only [isz];omega
  split at h
  ·cases h
  split at h
  ·cases h
  cases hq:items xs f (i+2+(xs.getD (i+1) 0).toNat) with
  | none=>rw [hq] at h;cases h
  | some q=>
   obtain ⟨l2,j2⟩:=q
   rw [hq] at h
   simp only [Option.map_some,Option.some.injEq,Prod.mk.injEq] at h
   obtain ⟨rfl,rfl⟩:=h
   have ih:=items_sz xs f _ _ _ hq
   simp only [isz]
   rw [strOfNums_size,List.length_take,List.length_drop]
   omega
theorem zeros_ge (xs:List Int):∀(f i j:Nat),zeros xs f i=some j->i<=j
 | 0,i,j,h=>by
  unfold zeros at h
  split at h
  ·cases h;omega
  ·cases h
 | f+1,i,j,h=>by
  unfold zeros at h
  split at h
  ·cases h;omega
  split at h
  ·cases h
  split at h
  ·have:=zeros_ge xs f _ _ h;omega
  ·cases h
theorem chks_sz:∀(n:Nat) (xs:List Int) (l:List Chk),chks n xs=some l->csz l<=xs.length
 | 0,xs,l,h=>by
  unfold chks at h
  split at h
  ·cases h;exact Nat.zero_le _
  ·cases h
 | n+1,xs,l,h=>by
  unfold chks at h
  split at h
  ·cases h
  cases hi:items xs xs.length 4 with
  | none=>rw [hi] at h;cases h
  | some q=>
   obtain ⟨l0,i⟩:=q
   rw [hi] at h
   simp only at h
   have h1:=items_sz _ _ _ _ _ hi
   cases hz:zeros xs 3 i with
   | none=>rw [hz] at h;cases h
   | some j=>
    rw [hz] at h
    simp only at h
    have h2:=zeros_ge _ _ _ _ hz
    cases hr:chks n (xs.drop j) with
    | none=>rw [hr] at h;cases h
    | some r=>
     rw [hr] at h
     simp only [Option.map_some,Option.some.injEq] at h
     subst h
     have ih:=chks_sz n _ _ hr
     rw [List.length_drop] at ih
     simp only [csz]
     omega
theorem metsL_lenZ:∀(k:Nat) (xs:List Int) (l:List Met),metsL k xs=some l->l.length=k
 | 0,_,l,h=>by unfold metsL at h;cases h;rfl
 | k+1,xs,l,h=>by
  by_cases hc:n16 xs / 32768≠1/\n16 xs≠0
  ·rw [metsL_none hc] at h;cases h
  ·rw [metsL_some hc] at h
   cases hq:metsL k (xs.drop 2) with
   | none=>rw [hq] at h;cases h
   | some q=>
    rw [hq] at h
    simp only [Option.map_some,Option.some.injEq] at h
    subst h
    rw [List.length_cons,metsL_lenZ k _ _ hq]
theorem blocksL_sz:∀(f:Nat) (xs:List Int) (l:List Blo) (ys:List Int),blocksL f xs=some (l,ys)->bsz l<=xs.length
 | 0,_,_,_,h=>by simp [blocksL] at h
 | f+1,xs,l,ys,h=>by
  unfold blocksL at h
  simp only at h
  split at h
  ·cases h;exact Nat.zero_le _
  split at h
  ·cases h
  split at h
  ·cases h
  cases hm:metsL (n16 (xs.drop 6)).toNat (xs.drop 8) with
  | none=>rw [hm] at h;cases h
  | some ms=>
   rw [hm] at h
   simp only at h
   split at h
   ·cases h
   cases hq:blocksL f (xs.drop (8+2*((n16 (xs.drop 6)).toNat+(n16 (xs.drop 6)).toNat % 2))) with
   | none=>rw [hq] at h;cases h
   | some q=>
    obtain ⟨l2,y2⟩:=q
    rw [hq] at h
    simp only [Option.map_some,Option.some.injEq,Prod.mk.injEq] at h
    obtain ⟨rfl,rfl⟩:=h
    have h1:=metsL_lenZ _ _ _ hm
    have ih:=blocksL_sz f _ _ _ hq
    rw [List.length_drop] at ih
    simp only [bsz]
    omega
theorem entryL_sz:∀(n:Nat) (xs:List Int) (l:List Ent),entryL n xs=some l->l.length=n
 | 0,xs,l,h=>by
  unfold entryL at h
  split at h
  ·cases h;rfl
  ·cases h
 | n+1,xs,l,h=>by
  unfold entryL at h
  split at h
  ·cases h
  cases hq:entryL n (xs.drop 8) with
  | none=>rw [hq] at h;cases h
  | some q=>
   rw [hq] at h
   simp only [Option.map_some,Option.some.injEq] at h
   subst h
   rw [List.length_cons,entryL_sz n _ _ hq]
theorem noText:(⟨#[]⟩:ByteArray).size=0:=rfl
theorem rdT_kind {s m:Int} {hp:Bool} {hc ht hl:Int} {xs:List Int} {p:Pk} (h:rdT s m hp hc ht hl xs=some p):p.kind=13:=by
 unfold rdT at h
 split at h
 ·cases h
 split at h
 ·cases h
 split at h
 ·cases h
 split at h
 ·cases h
 split at h
 ·cases h
 split at h
 ·cases h;rfl
 ·cases h
theorem Gd.mk0 {p:Pk} {n:Nat} (lo:0<=p.kind) (hi:p.kind<=12) (ht:Go.Proofs.YtkdialecadjedaaGreatDoor.trim p=p) (hs:p.size<=2*n) (hb:p.bits=(p.bits.toNat:Int)) (_:p.statuses=[]) (_:p.deltas=[]):Gd p n:=
 ⟨lo,hi,ht,hs,hb⟩
theorem body_Gd {xs:List Int} {p:Pk} (hk13:p.kind≠13) (h:rdBody xs=some p):Gd p xs.length:=by
 unfold rdBody at h
 simp only at h
 generalize kindOf (hT xs) (hC xs)=k at h
 split at h
 ·split at h
  ·cases h
  ·cases h
   refine Gd.mk0 (by simp) (by simp) (by simp [trim]) ?_ (by simp) rfl rfl
   simp only [Pk.size,csz,bsz,ssz,List.length_nil,reps_lenZ,noText]
   simp only [List.length_drop] at *
   omega
 split at h
 ·split at h
  ·cases h
  ·cases h
   refine Gd.mk0 (by simp) (by simp) (by simp [trim]) ?_ (by simp) rfl rfl
   simp only [Pk.size,csz,bsz,ssz,List.length_nil,reps_lenZ,noText]
   simp only [List.length_drop] at *
   omega
 split at h
 ·cases hq:chks (hC xs).toNat (xs.drop 4) with
  | none=>rw [hq] at h;cases h
  | some l=>
   rw [hq] at h
   simp only [Option.map_some,Option.some.injEq] at h
   subst h
   have:=chks_sz _ _ _ hq
   refine Gd.mk0 (by simp) (by simp) (by simp [trim]) ?_ (by simp) rfl rfl
   simp only [Pk.size,csz,bsz,ssz,List.length_nil,noText]
   rw [List.length_drop] at this
   omega
 split at h
 ·unfold rdBye at h
  simp only at h
  split at h
  ·cases h
  split at h
  ·cases h
   refine Gd.mk0 (by simp) (by simp) (by simp [trim]) ?_ (by simp) rfl rfl
   simp only [Pk.size,csz,bsz,ssz,List.length_nil,words_len,noText]
   simp only [List.length_drop] at *
   omega
  split at h
  ·cases h
  split at h
  ·cases h
  split at h
  ·cases h
  split at h
  ·cases h
   refine Gd.mk0 (by simp) (by simp) (by simp [trim]) ?_ (by simp) rfl rfl
   simp only [Pk.size,csz,bsz,ssz,List.length_nil,words_len]
   rw [strOfNums_size,List.length_take,List.length_drop]
   simp only [List.length_drop] at *
   omega
  ·cases h
 split at h
 ·split at h
  ·cases h
  ·cases h
   refine Gd.mk0 (by simp) (by simp) (by simp [trim]) ?_ (by simp) rfl rfl
   simp only [Pk.size,csz,bsz,ssz,List.length_nil]
   rw [strOfNums_size,List.length_take]
   simp only [List.length_drop] at *
   omega
 split at h
 ·cases h
 rename_i hlen
 rw [List.length_drop] at hlen
 unfold rdFb at h
 simp only at h
 split at h
 ·rename_i hk
  split at h
  ·cases h
   refine Gd.mk0 (by simp only;omega) (by simp only;omega) ?_ ?_ (by simp) rfl rfl
   ·rcases hk with rfl | rfl<;>simp [trim]
   ·simp only [Pk.size,csz,bsz,ssz,List.length_nil,noText];omega
  ·cases h
 split at h
 ·split at h
  ·cases h
  ·cases h
   refine Gd.mk0 (by simp) (by simp) (by simp [trim]) ?_ (by simp) rfl rfl
   simp only [Pk.size,csz,bsz,ssz,List.length_nil,pairsL_length,noText]
   simp only [List.length_drop] at *
   omega
 split at h
 ·split at h
  ·cases h
  ·cases h
   refine Gd.mk0 (by simp) (by simp) (by simp [trim]) ?_ (by simp) rfl rfl
   simp only [Pk.size,csz,bsz,ssz,List.length_nil,sliceL_length,noText]
   simp only [List.length_drop] at *
   omega
 split at h
 ·cases hq:entryL (((xs.drop 4).drop 8).length / 8) ((xs.drop 4).drop 8) with
  | none=>rw [hq] at h;cases h
  | some l=>
   rw [hq] at h
   simp only at h
   have:=entryL_sz _ _ _ hq
   split at h
   ·cases h
   ·cases h
    refine Gd.mk0 (by simp) (by simp) (by simp [trim]) ?_ (by simp) rfl rfl
    simp only [Pk.size,csz,bsz,ssz,List.length_nil,noText]
    simp only [List.length_drop] at *
    omega
 split at h
 ·unfold rdRemb at h
  split at h
  ·cases h
  split at h
  ·cases h
  split at h
  ·cases h
  split at h
  ·cases h
  split at h
  ·cases h
  cases h
  refine Gd.mk0 (by simp) (by simp) (by simp [trim]) ?_ (by simp) rfl rfl
  simp only [Pk.size,csz,bsz,ssz,List.length_nil,words_len,noText]
  simp only [List.length_drop] at *
  omega
 split at h
 ·unfold rdCc at h
  cases hq:blocksL ((xs.drop 4).drop 4).length ((xs.drop 4).drop 4) with
  | none=>rw [hq] at h;cases h
  | some q=>
   obtain ⟨l,ys⟩:=q
   rw [hq] at h
   simp only at h
   have:=blocksL_sz _ _ _ _ hq
   split at h
   ·cases h
    refine Gd.mk0 (by simp) (by simp) (by simp [trim]) ?_ (by simp) rfl rfl
    simp only [Pk.size,csz,bsz,ssz,List.length_nil,noText]
    simp only [List.length_drop] at *
    omega
   ·cases h
 ·exact absurd (rdT_kind h) hk13
theorem go_Gd {xs:List Int} {p:Pk} (h:go xs=some p) (hk:p.kind≠13):Gd p xs.length:=by
 have hgo:=h
 unfold go at h
 split at h
 ·rename_i h0
  have hok:hdrOk xs=true:=by
   cases hh:hdrOk xs with
   | true=>rfl
   | false=>unfold rdOne at h0;rw [if_pos hh] at h0;exact absurd h0 (by decide)
  have hlen:4*(hL xs+1)=(xs.length:Int):=by
   by_cases hl:4*(hL xs+1)=(xs.length:Int)
   ·exact hl
   ·unfold rdOne at h0;rw [if_neg (by rw [hok];decide),if_pos hl] at h0;exact absurd h0 (by decide)
  have hd:Hd xs (hT xs) (hC xs):=⟨hok,hlen,rfl,rfl⟩
  by_cases hk0:kindOf (hT xs) (hC xs)=0
  ·have hr:=go_raw hd hk0
   rw [hgo] at hr
   split at hr
   ·cases hr
   ·cases hr
    refine Gd.mk0 (by simp) (by simp) (by simp [Go.Proofs.YtkdialecadjedaaGreatDoor.trim]) ?_ (by simp) rfl rfl
    simp only [Pk.size,csz,bsz,ssz,List.length_nil,noText]
    omega
  ·have hr:=go_gd hd hk0
   rw [hgo] at hr
   obtain ⟨_,hr⟩:=gd_some hr.symm
   cases h
   exact body_Gd hk hr
 ·cases h
theorem Par.dat_lenK (x:Par):(Par.dat x).length=2:=rfl
theorem Sli.dat_lenK (x:Sli):(Sli.dat x).length=3:=rfl
theorem Ent.dat_lenK (x:Ent):(Ent.dat x).length=2:=rfl
theorem Sta.dat_lenK (x:Sta):(Sta.dat x).length=5:=rfl
theorem Del.dat_lenK (x:Del):(Del.dat x).length=2:=rfl
theorem DeepL.consInv {w:World} {G:Nat->Prop} {d:Dat} {ds:List Dat} {vs:List Value} (h:DeepL w G (d::ds) vs):∃v us,vs=v::us/\Deep w G d v/\DeepL w G ds us:=by
 cases vs with
 | nil=>have:=h.1;simp at this
 | cons v us=>exact ⟨v,us,rfl,h.head,h.tail⟩
theorem DeepL.nilInv {w:World} {G:Nat->Prop} {vs:List Value} (h:DeepL w G [] vs):vs=[]:=by
 cases vs with
 | nil=>rfl
 | cons v us=>have:=h.1;simp at this
theorem Deep.oneInv {w:World} {G:Nat->Prop} {u v:Value} (h:Deep w G (.one u) v):v=u:=by cases h;rfl
theorem Deep.rowInv {w:World} {G:Nat->Prop} {sz:Nat} {ds:List Dat} {v:Value} (h:Deep w G (.row sz ds) v):∃a n c,v=.slice a n c/\ds.length=n*sz:=by
 have hl:∀a n c,v=.slice a n c->ds.length=n*sz:=by rintro a n c rfl;exact h.len.1
 cases h with
 | emp=>exact ⟨_,_,_,rfl,by simp⟩
 | row _ b o n c _ vs=>exact ⟨_,_,_,rfl,hl _ _ _ rfl⟩
def pkC (p:Pk) (a7 a8 a9 a10 a13 a14 a15 a16 a18 a24 a25:Option Addr) (c7 c8 c9 c10 c13 c14 c15 c16 c18 c24 c25:Nat):List Value:=
 [.int .i64 p.kind,.int .u32 p.sender,.int .u32 p.media,.int .u64 p.ntp,.int .u32 p.rtp,.int .u32 p.packets,.int .u32 p.octets,.slice a7 p.reports.length c7,.slice a8 p.ext.length c8,.slice a9 p.chunks.length c9,.slice a10 p.sources.length c10,.string p.text,.int .u8 p.sub,.slice a13 p.data.length c13,.slice a14 p.pairs.length c14,.slice a15 p.slices.length c15,.slice a16 p.entries.length c16,.int .u32 p.bits,.slice a18 p.blocks.length c18,.int .u32 p.time,.int .u16 p.base,.int .u16 p.count,.int .u32 p.ref,.int .u8 p.fb,.slice a24 p.statuses.length c24,.slice a25 p.deltas.length c25,.bool p.hp,.int .u8 p.hc,.int .u8 p.ht,.int .u16 p.hl]
def pkR (p:Pk) (a7 a8 a9 a10 a13 a14 a15 a16 a18 a24 a25:Option Addr) (c7 c8 c9 c10 c13 c14 c15 c16 c18 c24 c25:Nat):List Ro:=
 [.deep [.row 7 (p.reports.flatMap Rep.dat)] [.slice a7 p.reports.length c7],.deep [.row 1 (ob p.ext)] [.slice a8 p.ext.length c8],.deep [.row 2 (p.chunks.flatMap Chk.dat)] [.slice a9 p.chunks.length c9],.deep [.row 1 (oi .u32 p.sources)] [.slice a10 p.sources.length c10],.deep [.row 1 (ob p.data)] [.slice a13 p.data.length c13],.deep [.row 2 (p.pairs.flatMap Par.dat)] [.slice a14 p.pairs.length c14],.deep [.row 3 (p.slices.flatMap Sli.dat)] [.slice a15 p.slices.length c15],.deep [.row 2 (p.entries.flatMap Ent.dat)] [.slice a16 p.entries.length c16],.deep [.row 3 (p.blocks.flatMap Blo.dat)] [.slice a18 p.blocks.length c18],.deep [.row 5 (p.statuses.flatMap Sta.dat)] [.slice a24 p.statuses.length c24],.deep [.row 2 (p.deltas.flatMap Del.dat)] [.slice a25 p.deltas.length c25]]
theorem Sat.pk {F:Fr} {w:World} {ex:List Ex} {ro:List Ro} {p:Pk} {cells:List Value} (H:Sat F w ex ro) (h:Ro.deep p.dat cells∈ro) :
  ∃a7 a8 a9 a10 a13 a14 a15 a16 a18 a24 a25 c7 c8 c9 c10 c13 c14 c15 c16 c18 c24 c25,cells=pkC p a7 a8 a9 a10 a13 a14 a15 a16 a18 a24 a25 c7 c8 c9 c10 c13 c14 c15 c16 c18 c24 c25/\Sat F w ex (pkR p a7 a8 a9 a10 a13 a14 a15 a16 a18 a24 a25 c7 c8 c9 c10 c13 c14 c15 c16 c18 c24 c25++ro):=by
 have D:=H.deep h
 unfold Pk.dat at D
 obtain ⟨v0,us0,rfl,d0,D⟩:=D.consInv
 obtain ⟨v1,us1,rfl,d1,D⟩:=D.consInv
 obtain ⟨v2,us2,rfl,d2,D⟩:=D.consInv
 obtain ⟨v3,us3,rfl,d3,D⟩:=D.consInv
 obtain ⟨v4,us4,rfl,d4,D⟩:=D.consInv
 obtain ⟨v5,us5,rfl,d5,D⟩:=D.consInv
 obtain ⟨v6,us6,rfl,d6,D⟩:=D.consInv
 obtain ⟨v7,us7,rfl,d7,D⟩:=D.consInv
 obtain ⟨v8,us8,rfl,d8,D⟩:=D.consInv
 obtain ⟨v9,us9,rfl,d9,D⟩:=D.consInv
 obtain ⟨v10,us10,rfl,d10,D⟩:=D.consInv
 obtain ⟨v11,us11,rfl,d11,D⟩:=D.consInv
 obtain ⟨v12,us12,rfl,d12,D⟩:=D.consInv
 obtain ⟨v13,us13,rfl,d13,D⟩:=D.consInv
 obtain ⟨v14,us14,rfl,d14,D⟩:=D.consInv
 obtain ⟨v15,us15,rfl,d15,D⟩:=D.consInv
 obtain ⟨v16,us16,rfl,d16,D⟩:=D.consInv
 obtain ⟨v17,us17,rfl,d17,D⟩:=D.consInv
 obtain ⟨v18,us18,rfl,d18,D⟩:=D.consInv
 obtain ⟨v19,us19,rfl,d19,D⟩:=D.consInv
 obtain ⟨v20,us20,rfl,d20,D⟩:=D.consInv
 obtain ⟨v21,us21,rfl,d21,D⟩:=D.consInv
 obtain ⟨v22,us22,rfl,d22,D⟩:=D.consInv
 obtain ⟨v23,us23,rfl,d23,D⟩:=D.consInv
 obtain ⟨v24,us24,rfl,d24,D⟩:=D.consInv
 obtain ⟨v25,us25,rfl,d25,D⟩:=D.consInv
 obtain ⟨v26,us26,rfl,d26,D⟩:=D.consInv
 obtain ⟨v27,us27,rfl,d27,D⟩:=D.consInv
 obtain ⟨v28,us28,rfl,d28,D⟩:=D.consInv
 obtain ⟨v29,us29,rfl,d29,D⟩:=D.consInv
 obtain rfl:=D.nilInv
 obtain rfl:=d0.oneInv
 obtain rfl:=d1.oneInv
 obtain rfl:=d2.oneInv
 obtain rfl:=d3.oneInv
 obtain rfl:=d4.oneInv
 obtain rfl:=d5.oneInv
 obtain rfl:=d6.oneInv
 obtain ⟨a7,n7,c7,rfl,e7⟩:=d7.rowInv
 rw [flat_len Rep.dat_len'] at e7
 obtain rfl:n7=p.reports.length:=by omega
 obtain ⟨a8,n8,c8,rfl,e8⟩:=d8.rowInv
 rw [ob_length] at e8
 obtain rfl:n8=p.ext.length:=by omega
 obtain ⟨a9,n9,c9,rfl,e9⟩:=d9.rowInv
 rw [flat_len Chk.dat_len'] at e9
 obtain rfl:n9=p.chunks.length:=by omega
 obtain ⟨a10,n10,c10,rfl,e10⟩:=d10.rowInv
 rw [oi_length] at e10
 obtain rfl:n10=p.sources.length:=by omega
 obtain rfl:=d11.oneInv
 obtain rfl:=d12.oneInv
 obtain ⟨a13,n13,c13,rfl,e13⟩:=d13.rowInv
 rw [ob_length] at e13
 obtain rfl:n13=p.data.length:=by omega
 obtain ⟨a14,n14,c14,rfl,e14⟩:=d14.rowInv
 rw [flat_len Par.dat_lenK] at e14
 obtain rfl:n14=p.pairs.length:=by omega
 obtain ⟨a15,n15,c15,rfl,e15⟩:=d15.rowInv
 rw [flat_len Sli.dat_lenK] at e15
 obtain rfl:n15=p.slices.length:=by omega
 obtain ⟨a16,n16,c16,rfl,e16⟩:=d16.rowInv
 rw [flat_len Ent.dat_lenK] at e16
 obtain rfl:n16=p.entries.length:=by omega
 obtain rfl:=d17.oneInv
 obtain ⟨a18,n18,c18,rfl,e18⟩:=d18.rowInv
 rw [flat_len Blo.dat_len'] at e18
 obtain rfl:n18=p.blocks.length:=by omega
 obtain rfl:=d19.oneInv
 obtain rfl:=d20.oneInv
 obtain rfl:=d21.oneInv
 obtain rfl:=d22.oneInv
 obtain rfl:=d23.oneInv
 obtain ⟨a24,n24,c24,rfl,e24⟩:=d24.rowInv
 rw [flat_len Sta.dat_lenK] at e24
 obtain rfl:n24=p.statuses.length:=by omega
 obtain ⟨a25,n25,c25,rfl,e25⟩:=d25.rowInv
 rw [flat_len Del.dat_lenK] at e25
 obtain rfl:n25=p.deltas.length:=by omega
 obtain rfl:=d26.oneInv
 obtain rfl:=d27.oneInv
 obtain rfl:=d28.oneInv
 obtain rfl:=d29.oneInv
 exact ⟨a7,a8,a9,a10,a13,a14,a15,a16,a18,a24,a25,c7,c8,c9,c10,c13,c14,c15,c16,c18,c24,c25,rfl,(Sat.addRo (r:=.deep [.row 7 (p.reports.flatMap Rep.dat)] [.slice a7 p.reports.length c7]) (Sat.addRo (r:=.deep [.row 1 (ob p.ext)] [.slice a8 p.ext.length c8]) (Sat.addRo (r:=.deep [.row 2 (p.chunks.flatMap Chk.dat)] [.slice a9 p.chunks.length c9]) (Sat.addRo (r:=.deep [.row 1 (oi .u32 p.sources)] [.slice a10 p.sources.length c10]) (Sat.addRo (r:=.deep [.row 1 (ob p.data)] [.slice a13 p.data.length c13]) (Sat.addRo (r:=.deep [.row 2 (p.pairs.flatMap Par.dat)] [.slice a14 p.pairs.length c14]) (Sat.addRo (r:=.deep [.row 3 (p.slices.flatMap Sli.dat)] [.slice a15 p.slices.length c15]) (Sat.addRo (r:=.deep [.row 2 (p.entries.flatMap Ent.dat)] [.slice a16 p.entries.length c16]) (Sat.addRo (r:=.deep [.row 3 (p.blocks.flatMap Blo.dat)] [.slice a18 p.blocks.length c18]) (Sat.addRo (r:=.deep [.row 5 (p.statuses.flatMap Sta.dat)] [.slice a24 p.statuses.length c24]) (Sat.addRo (r:=.deep [.row 2 (p.deltas.flatMap Del.dat)] [.slice a25 p.deltas.length c25]) H (dc d25 dn)) (dc d24 dn)) (dc d18 dn)) (dc d16 dn)) (dc d15 dn)) (dc d14 dn)) (dc d13 dn)) (dc d10 dn)) (dc d9 dn)) (dc d8 dn)) (dc d7 dn))⟩
/-! ### The text of spec.Key -/
def sbs (s:ByteArray):List Int:=s.data.toList.map fun c=>(c.toNat:Int)
theorem sbs_len (s:ByteArray):(sbs s).length=s.size:=by simp [sbs]
theorem flat_at {α:Type} {f:α->List Int} {L:List α} {j:Nat} (h:j < L.length):((L.take j).flatMap f).length+((f L[j]).length+((L.drop (j+1)).flatMap f).length)=(L.flatMap f).length:=by
 conv=>rhs;rw [<-List.take_append_drop j L,List.drop_eq_getElem_cons h]
 rw [List.flatMap_append,List.flatMap_cons,List.length_append,List.length_append]
theorem flat_bd {α:Type} {f:α->List Int} {k:Nat} (hk:∀x,(f x).length=k):∀L:List α,(L.flatMap f).length=k*L.length
 | []=>rfl
 | x::r=>by
  rw [List.flatMap_cons,List.length_append,hk,flat_bd hk r,List.length_cons]
  rw [Nat.mul_add];omega
theorem DeepL.i1 {w:World} {G:Nat->Prop} {u:Value} {ds:List Dat} {vs:List Value} (h:DeepL w G (.one u::ds) vs):∃us,vs=u::us/\DeepL w G ds us:=by
 obtain ⟨v,us,rfl,d,D⟩:=h.consInv
 obtain rfl:=d.oneInv
 exact ⟨us,rfl,D⟩
theorem Sat.rowC {F:Fr} {w:World} {ex:List Ex} {ro:List Ro} {b o:Nat} {v:Value} (H:Sat F w ex ro) (h:Ro.cell b o v∈ro):∃c ty f,w.heap[b]?=some (.cells c ty f):=by
 have hc:=(H.hr _ h).1
 unfold World.cell? at hc
 cases hb:w.heap[b]? with
 | none=>simp [hb] at hc
 | some x=>
  cases x with
  | cells c ty f=>exact ⟨c,ty,f,rfl⟩
  | _=>simp [hb] at hc
theorem Sat.ptrC {F:Fr} {w:World} {ex:List Ex} {ro:List Ro} {ds:List Dat} {v:Value} (H:Sat F w ex ro) (h:Ro.deep [.ptr ds] [v]∈ro) :
  ∃b vs ro1,v=.pointer (some ⟨b,0,none⟩)/\DeepL w (fun b=>b ∉ foots ex) ds vs/\(∀(i:Nat) (u:Value),vs[i]?=some u->Ro.cell b i u∈ro1) /\
   (∀(i:Nat) (d:Dat) (u:Value),ds[i]?=some d->vs[i]?=some u->Ro.deep [d] [u]∈ro1)/\(∀r∈ro,r∈ro1)/\Sat F w ex ro1:=by
 obtain ⟨b,vs,rfl,hcell,_,hnb,H1⟩:=H.ptr h
 have D:=H1.deep ms
 refine ⟨b,vs,vs.zipIdx.map (fun q=>Ro.cell b q.2 q.1)++((ds.zip vs).map (fun q=>Ro.deep [q.1] [q.2])++ro),rfl,D,fun i u hu=>?_,fun i d u hd hu=>?_,fun r hr=>?_,⟨H.gr,H.nd,H.lt,H.he,fun r hr=>?_⟩⟩
 ·refine List.mem_append_left _ (List.mem_map.2 ⟨(u,i),?_,rfl⟩)
  exact List.mem_iff_getElem?.2 ⟨i,by rw [List.getElem?_zipIdx,hu];simp⟩
 ·refine List.mem_append_right _ (List.mem_append_left _ (List.mem_map.2 ⟨(d,u),?_,rfl⟩))
  exact List.mem_iff_getElem?.2 ⟨i,by rw [List.getElem?_zip_eq_some];exact ⟨hd,hu⟩⟩
 ·exact List.mem_append_right _ (List.mem_append_right _ hr)
 ·rcases List.mem_append.1 hr with hr | hr
  ·obtain ⟨⟨u,i⟩,hq,rfl⟩:=List.mem_map.1 hr
   obtain ⟨k,hk⟩:=List.mem_iff_getElem?.1 hq
   rw [List.getElem?_zipIdx] at hk
   cases hv:vs[k]? with
   | none=>rw [hv] at hk;cases hk
   | some u'=>
    rw [hv] at hk
    simp only [Option.map_some,Option.some.injEq,Prod.mk.injEq,Nat.zero_add] at hk
    obtain ⟨rfl,rfl⟩:=hk
    exact ⟨hcell k u' hv,hnb⟩
  ·rcases List.mem_append.1 hr with hr | hr
   ·obtain ⟨⟨d,u⟩,hq,rfl⟩:=List.mem_map.1 hr
    obtain ⟨k,hk⟩:=List.mem_iff_getElem?.1 hq
    rw [List.getElem?_zip_eq_some] at hk
    exact dc (D.2 k d u hk.1 hk.2) dn
   ·exact H.hr r hr
def PlPost (F:Fr) (ex:List Ex) (ro:List Ro) (p:Pk) (en:Ending) (w':World):Prop:=
 ∃cells ro',en=.returned (.agg cells.toArray)/\(∀r∈ro,r∈ro')/\Sat F w' ex ro'/\Ro.deep (trim p).dat cells∈ro'
theorem PlPost.mk {F:Fr} {w:World} {exs ex:List Ex} {ro ro':List Ro} {p:Pk} {cells:List Value} (H:Sat F w exs ro') (hs:ex.Sublist exs) (hr:∀r∈ro,r∈ro')
  (hD:∀G:Nat->Prop,(∀r∈ro',Ro.holds w G r)->DeepL w G (trim p).dat cells):PlPost F ex ro p (.returned (.agg cells.toArray)) w:=
 ⟨cells,_,rfl,fun r h=>mt (hr r h),(H.addD hD).sub hs (fun _ h=>h),ms⟩
theorem Sat.pkF {F:Fr} {w:World} {ex:List Ex} {ro:List Ro} {p:Pk} {cells:List Value} (H:Sat F w ex ro) (h:Ro.deep p.dat cells∈ro) :
  ∃a7 a8 a9 a10 a13 a14 a15 a16 a18 a24 a25 c7 c8 c9 c10 c13 c14 c15 c16 c18 c24 c25 R,cells=pkC p a7 a8 a9 a10 a13 a14 a15 a16 a18 a24 a25 c7 c8 c9 c10 c13 c14 c15 c16 c18 c24 c25/\(∀r∈ro,r∈R)/\Sat F w ex R/\Ro.deep [.row 7 (p.reports.flatMap Rep.dat)] [.slice a7 p.reports.length c7]∈R/\Ro.deep [.row 1 (ob p.ext)] [.slice a8 p.ext.length c8]∈R/\Ro.deep [.row 2 (p.chunks.flatMap Chk.dat)] [.slice a9 p.chunks.length c9]∈R/\Ro.deep [.row 1 (oi .u32 p.sources)] [.slice a10 p.sources.length c10]∈R/\Ro.deep [.row 1 (ob p.data)] [.slice a13 p.data.length c13]∈R/\Ro.deep [.row 2 (p.pairs.flatMap Par.dat)] [.slice a14 p.pairs.length c14]∈R/\Ro.deep [.row 3 (p.slices.flatMap Sli.dat)] [.slice a15 p.slices.length c15]∈R/\Ro.deep [.row 2 (p.entries.flatMap Ent.dat)] [.slice a16 p.entries.length c16]∈R/\Ro.deep [.row 3 (p.blocks.flatMap Blo.dat)] [.slice a18 p.blocks.length c18]∈R/\Ro.deep [.row 5 (p.statuses.flatMap Sta.dat)] [.slice a24 p.statuses.length c24]∈R/\Ro.deep [.row 2 (p.deltas.flatMap Del.dat)] [.slice a25 p.deltas.length c25]∈R:=by
 obtain ⟨a7,a8,a9,a10,a13,a14,a15,a16,a18,a24,a25,c7,c8,c9,c10,c13,c14,c15,c16,c18,c24,c25,rfl,H1⟩:=H.pk h
 refine ⟨a7,a8,a9,a10,a13,a14,a15,a16,a18,a24,a25,c7,c8,c9,c10,c13,c14,c15,c16,c18,c24,c25,_,rfl,fun r h=>List.mem_append_right _ h,H1,?_⟩
 unfold pkR
 simp
def BuPost (F:Fr) (ex:List Ex) (ro:List Ro) (p:Pk) (en:Ending) (w':World):Prop:=
 ∃T v ro',en=.returned (.iface T v)/\(∀r∈ro,r∈ro')/\Sat F w' ex ro'/\Ro.deep [pkI p] [.iface T v]∈ro'
theorem BuPost.at {F:Fr} {w:World} {exs ex:List Ex} {ro ro':List Ro} {p:Pk} {T:TypeId} {v:Value} {ds:List Dat} (H:Sat F w exs ro') (hs:ex.Sublist exs) (hr:∀r∈ro,r∈ro') (hm:Ro.deep [.ptr ds] [v]∈ro') (hT:tyK p.kind=T) (hd:rtcpD p=ds) :
  BuPost F ex ro p (.returned (.iface T v)) w:=by
 subst hT hd
 refine ⟨_,_,_,rfl,fun r h=>mt (hr r h),(H.addD (ds:=[pkI p]) (vs:=[.iface (tyK p.kind) v]) (fun G h=>?_)).sub hs (fun _ h=>h),ms⟩
 exact dc (.ifc _ _ _ (h (.deep [_] [_]) hm).head) dn
theorem BuPost.mk {F:Fr} {w:World} {exs ex:List Ex} {ro ro':List Ro} {p:Pk} {T TT:TypeId} {b:Nat} {cells:List Value} {ds:List Dat} (H:Sat F w (.blk b TT cells::exs) ro') (hs:ex.Sublist exs) (hr:∀r∈ro,r∈ro') (hT:tyK p.kind=T) (hd:rtcpD p=ds)
  (hD:∀G:Nat->Prop,(∀r∈ro',Ro.holds w G r)->DeepL w G ds cells):BuPost F ex ro p (.returned (.iface T (.pointer (some ⟨b,0,none⟩)))) w:=
 BuPost.at (H.blkPtr ds hD) hs (fun r h=>mt (hr r h)) ms hT hd
theorem bu0 {F:Fr} {w:World} {ex:List Ex} {ro:List Ro} {p:Pk} {cells:List Value} (H:Sat F w ex ro) (hk:p.kind=0) (hp:Ro.deep p.dat cells∈ro) (hs:p.size<=500000):Calls pg 65 #[.agg cells.toArray] w (BuPost F ex ro p):=by
 have hD:rtcpD p=[.row 1 (ob p.data)]:=by unfold rtcpD;simp [hk]
 have hT:tyK p.kind=242:=by rw [hk];rfl
 unfold Pk.size at hs
 obtain ⟨a7,a8,a9,a10,a13,a14,a15,a16,a18,a24,a25,c7,c8,c9,c10,c13,c14,c15,c16,c18,c24,c25,R,rfl,hr,H,m7,m8,m9,m10,m13,m14,m15,m16,m18,m24,m25⟩:=H.pkF hp
 unfold pkC
 rw [hk]
 apply of65
 refine sNew H ?_;clear H;intro b1 w _ H
 refine ⟨_,(H.b0.at0 rfl),?_⟩
 refine fF ?_
 refine fF ?_
 refine fF ?_
 refine fF ?_
 refine fF ?_
 refine fF ?_
 refine fF ?_
 refine fF ?_
 refine fF ?_
 refine fF ?_
 refine fF ?_
 refine fF ?_
 refine fF ?_
 refine ⟨_,_,_,(H.b0.at0 rfl),?_⟩
 refine call_j (c37 (xs:=p.data) H m13 (by omega)) ?_
 clear H;rintro _ w ⟨o0,q0,rfl,_,H⟩
 refine ⟨_,_,_,rfl,?_⟩
 refine sNew H ?_;clear H;intro b2 w _ H
 refine sSt0 H (by rfl) (by kernel_rfl) (by rfl) (by rfl) ?_;clear H;intro w _ H
 exact BuPost.mk H (by repeat (first | exact List.Sublist.refl _ | apply List.Sublist.cons)) (fun r h=>mt (hr r h)) hT hD (fun G h=>(dc (h (.deep [_] [_]) (ms)).head dn))
theorem bu1 {F:Fr} {w:World} {ex:List Ex} {ro:List Ro} {p:Pk} {cells:List Value} (H:Sat F w ex ro) (hk:p.kind=1) (hp:Ro.deep p.dat cells∈ro) (hs:p.size<=500000):Calls pg 65 #[.agg cells.toArray] w (BuPost F ex ro p):=by
 have hD:rtcpD p=[.one (.int .u32 p.sender),.one (.int .u64 p.ntp),.one (.int .u32 p.rtp),.one (.int .u32 p.packets),.one (.int .u32 p.octets),.row 7 (p.reports.flatMap Rep.dat),.row 1 (ob p.ext)]:=by unfold rtcpD;simp [hk]
 have hT:tyK p.kind=190:=by rw [hk];rfl
 unfold Pk.size at hs
 obtain ⟨a7,a8,a9,a10,a13,a14,a15,a16,a18,a24,a25,c7,c8,c9,c10,c13,c14,c15,c16,c18,c24,c25,R,rfl,hr,H,m7,m8,m9,m10,m13,m14,m15,m16,m18,m24,m25⟩:=H.pkF hp
 unfold pkC
 rw [hk]
 apply of65
 refine sNew H ?_;clear H;intro b1 w _ H
 refine ⟨_,(H.b0.at0 rfl),?_⟩
 refine fT ?_
 refine ⟨none,?_⟩;replace H:=H.drew;generalize w.drew=wd1 at H ⊢;have K:=grew_refl wd1 (none)
 refine ⟨nn,H.b0.row,_,(H.b0.at0 rfl),?_⟩
 refine ⟨nn,H.b0.row,_,(H.b0.at0 rfl),?_⟩
 refine ⟨nn,H.b0.row,_,(H.b0.at0 rfl),?_⟩
 refine ⟨nn,H.b0.row,_,(H.b0.at0 rfl),?_⟩
 refine ⟨nn,H.b0.row,_,(H.b0.at0 rfl),?_⟩
 refine ⟨nn,H.b0.row,_,_,_,(H.b0.at0 rfl),?_⟩
 refine ⟨nn,H.b0.row,_,_,_,(H.b0.at0 rfl),?_⟩
 obtain ⟨ex2,S,back⟩:=H.still
 refine call_j (c96 S (m7) (by omega)) ?_
 clear H;rintro _ w ⟨o7,q7,rfl,S⟩
 obtain ⟨g,H⟩:=back w _ S
 clear S back
 replace K:=gtr K g;clear g
 refine ⟨_,_,_,rfl,K,?_⟩
 refine call_j (c37 (xs:=p.ext) H (mt (m8)) (by omega)) ?_
 clear H;rintro _ w ⟨o8,q8,rfl,g,H⟩
 replace K:=gtr K g;clear g
 refine ⟨_,_,_,rfl,K,?_⟩
 refine sNew H ?_;clear H;intro b2 w g H;replace K:=gtr K (grew_none _ g);clear g
 refine ⟨K,?_⟩
 exact BuPost.mk H (by repeat (first | exact List.Sublist.refl _ | apply List.Sublist.cons)) (fun r h=>mt (mt (hr r h))) hT hD (fun G h=>(dc (.one _) (dc (.one _) (dc (.one _) (dc (.one _) (dc (.one _) (dc (h (.deep [_] [_]) (mt (ms))).head (dc (h (.deep [_] [_]) (ms)).head dn))))))))
theorem bu2 {F:Fr} {w:World} {ex:List Ex} {ro:List Ro} {p:Pk} {cells:List Value} (H:Sat F w ex ro) (hk:p.kind=2) (hp:Ro.deep p.dat cells∈ro) (hs:p.size<=500000):Calls pg 65 #[.agg cells.toArray] w (BuPost F ex ro p):=by
 have hD:rtcpD p=[.one (.int .u32 p.sender),.row 7 (p.reports.flatMap Rep.dat),.row 1 (ob p.ext)]:=by unfold rtcpD;simp [hk]
 have hT:tyK p.kind=195:=by rw [hk];rfl
 unfold Pk.size at hs
 obtain ⟨a7,a8,a9,a10,a13,a14,a15,a16,a18,a24,a25,c7,c8,c9,c10,c13,c14,c15,c16,c18,c24,c25,R,rfl,hr,H,m7,m8,m9,m10,m13,m14,m15,m16,m18,m24,m25⟩:=H.pkF hp
 unfold pkC
 rw [hk]
 apply of65
 refine sNew H ?_;clear H;intro b1 w _ H
 refine ⟨_,(H.b0.at0 rfl),?_⟩
 refine fF ?_
 refine fT ?_
 refine ⟨none,?_⟩;replace H:=H.drew;generalize w.drew=wd1 at H ⊢;have K:=grew_refl wd1 (none)
 refine ⟨nn,H.b0.row,_,(H.b0.at0 rfl),?_⟩
 refine ⟨nn,H.b0.row,_,_,_,(H.b0.at0 rfl),?_⟩
 refine ⟨nn,H.b0.row,_,_,_,(H.b0.at0 rfl),?_⟩
 obtain ⟨ex2,S,back⟩:=H.still
 refine call_j (c96 S (m7) (by omega)) ?_
 clear H;rintro _ w ⟨o7,q7,rfl,S⟩
 obtain ⟨g,H⟩:=back w _ S
 clear S back
 replace K:=gtr K g;clear g
 refine ⟨_,_,_,rfl,K,?_⟩
 refine call_j (c37 (xs:=p.ext) H (mt (m8)) (by omega)) ?_
 clear H;rintro _ w ⟨o8,q8,rfl,g,H⟩
 replace K:=gtr K g;clear g
 refine ⟨_,_,_,rfl,K,?_⟩
 refine sNew H ?_;clear H;intro b2 w g H;replace K:=gtr K (grew_none _ g);clear g
 refine ⟨K,?_⟩
 exact BuPost.mk H (by repeat (first | exact List.Sublist.refl _ | apply List.Sublist.cons)) (fun r h=>mt (mt (hr r h))) hT hD (fun G h=>(dc (.one _) (dc (h (.deep [_] [_]) (mt (ms))).head (dc (h (.deep [_] [_]) (ms)).head dn))))
theorem bu3 {F:Fr} {w:World} {ex:List Ex} {ro:List Ro} {p:Pk} {cells:List Value} (H:Sat F w ex ro) (hk:p.kind=3) (hp:Ro.deep p.dat cells∈ro) (hs:p.size<=500000):Calls pg 65 #[.agg cells.toArray] w (BuPost F ex ro p):=by
 have hD:rtcpD p=[.row 2 (p.chunks.flatMap Chk.dat)]:=by unfold rtcpD;simp [hk]
 have hT:tyK p.kind=198:=by rw [hk];rfl
 unfold Pk.size at hs
 have hcl:=csz_len p.chunks
 have hcm:=csz_mem p.chunks
 obtain ⟨a7,a8,a9,a10,a13,a14,a15,a16,a18,a24,a25,c7,c8,c9,c10,c13,c14,c15,c16,c18,c24,c25,R,rfl,hr,H,m7,m8,m9,m10,m13,m14,m15,m16,m18,m24,m25⟩:=H.pkF hp
 unfold pkC
 rw [hk]
 apply of65
 refine sNew H ?_;clear H;intro b1 w _ H
 refine ⟨_,(H.b0.at0 rfl),?_⟩
 refine fF ?_
 refine fF ?_
 refine fT ?_
 refine ⟨_,_,_,(H.b0.at0 rfl),?_⟩
 refine call_j (c97 H m9 (by omega) (fun B hB=>by have:=hcm B hB;omega)) ?_
 clear H;rintro _ w ⟨b2,rfl,H⟩
 refine ⟨_,rfl,?_⟩
 exact BuPost.at H (by repeat (first | exact List.Sublist.refl _ | apply List.Sublist.cons)) (fun r h=>mt (hr r h)) ms hT hD
theorem bu4 {F:Fr} {w:World} {ex:List Ex} {ro:List Ro} {p:Pk} {cells:List Value} (H:Sat F w ex ro) (hk:p.kind=4) (hp:Ro.deep p.dat cells∈ro) (hs:p.size<=500000):Calls pg 65 #[.agg cells.toArray] w (BuPost F ex ro p):=by
 have hD:rtcpD p=[.row 1 (oi .u32 p.sources),.one (.string p.text)]:=by unfold rtcpD;simp [hk]
 have hT:tyK p.kind=200:=by rw [hk];rfl
 unfold Pk.size at hs
 obtain ⟨a7,a8,a9,a10,a13,a14,a15,a16,a18,a24,a25,c7,c8,c9,c10,c13,c14,c15,c16,c18,c24,c25,R,rfl,hr,H,m7,m8,m9,m10,m13,m14,m15,m16,m18,m24,m25⟩:=H.pkF hp
 unfold pkC
 rw [hk]
 apply of65
 refine sNew H ?_;clear H;intro b1 w _ H
 refine ⟨_,(H.b0.at0 rfl),?_⟩
 refine fF ?_
 refine fF ?_
 refine fF ?_
 refine fT ?_
 refine ⟨none,?_⟩;replace H:=H.drew;generalize w.drew=wd1 at H ⊢;have K:=grew_refl wd1 (none)
 refine ⟨nn,H.b0.row,_,_,_,(H.b0.at0 rfl),?_⟩
 refine ⟨nn,H.b0.row,_,(H.b0.at0 rfl),?_⟩
 refine call_j (c98 H (m10) (by omega)) ?_
 clear H;rintro _ w ⟨o10,q10,rfl,g,H⟩
 replace K:=gtr K g;clear g
 refine ⟨_,_,_,rfl,K,?_⟩
 refine sNew H ?_;clear H;intro b2 w g H;replace K:=gtr K (grew_none _ g);clear g
 refine ⟨K,?_⟩
 exact BuPost.mk H (by repeat (first | exact List.Sublist.refl _ | apply List.Sublist.cons)) (fun r h=>mt (hr r h)) hT hD (fun G h=>(dc (h (.deep [_] [_]) (ms)).head (dc (.one _) dn)))
theorem bu5 {F:Fr} {w:World} {ex:List Ex} {ro:List Ro} {p:Pk} {cells:List Value} (H:Sat F w ex ro) (hk:p.kind=5) (hp:Ro.deep p.dat cells∈ro) (hs:p.size<=500000):Calls pg 65 #[.agg cells.toArray] w (BuPost F ex ro p):=by
 have hD:rtcpD p=[.one (.int .u8 p.sub),.one (.int .u32 p.sender),.one (.string p.text),.row 1 (ob p.data)]:=by unfold rtcpD;simp [hk]
 have hT:tyK p.kind=204:=by rw [hk];rfl
 unfold Pk.size at hs
 obtain ⟨a7,a8,a9,a10,a13,a14,a15,a16,a18,a24,a25,c7,c8,c9,c10,c13,c14,c15,c16,c18,c24,c25,R,rfl,hr,H,m7,m8,m9,m10,m13,m14,m15,m16,m18,m24,m25⟩:=H.pkF hp
 unfold pkC
 rw [hk]
 apply of65
 refine sNew H ?_;clear H;intro b1 w _ H
 refine ⟨_,(H.b0.at0 rfl),?_⟩
 refine fF ?_
 refine fF ?_
 refine fF ?_
 refine fF ?_
 refine fT ?_
 refine ⟨none,?_⟩;replace H:=H.drew;generalize w.drew=wd1 at H ⊢;have K:=grew_refl wd1 (none)
 refine ⟨nn,H.b0.row,_,(H.b0.at0 rfl),?_⟩
 refine ⟨nn,H.b0.row,_,(H.b0.at0 rfl),?_⟩
 refine ⟨nn,H.b0.row,_,(H.b0.at0 rfl),?_⟩
 refine ⟨nn,H.b0.row,_,_,_,(H.b0.at0 rfl),?_⟩
 refine call_j (c37 (xs:=p.data) H (m13) (by omega)) ?_
 clear H;rintro _ w ⟨o13,q13,rfl,g,H⟩
 replace K:=gtr K g;clear g
 refine ⟨_,_,_,rfl,K,?_⟩
 refine sNew H ?_;clear H;intro b2 w g H;replace K:=gtr K (grew_none _ g);clear g
 refine ⟨K,?_⟩
 exact BuPost.mk H (by repeat (first | exact List.Sublist.refl _ | apply List.Sublist.cons)) (fun r h=>mt (hr r h)) hT hD (fun G h=>(dc (.one _) (dc (.one _) (dc (.one _) (dc (h (.deep [_] [_]) (ms)).head dn)))))
theorem bu6 {F:Fr} {w:World} {ex:List Ex} {ro:List Ro} {p:Pk} {cells:List Value} (H:Sat F w ex ro) (hk:p.kind=6) (hp:Ro.deep p.dat cells∈ro) (hs:p.size<=500000):Calls pg 65 #[.agg cells.toArray] w (BuPost F ex ro p):=by
 have hD:rtcpD p=[.one (.int .u32 p.sender),.one (.int .u32 p.media),.row 2 (p.pairs.flatMap Par.dat)]:=by unfold rtcpD;simp [hk]
 have hT:tyK p.kind=207:=by rw [hk];rfl
 unfold Pk.size at hs
 obtain ⟨a7,a8,a9,a10,a13,a14,a15,a16,a18,a24,a25,c7,c8,c9,c10,c13,c14,c15,c16,c18,c24,c25,R,rfl,hr,H,m7,m8,m9,m10,m13,m14,m15,m16,m18,m24,m25⟩:=H.pkF hp
 unfold pkC
 rw [hk]
 apply of65
 refine sNew H ?_;clear H;intro b1 w _ H
 refine ⟨_,(H.b0.at0 rfl),?_⟩
 refine fF ?_
 refine fF ?_
 refine fF ?_
 refine fF ?_
 refine fF ?_
 refine fT ?_
 refine ⟨_,(H.b0.at0 rfl),?_⟩
 refine ⟨_,(H.b0.at0 rfl),?_⟩
 refine sNew H ?_;clear H;intro b2 w _ H
 refine ⟨_,_,_,(H.b1.at0 rfl),?_⟩
 have H0:=H;clear H
 obtain ⟨CC,hCC⟩:∃CC:List Value,CC=(pkC p a7 a8 a9 a10 a13 a14 a15 a16 a18 a24 a25 c7 c8 c9 c10 c13 c14 c15 c16 c18 c24 c25).set 0 (.int .i64 6):=⟨_,rfl⟩
 have H:Sat F w (.blk b2 210 [.int .u32 p.sender,.int .u32 p.media,.slice none 0 0]::.blk b1 75 CC::ex) R:=by rw [hCC];exact H0
 clear H0
 refine ⟨fun x m w=>∃(j:Nat) (o:Option Addr) (oc:Nat) (r:Option Nat),x=(j:Int)/\j+m=p.pairs.length/\Sat F w (.blk b2 210 [.int .u32 p.sender,.int .u32 p.media,.slice o j oc]::.own 213 2 o j oc r ((p.pairs.take j).flatMap Par.dat)::.blk b1 75 CC::ex) R,⟨p.pairs.length,0,none,0,none,rfl,by omega,(H.nilOwn 213 2).u1⟩,?_⟩
 clear H;rintro dd x m w ⟨j,o,oc,r,rfl,hjm,H⟩
 refine ⟨fun hc=>?_,fun hc=>?_⟩
 ·rw [decide_eq_true_eq] at hc
  have hjl:j < p.pairs.length:=by omega
  obtain ⟨q,us,e,hus,hcell,H1⟩:=H.eltF Par.dat_lenK (by decide) m14 (j:=j) hjl
  have htk:p.pairs.take (j+1)=p.pairs.take j++[p.pairs[j]]:=by rw [List.take_add_one,List.getElem?_eq_getElem hjl];rfl
  clear H
  generalize p.pairs[j]=E at H1 htk
  obtain ⟨e0,e1⟩:=E
  refine ⟨q,e,by omega,by omega,?_⟩
  obtain rfl:=H1.ones (us:=[.int .u16 e0,.int .u16 e1]) ms
  refine ⟨_,_,LdC [.int .u16 e0,.int .u16 e1] (by kernel_rfl) (by rw [show (j:Int).toNat*2=j*2 by omega];exact hcell),?_⟩
  have H:=H1
  clear H1 hcell
  refine sNew H ?_;clear H;intro b3 w _ H
  refine sSw0 H rfl (by kernel_rfl) (by rfl) (by rfl) ?_;clear H;intro w _ H
  refine ⟨r,?_⟩;replace H:=H.drew;generalize w.drew=wd1 at H ⊢;have K:=grew_refl wd1 (r)
  refine ⟨_,rfl,?_⟩
  refine ⟨(H.ne (mt ms) (mt (mt ms))),H.b1.row,_,_,_,(H.b1.at0 rfl),?_⟩
  refine ⟨(H.ne ms (mt (mt ms))),H.b0.row,_,(H.b0.at0 rfl),?_⟩
  refine ⟨(H.ne ms (mt (mt ms))),H.b0.row,_,(H.b0.at0 rfl),?_⟩
  refine ⟨rfl,?_⟩
  refine sNew H ?_;clear H;intro b4 w g H;replace K:=gtr K (grew_none _ g);clear g
  refine ⟨K,?_⟩
  refine sApp3 H (bytes:=4) (by kernel_rfl) [.int .u16 e0,.int .u16 e1] (Par.dat (e0,e1)) (by rfl) (fun j u hu=>by rw [add_flat,Nat.zero_add];exact H.b0.cell hu) (fun G h=>DeepL.ones [_,_]) (by simp [Value.oneCell']) (by unfold maxLen;omega) (by omega) ?_
  clear H;intro o3 ol3 oc3 r3 w ex3 g H
  replace K:=gtr K g;clear g;replace H:=H.d1
  refine ⟨K,?_⟩
  refine ⟨_,rfl,?_⟩
  refine sSt1 H (by exact add_flat _ _ _) (by kernel_rfl) (by rfl) (by rfl) ?_;clear H;intro w _ H
  subst ex3
  refine ⟨m - 1,by omega,j+1,o3,oc3,r3,?_,by omega,?_⟩
  ·rw [wi64_of (by omega) (by omega)];simp
  ·rw [htk,List.flatMap_append]
   simp only [List.flatMap_cons,List.flatMap_nil,List.append_nil]
   exact H.sub (List.sublist_cons_self _ _) (fun r h=>mt h)
 ·rw [decide_eq_false_iff_not] at hc
  obtain rfl:j=p.pairs.length:=by omega
  rw [List.take_length] at H
  replace H:=H.r1.freeze
  exact BuPost.mk H (by repeat (first | exact List.Sublist.refl _ | apply List.Sublist.cons)) (fun r h=>mt (hr r h)) hT hD (fun G h=>(dc (.one _) (dc (.one _) (dc (h (.deep [_] [_]) (ms)).head dn))))
theorem bu7 {F:Fr} {w:World} {ex:List Ex} {ro:List Ro} {p:Pk} {cells:List Value} (H:Sat F w ex ro) (hk:p.kind=7) (hp:Ro.deep p.dat cells∈ro) (hs:p.size<=500000):Calls pg 65 #[.agg cells.toArray] w (BuPost F ex ro p):=by
 have hD:rtcpD p=[.one (.int .u32 p.sender),.one (.int .u32 p.media)]:=by unfold rtcpD;simp [hk]
 have hT:tyK p.kind=214:=by rw [hk];rfl
 unfold Pk.size at hs
 obtain ⟨a7,a8,a9,a10,a13,a14,a15,a16,a18,a24,a25,c7,c8,c9,c10,c13,c14,c15,c16,c18,c24,c25,R,rfl,hr,H,m7,m8,m9,m10,m13,m14,m15,m16,m18,m24,m25⟩:=H.pkF hp
 unfold pkC
 rw [hk]
 apply of65
 refine sNew H ?_;clear H;intro b1 w _ H
 refine ⟨_,(H.b0.at0 rfl),?_⟩
 refine fF ?_
 refine fF ?_
 refine fF ?_
 refine fF ?_
 refine fF ?_
 refine fF ?_
 refine fT ?_
 refine ⟨_,(H.b0.at0 rfl),?_⟩
 refine ⟨_,(H.b0.at0 rfl),?_⟩
 refine sNew H ?_;clear H;intro b2 w _ H
 exact BuPost.mk H (by repeat (first | exact List.Sublist.refl _ | apply List.Sublist.cons)) (fun r h=>hr r h) hT hD (fun G h=>(dc (.one _) (dc (.one _) dn)))
theorem bu8 {F:Fr} {w:World} {ex:List Ex} {ro:List Ro} {p:Pk} {cells:List Value} (H:Sat F w ex ro) (hk:p.kind=8) (hp:Ro.deep p.dat cells∈ro) (hs:p.size<=500000):Calls pg 65 #[.agg cells.toArray] w (BuPost F ex ro p):=by
 have hD:rtcpD p=[.one (.int .u32 p.sender),.row 3 (p.blocks.flatMap Blo.dat),.one (.int .u32 p.time)]:=by unfold rtcpD;simp [hk]
 have hT:tyK p.kind=217:=by rw [hk];rfl
 unfold Pk.size at hs
 have hcl:=bsz_len p.blocks
 have hcm:=bsz_mem p.blocks
 obtain ⟨a7,a8,a9,a10,a13,a14,a15,a16,a18,a24,a25,c7,c8,c9,c10,c13,c14,c15,c16,c18,c24,c25,R,rfl,hr,H,m7,m8,m9,m10,m13,m14,m15,m16,m18,m24,m25⟩:=H.pkF hp
 unfold pkC
 rw [hk]
 apply of65
 refine sNew H ?_;clear H;intro b1 w _ H
 refine ⟨_,(H.b0.at0 rfl),?_⟩
 refine fF ?_
 refine fF ?_
 refine fF ?_
 refine fF ?_
 refine fF ?_
 refine fF ?_
 refine fF ?_
 refine fT ?_
 refine ⟨none,?_⟩;replace H:=H.drew;generalize w.drew=wd1 at H ⊢;have K:=grew_refl wd1 (none)
 refine ⟨nn,H.b0.row,_,(H.b0.at0 rfl),?_⟩
 refine ⟨nn,H.b0.row,_,_,_,(H.b0.at0 rfl),?_⟩
 refine ⟨nn,H.b0.row,_,(H.b0.at0 rfl),?_⟩
 obtain ⟨ex2,S,back⟩:=H.still
 refine call_j (c99 S (m18) (by omega) (fun B hB=>by have:=hcm B hB;omega)) ?_
 clear H;rintro _ w ⟨o18,q18,rfl,S⟩
 obtain ⟨g,H⟩:=back w _ S
 clear S back
 replace K:=gtr K g;clear g
 refine ⟨_,_,_,rfl,K,?_⟩
 refine sNew H ?_;clear H;intro b2 w g H;replace K:=gtr K (grew_none _ g);clear g
 refine ⟨K,?_⟩
 exact BuPost.mk H (by repeat (first | exact List.Sublist.refl _ | apply List.Sublist.cons)) (fun r h=>mt (hr r h)) hT hD (fun G h=>(dc (.one _) (dc (h (.deep [_] [_]) (ms)).head (dc (.one _) dn))))
theorem bu9 {F:Fr} {w:World} {ex:List Ex} {ro:List Ro} {p:Pk} {cells:List Value} (H:Sat F w ex ro) (hk:p.kind=9) (hp:Ro.deep p.dat cells∈ro) (hs:p.size<=500000):Calls pg 65 #[.agg cells.toArray] w (BuPost F ex ro p):=by
 have hD:rtcpD p=[.one (.int .u32 p.sender),.one (.int .u32 p.media)]:=by unfold rtcpD;simp [hk]
 have hT:tyK p.kind=222:=by rw [hk];rfl
 unfold Pk.size at hs
 obtain ⟨a7,a8,a9,a10,a13,a14,a15,a16,a18,a24,a25,c7,c8,c9,c10,c13,c14,c15,c16,c18,c24,c25,R,rfl,hr,H,m7,m8,m9,m10,m13,m14,m15,m16,m18,m24,m25⟩:=H.pkF hp
 unfold pkC
 rw [hk]
 apply of65
 refine sNew H ?_;clear H;intro b1 w _ H
 refine ⟨_,(H.b0.at0 rfl),?_⟩
 refine fF ?_
 refine fF ?_
 refine fF ?_
 refine fF ?_
 refine fF ?_
 refine fF ?_
 refine fF ?_
 refine fF ?_
 refine fT ?_
 refine ⟨_,(H.b0.at0 rfl),?_⟩
 refine ⟨_,(H.b0.at0 rfl),?_⟩
 refine sNew H ?_;clear H;intro b2 w _ H
 exact BuPost.mk H (by repeat (first | exact List.Sublist.refl _ | apply List.Sublist.cons)) (fun r h=>hr r h) hT hD (fun G h=>(dc (.one _) (dc (.one _) dn)))
theorem bu10 {F:Fr} {w:World} {ex:List Ex} {ro:List Ro} {p:Pk} {cells:List Value} (H:Sat F w ex ro) (hk:p.kind=10) (hp:Ro.deep p.dat cells∈ro) (hs:p.size<=500000):Calls pg 65 #[.agg cells.toArray] w (BuPost F ex ro p):=by
 have hD:rtcpD p=[.one (.int .u32 p.sender),.one (.int .u32 p.media),.row 3 (p.slices.flatMap Sli.dat)]:=by unfold rtcpD;simp [hk]
 have hT:tyK p.kind=224:=by rw [hk];rfl
 unfold Pk.size at hs
 obtain ⟨a7,a8,a9,a10,a13,a14,a15,a16,a18,a24,a25,c7,c8,c9,c10,c13,c14,c15,c16,c18,c24,c25,R,rfl,hr,H,m7,m8,m9,m10,m13,m14,m15,m16,m18,m24,m25⟩:=H.pkF hp
 unfold pkC
 rw [hk]
 apply of65
 refine sNew H ?_;clear H;intro b1 w _ H
 refine ⟨_,(H.b0.at0 rfl),?_⟩
 refine fF ?_
 refine fF ?_
 refine fF ?_
 refine fF ?_
 refine fF ?_
 refine fF ?_
 refine fF ?_
 refine fF ?_
 refine fF ?_
 refine fT ?_
 refine ⟨_,(H.b0.at0 rfl),?_⟩
 refine ⟨_,(H.b0.at0 rfl),?_⟩
 refine sNew H ?_;clear H;intro b2 w _ H
 refine ⟨_,_,_,(H.b1.at0 rfl),?_⟩
 have H0:=H;clear H
 obtain ⟨CC,hCC⟩:∃CC:List Value,CC=(pkC p a7 a8 a9 a10 a13 a14 a15 a16 a18 a24 a25 c7 c8 c9 c10 c13 c14 c15 c16 c18 c24 c25).set 0 (.int .i64 10):=⟨_,rfl⟩
 have H:Sat F w (.blk b2 227 [.int .u32 p.sender,.int .u32 p.media,.slice none 0 0]::.blk b1 75 CC::ex) R:=by rw [hCC];exact H0
 clear H0
 refine ⟨fun x m w=>∃(j:Nat) (o:Option Addr) (oc:Nat) (r:Option Nat),x=(j:Int)/\j+m=p.slices.length/\Sat F w (.blk b2 227 [.int .u32 p.sender,.int .u32 p.media,.slice o j oc]::.own 228 3 o j oc r ((p.slices.take j).flatMap Sli.dat)::.blk b1 75 CC::ex) R,⟨p.slices.length,0,none,0,none,rfl,by omega,(H.nilOwn 228 3).u1⟩,?_⟩
 clear H;rintro dd x m w ⟨j,o,oc,r,rfl,hjm,H⟩
 refine ⟨fun hc=>?_,fun hc=>?_⟩
 ·rw [decide_eq_true_eq] at hc
  have hjl:j < p.slices.length:=by omega
  obtain ⟨q,us,e,hus,hcell,H1⟩:=H.eltF Sli.dat_lenK (by decide) m15 (j:=j) hjl
  have htk:p.slices.take (j+1)=p.slices.take j++[p.slices[j]]:=by rw [List.take_add_one,List.getElem?_eq_getElem hjl];rfl
  clear H
  generalize p.slices[j]=E at H1 htk
  obtain ⟨e0,e1,e2⟩:=E
  refine ⟨q,e,by omega,by omega,?_⟩
  obtain rfl:=H1.ones (us:=[.int .u16 e0,.int .u16 e1,.int .u8 e2]) ms
  refine ⟨_,_,_,LdC [.int .u16 e0,.int .u16 e1,.int .u8 e2] (by kernel_rfl) (by rw [show (j:Int).toNat*3=j*3 by omega];exact hcell),?_⟩
  have H:=H1
  clear H1 hcell
  refine sNew H ?_;clear H;intro b3 w _ H
  refine sSw0 H rfl (by kernel_rfl) (by rfl) (by rfl) ?_;clear H;intro w _ H
  refine ⟨r,?_⟩;replace H:=H.drew;generalize w.drew=wd1 at H ⊢;have K:=grew_refl wd1 (r)
  refine ⟨_,rfl,?_⟩
  refine ⟨(H.ne (mt ms) (mt (mt ms))),H.b1.row,_,_,_,(H.b1.at0 rfl),?_⟩
  refine ⟨(H.ne ms (mt (mt ms))),H.b0.row,_,(H.b0.at0 rfl),?_⟩
  refine ⟨(H.ne ms (mt (mt ms))),H.b0.row,_,(H.b0.at0 rfl),?_⟩
  refine ⟨(H.ne ms (mt (mt ms))),H.b0.row,_,(H.b0.at0 rfl),?_⟩
  refine ⟨rfl,?_⟩
  refine sNew H ?_;clear H;intro b4 w g H;replace K:=gtr K (grew_none _ g);clear g
  refine ⟨K,?_⟩
  refine sApp3 H (bytes:=6) (by kernel_rfl) [.int .u16 e0,.int .u16 e1,.int .u8 e2] (Sli.dat (e0,e1,e2)) (by rfl) (fun j u hu=>by rw [add_flat,Nat.zero_add];exact H.b0.cell hu) (fun G h=>DeepL.ones [_,_,_]) (by simp [Value.oneCell']) (by unfold maxLen;omega) (by omega) ?_
  clear H;intro o3 ol3 oc3 r3 w ex3 g H
  replace K:=gtr K g;clear g;replace H:=H.d1
  refine ⟨K,?_⟩
  refine ⟨_,rfl,?_⟩
  refine sSt1 H (by exact add_flat _ _ _) (by kernel_rfl) (by rfl) (by rfl) ?_;clear H;intro w _ H
  subst ex3
  refine ⟨m - 1,by omega,j+1,o3,oc3,r3,?_,by omega,?_⟩
  ·rw [wi64_of (by omega) (by omega)];simp
  ·rw [htk,List.flatMap_append]
   simp only [List.flatMap_cons,List.flatMap_nil,List.append_nil]
   exact H.sub (List.sublist_cons_self _ _) (fun r h=>mt h)
 ·rw [decide_eq_false_iff_not] at hc
  obtain rfl:j=p.slices.length:=by omega
  rw [List.take_length] at H
  replace H:=H.r1.freeze
  exact BuPost.mk H (by repeat (first | exact List.Sublist.refl _ | apply List.Sublist.cons)) (fun r h=>mt (hr r h)) hT hD (fun G h=>(dc (.one _) (dc (.one _) (dc (h (.deep [_] [_]) (ms)).head dn))))
theorem bu11 {F:Fr} {w:World} {ex:List Ex} {ro:List Ro} {p:Pk} {cells:List Value} (H:Sat F w ex ro) (hk:p.kind=11) (hp:Ro.deep p.dat cells∈ro) (hs:p.size<=500000):Calls pg 65 #[.agg cells.toArray] w (BuPost F ex ro p):=by
 have hD:rtcpD p=[.one (.int .u32 p.sender),.one (.int .u32 p.media),.row 2 (p.entries.flatMap Ent.dat)]:=by unfold rtcpD;simp [hk]
 have hT:tyK p.kind=229:=by rw [hk];rfl
 unfold Pk.size at hs
 obtain ⟨a7,a8,a9,a10,a13,a14,a15,a16,a18,a24,a25,c7,c8,c9,c10,c13,c14,c15,c16,c18,c24,c25,R,rfl,hr,H,m7,m8,m9,m10,m13,m14,m15,m16,m18,m24,m25⟩:=H.pkF hp
 unfold pkC
 rw [hk]
 apply of65
 refine sNew H ?_;clear H;intro b1 w _ H
 refine ⟨_,(H.b0.at0 rfl),?_⟩
 refine fF ?_
 refine fF ?_
 refine fF ?_
 refine fF ?_
 refine fF ?_
 refine fF ?_
 refine fF ?_
 refine fF ?_
 refine fF ?_
 refine fF ?_
 refine fT ?_
 refine ⟨_,(H.b0.at0 rfl),?_⟩
 refine ⟨_,(H.b0.at0 rfl),?_⟩
 refine sNew H ?_;clear H;intro b2 w _ H
 refine ⟨_,_,_,(H.b1.at0 rfl),?_⟩
 have H0:=H;clear H
 obtain ⟨CC,hCC⟩:∃CC:List Value,CC=(pkC p a7 a8 a9 a10 a13 a14 a15 a16 a18 a24 a25 c7 c8 c9 c10 c13 c14 c15 c16 c18 c24 c25).set 0 (.int .i64 11):=⟨_,rfl⟩
 have H:Sat F w (.blk b2 232 [.int .u32 p.sender,.int .u32 p.media,.slice none 0 0]::.blk b1 75 CC::ex) R:=by rw [hCC];exact H0
 clear H0
 refine ⟨fun x m w=>∃(j:Nat) (o:Option Addr) (oc:Nat) (r:Option Nat),x=(j:Int)/\j+m=p.entries.length/\Sat F w (.blk b2 232 [.int .u32 p.sender,.int .u32 p.media,.slice o j oc]::.own 234 2 o j oc r ((p.entries.take j).flatMap Ent.dat)::.blk b1 75 CC::ex) R,⟨p.entries.length,0,none,0,none,rfl,by omega,(H.nilOwn 234 2).u1⟩,?_⟩
 clear H;rintro dd x m w ⟨j,o,oc,r,rfl,hjm,H⟩
 refine ⟨fun hc=>?_,fun hc=>?_⟩
 ·rw [decide_eq_true_eq] at hc
  have hjl:j < p.entries.length:=by omega
  obtain ⟨q,us,e,hus,hcell,H1⟩:=H.eltF Ent.dat_lenK (by decide) m16 (j:=j) hjl
  have htk:p.entries.take (j+1)=p.entries.take j++[p.entries[j]]:=by rw [List.take_add_one,List.getElem?_eq_getElem hjl];rfl
  clear H
  generalize p.entries[j]=E at H1 htk
  obtain ⟨e0,e1⟩:=E
  refine ⟨q,e,by omega,by omega,?_⟩
  obtain rfl:=H1.ones (us:=[.int .u32 e0,.int .u8 e1]) ms
  refine ⟨_,_,LdC [.int .u32 e0,.int .u8 e1] (by kernel_rfl) (by rw [show (j:Int).toNat*2=j*2 by omega];exact hcell),?_⟩
  have H:=H1
  clear H1 hcell
  refine sNew H ?_;clear H;intro b3 w _ H
  refine sSw0 H rfl (by kernel_rfl) (by rfl) (by rfl) ?_;clear H;intro w _ H
  refine ⟨r,?_⟩;replace H:=H.drew;generalize w.drew=wd1 at H ⊢;have K:=grew_refl wd1 (r)
  refine ⟨_,rfl,?_⟩
  refine ⟨(H.ne (mt ms) (mt (mt ms))),H.b1.row,_,_,_,(H.b1.at0 rfl),?_⟩
  refine ⟨(H.ne ms (mt (mt ms))),H.b0.row,_,(H.b0.at0 rfl),?_⟩
  refine ⟨(H.ne ms (mt (mt ms))),H.b0.row,_,(H.b0.at0 rfl),?_⟩
  refine ⟨rfl,?_⟩
  refine sNew H ?_;clear H;intro b4 w g H;replace K:=gtr K (grew_none _ g);clear g
  refine ⟨K,?_⟩
  refine sApp3 H (bytes:=8) (by kernel_rfl) [.int .u32 e0,.int .u8 e1] (Ent.dat (e0,e1)) (by rfl) (fun j u hu=>by rw [add_flat,Nat.zero_add];exact H.b0.cell hu) (fun G h=>DeepL.ones [_,_]) (by simp [Value.oneCell']) (by unfold maxLen;omega) (by omega) ?_
  clear H;intro o3 ol3 oc3 r3 w ex3 g H
  replace K:=gtr K g;clear g;replace H:=H.d1
  refine ⟨K,?_⟩
  refine ⟨_,rfl,?_⟩
  refine sSt1 H (by exact add_flat _ _ _) (by kernel_rfl) (by rfl) (by rfl) ?_;clear H;intro w _ H
  subst ex3
  refine ⟨m - 1,by omega,j+1,o3,oc3,r3,?_,by omega,?_⟩
  ·rw [wi64_of (by omega) (by omega)];simp
  ·rw [htk,List.flatMap_append]
   simp only [List.flatMap_cons,List.flatMap_nil,List.append_nil]
   exact H.sub (List.sublist_cons_self _ _) (fun r h=>mt h)
 ·rw [decide_eq_false_iff_not] at hc
  obtain rfl:j=p.entries.length:=by omega
  rw [List.take_length] at H
  replace H:=H.r1.freeze
  exact BuPost.mk H (by repeat (first | exact List.Sublist.refl _ | apply List.Sublist.cons)) (fun r h=>mt (hr r h)) hT hD (fun G h=>(dc (.one _) (dc (.one _) (dc (h (.deep [_] [_]) (ms)).head dn))))
theorem bu12 {F:Fr} {w:World} {ex:List Ex} {ro:List Ro} {p:Pk} {cells:List Value} (H:Sat F w ex ro) (hk:p.kind=12) (hp:Ro.deep p.dat cells∈ro) (hs:p.size<=500000) (hbits:0<=p.bits/\p.bits < 4294967296):Calls pg 65 #[.agg cells.toArray] w (BuPost F ex ro p):=by
 have hD:rtcpD p=[.one (.int .u32 p.sender),.one (.float .f32 p.bits.toNat),.row 1 (oi .u32 p.sources)]:=by unfold rtcpD;simp [hk]
 have hT:tyK p.kind=235:=by rw [hk];rfl
 unfold Pk.size at hs
 obtain ⟨a7,a8,a9,a10,a13,a14,a15,a16,a18,a24,a25,c7,c8,c9,c10,c13,c14,c15,c16,c18,c24,c25,R,rfl,hr,H,m7,m8,m9,m10,m13,m14,m15,m16,m18,m24,m25⟩:=H.pkF hp
 unfold pkC
 rw [hk]
 apply of65
 refine sNew H ?_;clear H;intro b1 w _ H
 refine ⟨_,(H.b0.at0 rfl),?_⟩
 refine fF ?_
 refine fF ?_
 refine fF ?_
 refine fF ?_
 refine fF ?_
 refine fF ?_
 refine fF ?_
 refine fF ?_
 refine fF ?_
 refine fF ?_
 refine fF ?_
 refine fT ?_
 refine ⟨none,?_⟩;replace H:=H.drew;generalize w.drew=wd1 at H ⊢;have K:=grew_refl wd1 (none)
 refine ⟨nn,H.b0.row,_,(H.b0.at0 rfl),?_⟩
 refine ⟨nn,H.b0.row,_,(H.b0.at0 rfl),?_⟩
 refine ⟨nn,H.b0.row,_,_,_,(H.b0.at0 rfl),?_⟩
 refine ⟨_,_,run_f32from hbits,K,?_⟩
 refine call_j (c98 H (m10) (by omega)) ?_
 clear H;rintro _ w ⟨o10,q10,rfl,g,H⟩
 replace K:=gtr K g;clear g
 refine ⟨_,_,_,rfl,K,?_⟩
 refine sNew H ?_;clear H;intro b2 w g H;replace K:=gtr K (grew_none _ g);clear g
 refine ⟨K,?_⟩
 exact BuPost.mk H (by repeat (first | exact List.Sublist.refl _ | apply List.Sublist.cons)) (fun r h=>mt (hr r h)) hT hD (fun G h=>(dc (.one _) (dc (.one _) (dc (h (.deep [_] [_]) (ms)).head dn))))
def pcs:Nat->List Int->List (List Int)
 | 0,_=>[]
 | f+1,xs=>if xs=[] then [] else if hFit xs then xs.take (hN xs)::pcs f (xs.drop (hN xs)) else []
def allGo:List (List Int)->Option (List Pk)
 | []=>some []
 | x::r=>match go x with
  | some p=>(allGo r).map (p::·)
  | none=>none
theorem gl_pcs:∀(f:Nat) (xs:List Int),okSplit f xs=true->gl f xs=allGo (pcs f xs)
 | 0,xs,h=>by
  have:xs=[]:=by simpa [okSplit] using h
  subst this;rfl
 | f+1,xs,h=>by
  unfold gl pcs
  unfold okSplit at h
  by_cases hx:xs=[]
  ·rw [if_pos hx,if_pos hx];rfl
  ·rw [if_neg hx] at h
   rw [if_neg hx,if_neg hx]
   by_cases hf:hFit xs
   ·rw [if_pos hf] at h
    rw [if_pos hf,if_pos hf,gl_pcs f _ h]
    rfl
   ·rw [if_neg hf] at h;cases h
theorem pcs_len:∀(f:Nat) (xs:List Int),(pcs f xs).length<=f
 | 0,_=>Nat.le_refl _
 | f+1,xs=>by
  unfold pcs
  split
  ·exact Nat.zero_le _
  split
  ·have:=pcs_len f (xs.drop (hN xs))
   rw [List.length_cons];omega
  ·exact Nat.zero_le _
theorem pcs_mem:∀(f:Nat) (xs x:List Int),x∈pcs f xs->x.length<=xs.length/\(By xs->By x)
 | 0,_,_,h=>by simp [pcs] at h
 | f+1,xs,x,h=>by
  unfold pcs at h
  split at h
  ·cases h
  split at h
  ·rcases List.mem_cons.1 h with rfl | h
   ·exact ⟨by rw [List.length_take];omega,fun hb=>hb.take _⟩
   ·obtain ⟨h1,h2⟩:=pcs_mem f _ _ h
    rw [List.length_drop] at h1
    exact ⟨by omega,fun hb=>h2 (hb.drop _)⟩
  ·cases h
theorem allGo_mem:∀(l:List (List Int)) (L:List Pk),allGo l=some L->L.length=l.length/\∀p∈L,∃x∈l,go x=some p
 | [],L,h=>by
  cases h
  exact ⟨rfl,fun p hp=>by cases hp⟩
 | x::r,L,h=>by
  unfold allGo at h
  cases hx:go x with
  | none=>rw [hx] at h;cases h
  | some p=>
   rw [hx] at h
   simp only at h
   cases hr:allGo r with
   | none=>rw [hr] at h;cases h
   | some L2=>
    rw [hr] at h
    simp only [Option.map_some,Option.some.injEq] at h
    subst h
    obtain ⟨h1,h2⟩:=allGo_mem r L2 hr
    refine ⟨by rw [List.length_cons,List.length_cons,h1],fun q hq=>?_⟩
    rcases List.mem_cons.1 hq with rfl | hq
    ·exact ⟨x,ms,hx⟩
    ·obtain ⟨y,hy,h3⟩:=h2 q hq
     exact ⟨y,mt hy,h3⟩
theorem Gd.mono {p:Pk} {n m:Nat} (h:Gd p n) (hnm:n<=m):Gd p m:=
 ⟨h.lo,h.hi,h.trim,Nat.le_trans h.sz (Nat.mul_le_mul_left _ hnm),h.bits⟩
theorem allGo_Gd {f:Nat} {xs:List Int} {L:List Pk} (h:allGo (pcs f xs)=some L):∀p∈L,p.kind≠13->Gd p xs.length:=by
 intro p hp hk
 obtain ⟨x,hx,h2⟩:=(allGo_mem _ _ h).2 p hp
 obtain ⟨h3,h4⟩:=pcs_mem _ _ _ hx
 exact (go_Gd h2 hk).mono h3
theorem Sat.still3 {F:Fr} {w:World} {E0 ex:List Ex} {ro:List Ro} (H:Sat F w (E0++ex) ro) (r:Option Nat) (hr:∀b∈foots E0,some b=r) :
  ∃ex2,Sat ⟨w,fun b=>b∈foots (E0++ex)⟩ w (E0++ex2) ro /\
   (∀E w' ro',Sat ⟨w,fun b=>b∈foots (E0++ex)⟩ w' (E++ex2) ro'->w.grownBy w' r/\Sat F w' (E++ex) ro')/\∀b t cells,Ex.blk b t cells∈ex->Ex.blk b t cells∈ex2:=by
 have hf:=foots_still w (foots ex)
 have hf0:foots (E0++stillEx w (foots ex))=foots (E0++ex):=by rw [foots_append,foots_append,hf]
 have hB:∀b∈foots ex,Blk w b (cellsAt w b).1 (cellsAt w b).2:=by
  intro b hb
  obtain ⟨e,he,hbe⟩:=List.mem_flatMap.1 (show b∈ex.flatMap Ex.foot from hb)
  obtain ⟨t,us,h⟩:=Ex.cellsOf (H.he e (List.mem_append_right _ he)) hbe
  rw [cellsAt_of h]
  exact h
 refine ⟨stillEx w (foots ex),Sat.start (by rw [hf0];exact H.nd) (by rw [hf0];exact fun b hb=>⟨(H.lt b hb).1,hb⟩) ?_ (by rw [hf0];exact H.hr),fun E w' ro' H'=>?_,fun b t cells hb=>?_⟩
 ·intro e he
  rw [hf0]
  rcases List.mem_append.1 he with he | he
  ·exact H.he e (List.mem_append_left _ he)
  ·obtain ⟨b,hb,rfl⟩:=List.mem_map.1 he
   exact hB b hb
 ·have hfE:foots (E++stillEx w (foots ex))=foots (E++ex):=by rw [foots_append,foots_append,hf]
  have hnd:=H'.nd
  rw [hfE] at hnd
  have hnd2:=hnd
  rw [foots_append,List.nodup_append] at hnd2
  have hE:∀b∈foots E,w.heap.size<=b\/b∈foots E0:=by
   intro b hb
   have h1:=H'.lt b (by rw [hfE,foots_append];exact List.mem_append_left _ hb)
   rcases h1.2 with h2 | h2
   ·exact .inl h2
   ·rw [foots_append] at h2
    rcases List.mem_append.1 h2 with h2 | h2
    ·exact .inr h2
    ·exact absurd rfl (hnd2.2.2 b hb b h2)
  have hsame:∀k,k < w.heap.size->k ∉ foots E0->w'.heap[k]?=w.heap[k]?:=by
   intro k hk hk0
   by_cases hm:k∈foots ex
   ·have h1:Blk w' k (cellsAt w k).1 (cellsAt w k).2:=H'.he _ (List.mem_append_right _ (List.mem_map.2 ⟨k,hm,rfl⟩))
    exact h1.eq.trans (hB k hm).eq.symm
   ·exact H'.gr.block k hk (by rw [foots_append];exact fun h=>(List.mem_append.1 h).elim hk0 hm)
  have hg:Gr w w' (fun b=>b∈foots E0):=⟨H'.gr.os,H'.gr.tape,H'.gr.output,H'.gr.size,hsame⟩
  refine ⟨⟨H'.gr.os,H'.gr.tape,H'.gr.output,H'.gr.size,fun k hk hne=>hsame k hk (fun h=>hne (hr k h))⟩,⟨H.gr.trans hg (fun i hi=>(H.lt i (by rw [foots_append];exact List.mem_append_left _ hi)).2),hnd,fun b hb=>?_,fun e he=>?_,fun q hq=>?_⟩⟩
  ·rw [foots_append] at hb
   rcases List.mem_append.1 hb with hb | hb
   ·refine ⟨(H'.lt b (by rw [hfE,foots_append];exact List.mem_append_left _ hb)).1,?_⟩
    rcases hE b hb with h | h
    ·exact .inl (Nat.le_trans H.gr.size h)
    ·exact (H.lt b (by rw [foots_append];exact List.mem_append_left _ h)).2
   ·have:=H.lt b (by rw [foots_append];exact List.mem_append_right _ hb)
    exact ⟨Nat.lt_of_lt_of_le this.1 H'.gr.size,this.2⟩
  ·rcases List.mem_append.1 he with he | he
   ·have:=H'.he e (List.mem_append_left _ he)
    rw [hfE] at this
    exact this
   ·refine (H.he e (List.mem_append_right _ he)).keep hg (fun b hlt hb=>?_) (fun b hb h0=>?_)
    ·rw [foots_append] at hb
     refine ⟨fun h=>hb (List.mem_append_left _ h),?_⟩
     rw [foots_append]
     intro h
     rcases List.mem_append.1 h with h | h
     ·rcases hE b h with h2 | h2
      ·omega
      ·exact hb (List.mem_append_left _ h2)
     ·exact hb (List.mem_append_right _ h)
    ·have hnd3:=H.nd
     rw [foots_append,List.nodup_append] at hnd3
     exact hnd3.2.2 b h0 b (mem_foots hb he) rfl
  ·have:=H'.hr q hq
   rw [hfE] at this
   exact this
 ·refine List.mem_map.2 ⟨b,mem_foots (show b∈Ex.foot (.blk b t cells) by simp [Ex.foot]) hb,?_⟩
  rw [cellsAt_of (H.he _ (List.mem_append_right _ hb))]
def b16 (v:Int):List Int:=[v / 256,v % 256]
def b32 (v:Int):List Int:=[v / 16777216,v / 65536 % 256,v / 256 % 256,v % 256]
theorem b32_16 {v:Int} (hv:0<=v/\v < 4294967296):b32 v=b16 (v / 65536)++b16 (v % 65536):=by
 unfold b32 b16
 rw [show v / 65536 / 256=v / 16777216 by omega,show v % 65536 / 256=v / 256 % 256 by omega,show v % 65536 % 256=v % 256 by omega]
 rfl
theorem b16_len (v:Int):(b16 v).length=2:=rfl
theorem b32_len (v:Int):(b32 v).length=4:=rfl
theorem c49 {F:Fr} {w:World} {ex:List Ex} {ro:List Ro} {a:Option Addr} {n c:Nat} {r:Option Nat} {B:List Int} (H:Sat F w (.own 5 1 a n c r (ob B)::ex) ro) {v:Int} (hv:0<=v/\v < 65536) (hn:n<=10000000) :
  Calls pg 49 #[.slice a n c,.int .u16 v] w fun en w'=>∃a' c' r',en=.returned (.slice a' (n+2) c')/\Sat F w' (.own 5 1 a' (n+2) c' r' (ob (B++b16 v))::ex) ro:=by
 apply of49
 unfold SW49
 rw [ishr_of (b:=(8:Int)) 8 (by rfl) (by decide),wu8,wu8,show v / 2 ^ 8 % 256=v / 256 by omega]
 refine sPush0 H (bytes:=1) (by kernel_rfl) (ob (b16 v)) (by rfl) (fun G h=>DeepL.ones [_,_]) (by rfl) (by unfold maxLen;omega) (by omega) ?_
 clear H;intro a' n' c' r' w' hn' _ H
 subst hn'
 rw [<-ob_append] at H
 exact ⟨a',c',r',rfl,H⟩
theorem c112 {F:Fr} {w:World} {ex:List Ex} {ro:List Ro} {a:Option Addr} {n c:Nat} {r:Option Nat} {B:List Int} (H:Sat F w (.own 5 1 a n c r (ob B)::ex) ro) {v:Int} (hv:0<=v/\v < 4294967296) (hn:n<=9000000) :
  Calls pg 112 #[.slice a n c,.int .u32 v] w fun en w'=>∃a' c' r',en=.returned (.slice a' (n+4) c')/\Sat F w' (.own 5 1 a' (n+4) c' r' (ob (B++b32 v))::ex) ro:=by
 apply of112
 unfold SW112
 rw [ishr_of (b:=(16:Int)) 16 (by rfl) (by decide),wu16,wu16,show v / 2 ^ 16 % 65536=v / 65536 by omega]
 refine call_j (c49 H (by omega) (by omega)) ?_
 clear H;rintro _ w ⟨a1,c1,r1,rfl,H⟩
 refine ⟨_,_,_,rfl,?_⟩
 refine call_j (c49 H (by omega) (by omega)) ?_
 clear H;rintro _ w ⟨a2,c2,r2,rfl,H⟩
 refine ⟨_,_,_,rfl,?_⟩
 refine ⟨a2,c2,r2,rfl,?_⟩
 rw [List.append_assoc,<-b32_16 hv] at H
 exact H
def pad4 (n:Nat):Nat:=(4 - n % 4) % 4
theorem c114 {F:Fr} {w:World} {ex:List Ex} {ro:List Ro} {a:Option Addr} {n c:Nat} {r:Option Nat} {B:List Int} (H:Sat F w (.own 5 1 a n c r (ob B)::ex) ro) (hn:n<=9000000) :
  Calls pg 114 #[.slice a n c] w fun en w'=>∃a' c' r',en=.returned (.slice a' (n+pad4 n) c')/\Sat F w' (.own 5 1 a' (n+pad4 n) c' r' (ob (B++List.replicate (pad4 n) 0))::ex) ro:=by
 apply of114
 refine ⟨fun a' n' c' m w=>∃(k:Nat) (r':Option Nat),n'=n+k/\k<=pad4 n/\m=pad4 n - k/\Sat F w (.own 5 1 a' n' c' r' (ob (B++List.replicate k 0))::ex) ro,⟨_,0,r,rfl,Nat.zero_le _,rfl,by simpa using H⟩,?_⟩
 clear H;rintro dd2 a' n' c' m w ⟨k,r',rfl,hk,rfl,H⟩
 refine ⟨by decide,?_⟩
 have ht:(((n+k:Nat):Int)).tmod 4=(((n+k) % 4:Nat):Int):=by rw [Int.tmod_eq_emod_of_nonneg (by omega)];omega
 rw [ht]
 refine ⟨fun hc=>?_,fun hc=>?_⟩
 ·have hc:¬(((n+k) % 4:Nat):Int)=0:=by simpa using hc
  have hlt:k < pad4 n:=by unfold pad4 at hk ⊢;omega
  have hp4:pad4 n<=3:=by unfold pad4;omega
  refine ⟨rfl,?_⟩
  refine sPush0 H (bytes:=1) (by kernel_rfl) (ob [0]) (by rfl) (fun G h=>DeepL.ones [_]) (by rfl) (by unfold maxLen;omega) (by omega) ?_
  clear H;intro a2 n2 c2 r2 w hn2 _ H
  subst hn2
  rw [<-ob_append,List.append_assoc] at H
  refine ⟨pad4 n - (k+1),by omega,k+1,r2,by omega,by omega,rfl,?_⟩
  rw [List.replicate_succ']
  exact H
 ·have hc:(((n+k) % 4:Nat):Int)=0:=by simpa using hc
  have hkp:k=pad4 n:=by unfold pad4 at hk ⊢;omega
  subst hkp
  exact ⟨a',c',r',rfl,H⟩
def hdrB (c t n:Int):List Int:=[128+c,t]++b16 n
theorem c21 {F:Fr} {w:World} {ex:List Ex} {ro:List Ro} (H:Sat F w ex ro) {c t n:Int} (hc:0<=c/\c<=31) (hn:0<=n/\n < 65536) :
  Calls pg 21 #[.agg #[.bool false,.int .u8 c,.int .u8 t,.int .u16 n]] w fun en w'=>∃a' c' r',en=.returned (.tuple #[.slice a' 4 c',.bool true])/\Sat F w' (.own 5 1 a' 4 c' r' (ob (hdrB c t n))::ex) ro:=by
 apply of21
 refine sNew H ?_;clear H;intro b1 w _ H
 refine ⟨_,(H.b0.at0 rfl),?_⟩
 refine ⟨fun h=>by rw [decide_eq_true_eq] at h;omega,fun _=>?_⟩
 refine ⟨_,(H.b0.at0 rfl),?_⟩
 refine ⟨_,(H.b0.at0 rfl),?_⟩
 refine ⟨fun h=>(by cases h),fun _=>?_⟩
 refine ⟨_,(H.b0.at0 rfl),?_⟩
 rw [ior_add (k:=.u8) (by rfl) 7 (a:=128) (b:=c) 1 (by decide) (by decide) hc.1 (by omega) (by simp only [IntKind.bits];omega)]
 refine sNew H ?_;clear H;intro b2 w _ H
 refine ⟨_,(H.b1.at0 rfl),?_⟩
 have H1:=H.toOwn 1 2 (ob [128+c,t]) (by rfl) (by decide) (fun G h=>DeepL.ones [_,_])
 clear H
 refine call_j (c49 H1 hn (by omega)) ?_
 clear H1;rintro _ w ⟨a1,c1,r1,rfl,H⟩
 refine ⟨_,_,_,rfl,?_⟩
 exact ⟨a1,c1,r1,rfl,H.sub (List.Sublist.cons_cons _ (List.sublist_cons_self _ _)) (fun _ h=>h)⟩
theorem c52 {F:Fr} {w:World} {ex:List Ex} {ro:List Ro} (H:Sat F w ex ro) {c t n:Int} (hc:0<=c/\c < 32) (ht:0<=t/\t < 256) (hn:0<=n/\n < 65536) :
  Calls pg 52 #[.agg #[.bool false,.int .u8 c,.int .u8 t,.int .u16 n]] w fun en w'=>∃g,en=.returned (.tuple #[.slice (some ⟨g,0,none⟩) 4 4,.nilIface]) /\
   Sat F w' (.blk g 5 (u8s [128+c,t,n / 256,n % 256])::ex) ro:=by
 apply of52
 refine sNew H ?_;clear H;intro b1 w _ H
 refine sMk H (e:=5) (z:=.int .u8 0) (bytes:=1) (by kernel_rfl) (by kernel_rfl) (by rfl) (by unfold maxLen;omega) (by omega) (n:=4) (by omega) (by omega) ?_
 clear H;intro g w _ H
 replace H:Sat F w (.blk g 5 (u8s [0,0,0,0])::.blk b1 109 [.bool false,.int .u8 c,.int .u8 t,.int .u16 n]::ex) ro:=H
 refine ⟨_,rfl,by omega,by omega,?_⟩
 refine ⟨_,H.bcell (i:=0) (by rw [add_flat];rfl) (by decide),?_⟩
 refine ⟨_,rfl,by omega,by omega,?_⟩
 refine sStB H (i:=0) (by rw [add_flat];rfl) (by decide) ?_
 clear H;intro w _ H
 replace H:Sat F w (.blk g 5 (u8s [128,0,0,0])::.blk b1 109 [.bool false,.int .u8 c,.int .u8 t,.int .u16 n]::ex) ro:=H
 refine ⟨fun _ w=>Sat F w (.blk g 5 (u8s [128,0,0,0])::.blk b1 109 [.bool false,.int .u8 c,.int .u8 t,.int .u16 n]::ex) ro,?_,?_⟩
 ·refine ⟨_,(H.b1.at0 rfl),?_⟩
  exact ⟨fun h=>absurd h (by decide),fun _=>H⟩
 clear H;rintro dd10 w H
 refine ⟨_,(H.b1.at0 rfl),?_⟩
 refine ⟨fun h=>?_,fun _=>?_⟩
 ·rw [decide_eq_true_eq] at h;omega
 refine ⟨_,rfl,by omega,by omega,?_⟩
 replace H:=H.drew;generalize w.drew=w at H ⊢
 refine ⟨_,H.bcell (i:=0) (by rw [add_flat];rfl) (by decide),?_⟩
 refine ⟨_,(H.b1.at0 rfl),?_⟩
 refine ⟨_,rfl,by omega,by omega,?_⟩
 have e1:ior .u8 (([128,0,0,0]:List Int).getD 0 0) (ishl .u8 c (0:Int))=128+c:=by
  rw [ishl_of (b:=(0:Int)) 0 (by rfl) (by decide),wu8,show c*2 ^ 0 % 256=c by omega]
  exact ior_add (k:=.u8) (by rfl) 5 4 (by rfl) (by decide) hc.1 (by omega) (by simp only [IntKind.bits];show (128:Int)+c < _;omega)
 rw [e1]
 refine sStB H (i:=0) (by rw [add_flat];rfl) (by decide) ?_
 clear H;intro w _ H
 refine ⟨_,(H.b1.at0 rfl),?_⟩
 refine ⟨_,rfl,by omega,by omega,?_⟩
 refine sStB H (i:=1) (by rw [add_flat];rfl) (by simp) ?_
 clear H;intro w _ H
 refine ⟨by omega,by omega,?_⟩
 replace H:=H.drew;generalize w.drew=w at H ⊢
 refine ⟨_,(H.b1.at0 rfl),?_⟩
 refine call_j (c89 (o:=2) (n:=2) (c:=2) H hn (by omega) (by simp)) ?_
 clear H
 rintro _ w ⟨rfl,H⟩
 refine ⟨rfl,g,rfl,?_⟩
 refine H.sub ?_ (fun _ h=>h)
 exact List.Sublist.cons_cons _ (List.sublist_cons_self _ _)
/-! ### Chunks -/
def wz (A:List Int) (z:Nat):List Int:=A++List.replicate z 0
theorem wz_len (A:List Int) (z:Nat):(wz A z).length=A.length+z:=by simp [wz]
theorem wz_set1 (A:List Int) {z:Nat} (x:Int) (h:1<=z):(wz A z).set A.length x=wz (A++[x]) (z - 1):=by
 obtain ⟨k,rfl⟩:∃k,z=k+1:=⟨z - 1,by omega⟩
 unfold wz
 rw [List.set_append_right _ _ (Nat.le_refl _),Nat.sub_self,List.replicate_succ,List.set_cons_zero,List.append_assoc]
 rfl
theorem wz_set2 (A:List Int) {z:Nat} (x y:Int) (h:2<=z):((wz A z).set A.length x).set (A.length+1) y=wz (A++[x,y]) (z - 2):=by
 rw [wz_set1 A x (by omega),show A.length+1=(A++[x]).length by simp,wz_set1 _ y (by omega),List.append_assoc]
 rfl
theorem wz_set4 (A:List Int) {z:Nat} (x y u v:Int) (h:4<=z):((((wz A z).set A.length x).set (A.length+1) y).set (A.length+2) u).set (A.length+3) v=wz (A++[x,y,u,v]) (z - 4):=by
 rw [wz_set2 A x y (by omega),show A.length+2=(A++[x,y]).length by simp,show A.length+3=(A++[x,y]).length+1 by simp,wz_set2 _ u v (by omega),List.append_assoc]
 rfl
theorem put16 {F:Fr} {w:World} {g:Nat} {t:TypeId} {A:List Int} {z:Nat} {ex:List Ex} {ro:List Ro} (H:Sat F w (.blk g t (u8s (wz A z))::ex) ro) {o n c:Nat} {v:Int} (ho:o=A.length) (hv:0<=v/\v < 65536) (hn:2<=n) (hz:2<=z) :
  Calls pg 89 #[.slice (some ⟨g,o,none⟩) n c,.int .u16 v] w fun en w'=>en=.returned (.tuple #[])/\Sat F w' (.blk g t (u8s (wz (A++b16 v) (z - 2)))::ex) ro:=by
 subst ho
 refine (c89 H hv hn (by rw [wz_len];omega)).mono ?_
 rintro _ w ⟨rfl,H⟩
 rw [wz_set2 A _ _ hz] at H
 exact ⟨rfl,H⟩
theorem put32 {F:Fr} {w:World} {g:Nat} {t:TypeId} {A:List Int} {z:Nat} {ex:List Ex} {ro:List Ro} (H:Sat F w (.blk g t (u8s (wz A z))::ex) ro) {o n c:Nat} {v:Int} (ho:o=A.length) (hv:0<=v/\v < 4294967296) (hn:4<=n) (hz:4<=z) :
  Calls pg 144 #[.slice (some ⟨g,o,none⟩) n c,.int .u32 v] w fun en w'=>en=.returned (.tuple #[])/\Sat F w' (.blk g t (u8s (wz (A++b32 v) (z - 4)))::ex) ro:=by
 subst ho
 refine (c144 H hv hn (by rw [wz_len];omega)).mono ?_
 rintro _ w ⟨rfl,H⟩
 rw [wz_set4 A _ _ _ _ hz] at H
 exact ⟨rfl,H⟩
theorem cutW {b o l m q:Nat} (h:l < m) (hq:o+l=q):cutA (some ⟨b,o,none⟩) l m 1=some ⟨b,q,none⟩:=by
 subst hq
 unfold cutA
 rw [if_neg (by omega)]
 simp only [Option.map_some,Nat.mul_one,add_flat]
def b64 (v:Int):List Int:=b32 (v / 4294967296)++b32 (v % 4294967296)
theorem put64 {F:Fr} {w:World} {g:Nat} {t:TypeId} {A:List Int} {z:Nat} {ex:List Ex} {ro:List Ro} (H:Sat F w (.blk g t (u8s (wz A z))::ex) ro) {o n c:Nat} {v:Int} (ho:o=A.length) (hv:0<=v/\v < 18446744073709551616) (hn:8<=n) (hc:n<=c) (hz:8<=z) :
  Calls pg 145 #[.slice (some ⟨g,o,none⟩) n c,.int .u64 v] w fun en w'=>en=.returned (.tuple #[])/\Sat F w' (.blk g t (u8s (wz (A++b64 v) (z - 8)))::ex) ro:=by
 subst ho
 apply of145
 refine ⟨_,rfl,by omega,by omega,?_⟩
 refine ⟨_,H.bcell (i:=A.length+7) (by rw [add_flat];rfl) (by rw [wz_len];omega),?_⟩
 rw [ishr_of (b:=(32:Int)) 32 (by rfl) (by decide),wu32,wu32,show v / 2 ^ 32 % 4294967296=v / 4294967296 by omega]
 refine call_j (put32 H rfl (by omega) (by omega) (by omega)) ?_
 clear H;rintro _ w ⟨rfl,H⟩
 refine ⟨rfl,?_⟩
 refine ⟨by omega,by omega,?_⟩
 rw [cutW (q:=A.length+4) (by omega) rfl]
 refine call_j (put32 H (by rw [List.length_append,b32_len]) (by omega) (by omega) (by omega)) ?_
 clear H;rintro _ w ⟨rfl,H⟩
 refine ⟨rfl,?_⟩
 rw [List.append_assoc] at H
 exact ⟨rfl,H⟩
theorem sStW {F:Fr} {w:World} {g:Nat} {t:TypeId} {A:List Int} {z:Nat} {ex:List Ex} {ro:List Ro} (H:Sat F w (.blk g t (u8s (wz A z))::ex) ro) {a:Addr} {x:Int} {K:World->Prop} (ha:a=⟨g,A.length,none⟩) (hz:1<=z)
  (h:∀w',Sat F w' (.blk g t (u8s (wz (A++[x]) (z - 1)))::ex) ro->K w'):∃w',StV pg 5 a (.int .u8 x) w w'/\K w':=by
 refine sStB H ha (by rw [wz_len];omega) fun w' _ H'=>h w' ?_
 rw [wz_set1 A x hz] at H'
 exact H'
theorem u8s_one:∀(D:List Int) (v:Value),v∈u8s D->v.oneCell'=true:=by
 intro D v hv
 unfold u8s at hv
 obtain ⟨x,_,rfl⟩:=List.mem_map.1 hv
 rfl
theorem sCpW {F:Fr} {w:World} {g:Nat} {t:TypeId} {A D:List Int} {z:Nat} {ex:List Ex} {ro:List Ro} (H:Sat F w (.blk g t (u8s (wz A z))::ex) ro) {o dLen dCap sLen sCap:Nat} {s:Option Addr} (hD:Ro.B D s sLen sCap∈ro) (h0:0 < sLen)
  (ho:o=A.length) (hd:sLen<=dLen) (hz:D.length<=z) {ty:TypeId} {K:Int->World->Prop} (h:∀w',w.grownBy w' (some g)->Sat F w' (.blk g t (u8s (wz (A++D) (z - D.length)))::ex) ro->K sLen w') :
  ∃n,∃w',(Builtin.copy_ #[22,22] ty #[.slice (some ⟨g,o,none⟩) dLen dCap,.slice s sLen sCap]).run pg w=.ok (.int .i64 n) w'/\K n w':=by
 subst ho
 have hl:=H.lenB hD
 obtain ⟨b,q,rfl,hcell⟩:=H.elt hD h0
 have hcl:(u8s D).length=D.length:=u8s_length D
 refine sCp H (elem:=5) (bytes:=1) (by kernel_rfl) (u8s D) (by rw [hcl,hl];exact (Nat.min_eq_left hd).symm) (fun j v hv=>?_) (by rw [hcl,u8s_length,wz_len];omega) (u8s_one D) fun w' hg H'=>?_
 ·unfold u8s at hv
  rw [List.getElem?_map] at hv
  rw [add_flat]
  refine hcell j v ?_
  unfold ob
  rw [List.getElem?_map]
  cases hj:D[j]? with
  | none=>rw [hj] at hv;cases hv
  | some x=>rw [hj] at hv;cases hv;rfl
 ·have e:(u8s (wz A z)).take A.length++u8s D++(u8s (wz A z)).drop (A.length+(u8s D).length)=u8s (wz (A++D) (z - D.length)):=by
   rw [hcl]
   unfold u8s wz
   rw [<-List.map_take,<-List.map_drop,<-List.map_append,<-List.map_append,List.take_left',List.drop_append,List.drop_replicate]
   ·congr 1
    rw [List.drop_eq_nil_of_le (by omega)]
    simp
   ·rfl
  rw [e] at H'
  rw [hcl,hl]
  exact h w' hg H'
def MPost (F:Fr) (ex:List Ex) (ro:List Ro) (bs:List Int) (en:Ending) (w':World):Prop:=
 ∃a c ro',en=.returned (.tuple #[.slice a bs.length c,.nilIface])/\(∀r∈ro,r∈ro')/\Sat F w' ex ro'/\Ro.B bs a bs.length c∈ro'
theorem MPost.blk {F:Fr} {w:World} {g:Nat} {exs ex:List Ex} {ro ro':List Ro} {bs:List Int} {n:Nat} (H:Sat F w (.blk g 5 (u8s bs)::exs) ro') (hs:ex.Sublist exs) (hr:∀r∈ro,r∈ro') (hn:n=bs.length) (hm:n<=maxLen) :
  MPost F ex ro bs (.returned (.tuple #[.slice (some ⟨g,0,none⟩) n n,.nilIface])) w:=by
 subst hn
 have H1:=H.blkRow 1 bs.length (ob bs) (by rw [u8s_length,Nat.mul_one]) hm (fun G h=>by
  have e:u8s bs=bs.map (Value.int .u8):=rfl
  have e2:ob bs=(bs.map (Value.int .u8)).map .one:=by simp [ob]
  rw [e,e2];exact DeepL.ones _)
 exact ⟨_,_,_,rfl,fun r h=>mt (hr r h),H1.sub hs (fun _ h=>h),ms⟩
theorem MPost.own {F:Fr} {w:World} {exs ex:List Ex} {ro ro':List Ro} {bs:List Int} {n c:Nat} {a:Option Addr} {r:Option Nat} (H:Sat F w (.own 5 1 a n c r (ob bs)::exs) ro') (hs:ex.Sublist exs) (hr:∀r∈ro,r∈ro') (hn:n=bs.length) :
  MPost F ex ro bs (.returned (.tuple #[.slice a n c,.nilIface])) w:=by
 subst hn
 exact ⟨_,_,_,rfl,fun r h=>mt (hr r h),H.freeze.sub hs (fun _ h=>h),ms⟩
theorem wz_start {N:Nat} (h:4<=N):List.replicate N (0:Int)=wz [0,0,0,0] (N - 4):=by
 obtain ⟨k,rfl⟩:∃k,N=k+4:=⟨N - 4,by omega⟩
 rfl
theorem u8s_z (N:Nat):List.replicate N (Value.int .u8 0)=u8s (List.replicate N 0):=by simp [u8s]
theorem hdrM {F:Fr} {w:World} {ex:List Ex} {ro:List Ro} (H:Sat F w ex ro) {c t n:Int} (hc:0<=c/\c < 32) (ht:0<=t/\t < 256) (hn:0<=n/\n < 65536) :
  Calls pg 52 #[.agg #[.bool false,.int .u8 c,.int .u8 t,.int .u16 n]] w fun en w'=>∃g,en=.returned (.tuple #[.slice (some ⟨g,0,none⟩) 4 4,.nilIface])/\Sat F w' ex (Ro.B (hdrB c t n) (some ⟨g,0,none⟩) 4 4::ro):=by
 refine (c52 H hc ht hn).mono ?_
 rintro _ w ⟨g,rfl,H⟩
 exact ⟨g,rfl,H.blkRow 1 4 (ob (hdrB c t n)) (by rfl) (by decide) (fun G h=>DeepL.ones [_,_,_,_])⟩
theorem sCpH {F:Fr} {w:World} {g:Nat} {t:TypeId} {hd B:List Int} {ex:List Ex} {ro:List Ro} (H:Sat F w (.blk g t (u8s (wz ([0,0,0,0]++B) 0))::ex) ro) {dLen dCap sCap:Nat} {s:Option Addr} (hD:Ro.B hd s 4 sCap∈ro) (hd4:4<=dLen)
  {ty:TypeId} {K:Int->World->Prop} (h:∀w',Sat F w' (.blk g t (u8s (hd++B))::ex) ro->K 4 w') :
  ∃n,∃w',(Builtin.copy_ #[22,22] ty #[.slice (some ⟨g,0,none⟩) dLen dCap,.slice s 4 sCap]).run pg w=.ok (.int .i64 n) w'/\K n w':=by
 have hl:=H.lenB hD
 obtain ⟨b,q,rfl,hcell⟩:=H.elt hD (by decide)
 have hcl:(u8s hd).length=4:=by rw [u8s_length,hl]
 have hBl:(wz ([0,0,0,0]++B) 0).length=4+B.length:=by rw [wz_len];simp;omega
 refine sCp H (elem:=5) (bytes:=1) (by kernel_rfl) (u8s hd) (by rw [hcl];exact (Nat.min_eq_left hd4).symm) (fun j v hv=>?_) (by rw [hcl,u8s_length,hBl];omega) (u8s_one hd) fun w' _ H'=>?_
 ·unfold u8s at hv
  rw [List.getElem?_map] at hv
  rw [add_flat]
  refine hcell j v ?_
  unfold ob
  rw [List.getElem?_map]
  cases hj:hd[j]? with
  | none=>rw [hj] at hv;cases hv
  | some x=>rw [hj] at hv;cases hv;rfl
 ·have e:(u8s (wz ([0,0,0,0]++B) 0)).take 0++u8s hd++(u8s (wz ([0,0,0,0]++B) 0)).drop (0+(u8s hd).length)=u8s (hd++B):=by
   rw [hcl]
   simp [u8s,wz]
  rw [e] at H'
  have h2:=h w' H'
  rw [hcl]
  exact h2
theorem c202 {w:World} {v:Option Addr}:Calls pg 202 #[.pointer v] w fun en w'=>en=.returned (.int .i64 12)/\w'=w:=by
 apply of202
 exact ⟨rfl,rfl⟩
theorem c185 {w:World} {v:Option Addr}:Calls pg 185 #[.pointer v] w fun en w'=>en=.returned (.int .i64 12)/\w'=w:=by
 apply of185
 exact ⟨rfl,rfl⟩
def wrTwo (c t s m:Int):List Int:=hdrB c t 2++(b32 s++b32 m)
theorem c201 {F:Fr} {w:World} {ex:List Ex} {ro:List Ro} (H:Sat F w ex ro) {s m:Int} (hs:0<=s/\s < 4294967296) (hm:0<=m/\m < 4294967296) :
  Calls pg 201 #[.agg #[.int .u32 s,.int .u32 m]] w (MPost F ex ro (wrTwo 1 206 s m)):=by
 apply of201
 refine sNew H ?_;clear H;intro b1 w _ H
 refine call_j c202 ?_
 rintro _ w' ⟨rfl,rfl⟩
 refine ⟨_,rfl,?_⟩
 refine sMk H (e:=5) (z:=.int .u8 0) (bytes:=1) (by kernel_rfl) (by kernel_rfl) (by rfl) (by unfold maxLen;omega) (by omega) (n:=12) (by rfl) (by rfl) ?_
 clear H;intro g w _ H
 rw [u8s_z,wz_start (by decide)] at H
 refine ⟨by omega,by omega,?_⟩
 refine ⟨_,(H.b1.at0 rfl),?_⟩
 rw [cutW (q:=4) (by decide) rfl]
 refine call_j (put32 H (by rfl) hs (by decide) (by decide)) ?_
 clear H;rintro _ w ⟨rfl,H⟩
 refine ⟨rfl,?_⟩
 refine ⟨by omega,by omega,?_⟩
 replace H:=H.drew;generalize w.drew=w at H ⊢
 refine ⟨_,(H.b1.at0 rfl),?_⟩
 rw [cutW (q:=8) (by decide) rfl]
 refine call_j (put32 H (by rfl) hm (by decide) (by decide)) ?_
 clear H;rintro _ w ⟨rfl,H⟩
 refine ⟨rfl,?_⟩
 refine sNew H ?_;clear H;intro b11 w _ H
 refine sSw0 H rfl (by kernel_rfl) (by rfl) (by rfl) ?_;clear H;intro w _ H
 refine ⟨_,_,_,_,H.b0.ld,?_⟩
 refine call_j (hdrM H (by decide) (by decide) (by decide)) ?_
 clear H;rintro _ w ⟨g2,rfl,H⟩
 refine ⟨_,_,_,_,rfl,?_⟩
 refine ⟨by simp [isIf],?_⟩
 refine fF ?_
 have H1:=H.r1
 clear H
 rw [List.append_assoc] at H1
 refine sCpH H1 ms (by decide) ?_
 clear H1;intro w H
 exact MPost.blk H ((List.sublist_cons_self _ _).trans (List.sublist_cons_self _ _)) (fun r h=>mt h) (by rfl) (by decide)
theorem c187 {F:Fr} {w:World} {ex:List Ex} {ro:List Ro} (H:Sat F w ex ro) {v:Option Addr}:Calls pg 187 #[.pointer v] w fun en w'=>
  en=.returned (.agg #[.bool false,.int .u8 5,.int .u8 205,.int .u16 2])/\Sat F w' ex ro:=by
 apply of187
 refine sNew H ?_;clear H;intro b1 w _ H
 refine sSw0 H rfl (by kernel_rfl) (by rfl) (by rfl) ?_;clear H;intro w _ H
 refine ⟨_,_,_,_,H.b0.ld,?_⟩
 exact ⟨rfl,H.d1⟩
theorem c184 {F:Fr} {w:World} {ex:List Ex} {ro:List Ro} (H:Sat F w ex ro) {s m:Int} (hs:0<=s/\s < 4294967296) (hm:0<=m/\m < 4294967296) :
  Calls pg 184 #[.agg #[.int .u32 s,.int .u32 m]] w (MPost F ex ro (wrTwo 5 205 s m)):=by
 apply of184
 refine sNew H ?_;clear H;intro b1 w _ H
 refine call_j c185 ?_
 rintro _ w' ⟨rfl,rfl⟩
 refine ⟨_,rfl,?_⟩
 refine sMk H (e:=5) (z:=.int .u8 0) (bytes:=1) (by kernel_rfl) (by kernel_rfl) (by rfl) (by unfold maxLen;omega) (by omega) (n:=12) (by rfl) (by rfl) ?_
 clear H;intro g w _ H
 rw [u8s_z,wz_start (by decide)] at H
 refine ⟨by omega,by omega,?_⟩
 refine ⟨_,(H.b1.at0 rfl),?_⟩
 rw [cutW (q:=4) (by decide) rfl]
 refine call_j (put32 H (by rfl) hs (by decide) (by decide)) ?_
 clear H;rintro _ w ⟨rfl,H⟩
 refine ⟨rfl,?_⟩
 refine ⟨by omega,by omega,?_⟩
 replace H:=H.drew;generalize w.drew=w at H ⊢
 refine ⟨_,(H.b1.at0 rfl),?_⟩
 rw [cutW (q:=8) (by decide) rfl]
 refine call_j (put32 H (by rfl) hm (by decide) (by decide)) ?_
 clear H;rintro _ w ⟨rfl,H⟩
 refine ⟨rfl,?_⟩
 refine call_j (c187 H) ?_
 clear H;rintro _ w ⟨rfl,H⟩
 refine ⟨_,_,_,_,rfl,?_⟩
 refine call_j (hdrM H (by decide) (by decide) (by decide)) ?_
 clear H;rintro _ w ⟨g2,rfl,H⟩
 refine ⟨_,_,_,_,rfl,?_⟩
 refine ⟨by simp [isIf],?_⟩
 refine fF ?_
 rw [List.append_assoc] at H
 refine sCpH H ms (by decide) ?_
 clear H;intro w H
 exact MPost.blk H (List.sublist_cons_self _ _) (fun r h=>mt h) (by rfl) (by decide)
theorem wz_pad (A:List Int) {z:Nat} (k:Nat) (h:k<=z):wz A z=wz (A++List.replicate k 0) (z - k):=by
 unfold wz
 rw [List.append_assoc,List.replicate_append_replicate,show k+(z - k)=z by omega]
theorem sAppR {F:Fr} {w:World} {A D:List Int} {a s:Option Addr} {n c sn sc:Nat} {r:Option Nat} {ex:List Ex} {ro:List Ro} (H:Sat F w (.own 5 1 a n c r (ob A)::ex) ro) (hD:Ro.B D s sn sc∈ro) (h0:0 < sn) (hs:n+sn<=100000000) {ty:TypeId} {K:Option Addr->Nat->Nat->World->Prop}
  (hK:∀a' n' c' r' w',n'=n+sn->w.grownBy w' r->Sat F w' (.own 5 1 a' n' c' r' (ob (A++D))::ex) ro->K a' n' c' w') :
  ∃a' n' c',∃w',(Builtin.append_ #[22,22] ty #[.slice a n c,.slice s sn sc]).run pg w=.ok (.slice a' n' c') w'/\K a' n' c' w':=by
 have hl:=H.lenB hD
 obtain ⟨b,q,rfl,hcell⟩:=H.elt hD h0
 refine sApp0 H (bytes:=1) (by kernel_rfl) (u8s D) (ob D) (by rw [u8s_length,hl,Nat.mul_one]) (fun j v hv=>?_) (fun G h=>?_) (u8s_one D) (by unfold maxLen;omega) (by omega) fun a' n' c' r' w' hn hg H'=>hK a' n' c' r' w' hn hg ?_
 ·unfold u8s at hv
  rw [List.getElem?_map] at hv
  rw [add_flat]
  refine hcell j v ?_
  unfold ob
  rw [List.getElem?_map]
  cases hj:D[j]? with
  | none=>rw [hj] at hv;cases hv
  | some x=>rw [hj] at hv;cases hv;rfl
 ·have e2:ob D=(D.map (Value.int .u8)).map .one:=by simp [ob]
  rw [e2]
  exact DeepL.ones _
 ·rw [ob_append]
  exact H'
theorem hdrOwn {F:Fr} {w:World} {ex:List Ex} {ro:List Ro} (H:Sat F w ex ro) {c t n:Int} (hc:0<=c/\c < 32) (ht:0<=t/\t < 256) (hn:0<=n/\n < 65536) :
  Calls pg 52 #[.agg #[.bool false,.int .u8 c,.int .u8 t,.int .u16 n]] w fun en w'=>∃g,en=.returned (.tuple #[.slice (some ⟨g,0,none⟩) 4 4,.nilIface])/\Sat F w' (.own 5 1 (some ⟨g,0,none⟩) 4 4 (some g) (ob (hdrB c t n))::ex) ro:=by
 refine (c52 H hc ht hn).mono ?_
 rintro _ w ⟨g,rfl,H⟩
 exact ⟨g,rfl,H.toOwn 1 4 (ob (hdrB c t n)) (by rfl) (by decide) (fun G h=>DeepL.ones [_,_,_,_])⟩
def wPar:Par->List Int
 | (a,b)=>b16 a++b16 b
def wSli:Sli->List Int
 | (f,n,p)=>b32 (f*524288+n*64+p)
def wEnt:Ent->List Int
 | (s,n)=>b32 s++[n,0,0,0]
theorem wPar_len (x:Par):(wPar x).length=4:=rfl
theorem wSli_len (x:Sli):(wSli x).length=4:=rfl
theorem wEnt_len (x:Ent):(wEnt x).length=8:=rfl
def wrFb (c t k s m:Int) (B:List Int):List Int:=hdrB c t k++(b32 s++b32 m++B)
theorem sli_v {f n p:Int} (hf:0<=f/\f < 8192) (hn:0<=n/\n < 8192) (hp:0<=p/\p < 64) :
  ior .u32 (ior .u32 (ishl .u32 (iand .u32 (IntKind.u32.wrap f) (8191:Int)) (19:Int)) (ishl .u32 (iand .u32 (IntKind.u32.wrap n) (8191:Int)) (6:Int))) (iand .u32 (IntKind.u32.wrap p) (63:Int))=f*524288+n*64+p:=by
 rw [wu32,wu32,wu32,show f % 4294967296=f by omega,show n % 4294967296=n by omega,show p % 4294967296=p by omega]
 rw [iand_low (k:=.u32) (by rfl) 13 (a:=f) (m:=8191) hf.1 (by simp only [IntKind.bits];omega) (by decide) (by decide),iand_low (k:=.u32) (by rfl) 13 (a:=n) (m:=8191) hn.1 (by simp only [IntKind.bits];omega) (by decide) (by decide),
  iand_low (k:=.u32) (by rfl) 6 (a:=p) (m:=63) hp.1 (by simp only [IntKind.bits];omega) (by decide) (by decide)]
 rw [ishl_of 19 (by rfl) (by decide),ishl_of 6 (by rfl) (by decide),wu32,wu32]
 rw [show f % 2 ^ 13*2 ^ 19 % 4294967296=f*524288 by omega,show n % 2 ^ 13*2 ^ 6 % 4294967296=n*64 by omega,show p % 2 ^ 6=p by omega]
 rw [ior_add (k:=.u32) (by rfl) 19 f (a:=f*524288) (b:=n*64) (by omega) hf.1 (by omega) (by omega) (by simp only [IntKind.bits];omega)]
 exact ior_add (by rfl) 6 (f*8192+n) (by omega) (by omega) hp.1 (by omega) (by simp only [IntKind.bits];omega)
theorem c180 {w:World} {b n k:Nat} {l:Option Addr} (hc:w.cell? ⟨b,2,none⟩=some (.slice l n k)) (hn:n<=100000):Calls pg 180 #[.pointer (some ⟨b,0,none⟩)] w fun en w'=>en=.returned (.int .i64 ((12+4*n:Nat):Int))/\w'=w:=by
 apply of180
 refine ⟨_,rfl,?_⟩
 refine ⟨_,_,_,hc,?_⟩
 refine ⟨?_,rfl⟩
 rw [wi64_of (n:=(n:Int)*4) (by omega) (by omega),wi64_of (by omega) (by omega)]
 congr 2
 omega
theorem c182 {F:Fr} {w:World} {e0:Ex} {ex:List Ex} {ro:List Ro} {b n k:Nat} {T:TypeId} {v0 v1:Value} {l:Option Addr} (H:Sat F w (e0::.blk b T [v0,v1,.slice l n k]::ex) ro) (hn:n<=60000) :
  Calls pg 182 #[.pointer (some ⟨b,0,none⟩)] w fun en w'=>en=.returned (.agg #[.bool false,.int .u8 1,.int .u8 205,.int .u16 ((2+1*n:Nat):Int)])/\Sat F w' (e0::.blk b T [v0,v1,.slice l n k]::ex) ro:=by
 apply of182
 refine sNew H ?_;clear H;intro b9 w _ H
 refine call_j (c180 (show w.cell? ⟨b,2,none⟩=some (.slice l n k) from H.b2.cell rfl) (by omega)) ?_
 rintro _ w' ⟨rfl,rfl⟩
 refine ⟨_,rfl,?_⟩
 refine ⟨by decide,?_⟩
 have e:IntKind.u16.wrap (IntKind.i64.wrap (IntKind.i64.wrap ((((12+4*n:Nat):Int).tdiv 4)) - 1))=((2+1*n:Nat):Int):=by
  rw [Int.tdiv_eq_ediv_of_nonneg (by omega),wi64_of (n:=((12+4*n:Nat):Int) / 4) (by omega) (by omega),wi64_of (by omega) (by omega),wu16]
  omega
 rw [e]
 refine sSw0 H rfl (by kernel_rfl) (by rfl) (by rfl) ?_;clear H;intro w _ H
 refine ⟨_,_,_,_,H.b0.ld,?_⟩
 exact ⟨rfl,H.d1⟩
theorem c179 {F:Fr} {w:World} {ex:List Ex} {ro:List Ro} {s m:Int} {L:List Par} {l:Option Addr} {k:Nat} (H:Sat F w ex ro) (hs:0<=s/\s < 4294967296) (hm:0<=m/\m < 4294967296) (hl:Ro.deep [.row 2 (L.flatMap Par.dat)] [.slice l L.length k]∈ro) (hn:L.length<=253) (hR:∀x∈L,(0<=x.1/\x.1 < 65536)/\0<=x.2/\x.2 < 65536) :
  Calls pg 179 #[.agg #[.int .u32 s,.int .u32 m,.slice l L.length k]] w (MPost F ex ro (wrFb 1 205 ((2+1*L.length:Nat):Int) s m (L.flatMap wPar))):=by
 apply of179
 refine sNew H ?_;clear H;intro b1 w _ H
 refine ⟨_,_,_,(H.b0.at0 rfl),?_⟩
 refine ⟨fun h=>by rw [decide_eq_true_eq,wi64_of (by omega) (by omega)] at h;omega,fun _=>?_⟩
 refine ⟨_,_,_,(H.b0.at0 rfl),?_⟩
 refine sMk H (e:=5) (z:=.int .u8 0) (bytes:=1) (by kernel_rfl) (by kernel_rfl) (by rfl) (by unfold maxLen;omega) (by omega) (n:=8+4*L.length) (by rw [wi64_of (n:=(L.length:Int)*4) (by omega) (by omega),wi64_of (by omega) (by omega)];omega) (by rw [wi64_of (n:=(L.length:Int)*4) (by omega) (by omega),wi64_of (by omega) (by omega)];omega) ?_
 clear H;intro g w _ H
 obtain ⟨N,hN⟩:∃N,N=8+4*L.length:=⟨_,rfl⟩
 rw [<-hN] at H ⊢
 rw [u8s_z] at H
 replace H:Sat F w (.blk g 5 (u8s (wz [] N))::_) ro:=H
 refine ⟨_,(H.b1.at0 rfl),?_⟩
 refine call_j (put32 H (by rfl) hs (by omega) (by omega)) ?_
 clear H;rintro _ w ⟨rfl,H⟩
 refine ⟨rfl,?_⟩
 refine ⟨by omega,by omega,?_⟩
 replace H:=H.drew;generalize w.drew=w at H ⊢
 refine ⟨_,(H.b1.at0 rfl),?_⟩
 rw [cutW (q:=4) (by omega) (by rfl)]
 refine call_j (put32 H (by rfl) hm (by omega) (by omega)) ?_
 clear H;rintro _ w ⟨rfl,H⟩
 refine ⟨rfl,?_⟩
 refine ⟨fun i q w=>∃j:Nat,i=(j:Int)/\j+q=L.length/\Sat F w (.blk g 5 (u8s (wz (b32 s++b32 m++(L.take j).flatMap wPar) (N - 8 - 4*j)))::.blk b1 210 [.int .u32 s,.int .u32 m,.slice l L.length k]::ex) ro,⟨L.length,0,rfl,by omega,H.sub (List.Sublist.refl _) (fun _ h=>h)⟩,?_⟩
 clear H;rintro dd i q w ⟨j,rfl,hjq,H⟩
 refine ⟨_,_,_,(H.b1.at0 rfl),?_⟩
 have hBl:(b32 s++b32 m++(L.take j).flatMap wPar).length=8+4*j:=by
  rw [List.length_append,List.length_append,b32_len,b32_len,flat_bd wPar_len,List.length_take]
  omega
 refine ⟨fun hc=>?_,fun hc=>?_⟩
 ·rw [decide_eq_true_eq] at hc
  have hjl:j < L.length:=by omega
  have htk:L.take (j+1)=L.take j++[L[j]]:=by rw [List.take_add_one,List.getElem?_eq_getElem hjl];rfl
  have hRj:=hR L[j] (List.getElem_mem hjl)
  rw [wi64_of (n:=4*(j:Int)) (by omega) (by omega),wi64_of (n:=8+4*(j:Int)) (by omega) (by omega),wi64_of (n:=8+4*(j:Int)+2) (by omega) (by omega),show (8+4*(j:Int)).toNat=8+4*j by omega,show (8+4*(j:Int)+2).toNat=10+4*j by omega]
  refine ⟨by omega,by omega,?_⟩
  replace H:=H.drew;generalize w.drew=w at H ⊢
  refine ⟨_,_,_,(H.b1.at0 rfl),?_⟩
  obtain ⟨p,us,e,hus,hcell,H1⟩:=H.eltF Par.dat_lenK (by decide) hl (j:=j) hjl
  obtain ⟨⟨e0,e1⟩,hE⟩:∃E,L[j]=E:=⟨_,rfl⟩
  rw [hE] at H1 htk hRj
  replace hRj:(0<=e0/\e0 < 65536)/\0<=e1/\e1 < 65536:=hRj
  obtain rfl:=H1.ones (us:=[.int .u16 e0,.int .u16 e1]) ms
  clear H
  have H:Sat F w _ (.deep (Par.dat (e0,e1)) [.int .u16 e0,.int .u16 e1]::_):=H1
  clear H1
  refine ⟨p,e,by omega,by omega,?_⟩
  refine ⟨_,(by rw [show (j:Int).toNat*2=j*2 by omega];exact hcell 0 _ rfl),?_⟩
  rw [cutW (l:=8+4*j) (q:=8+4*j) (by omega) (by omega),cutW (l:=10+4*j) (q:=10+4*j) (by omega) (by omega)]
  refine call_j (put16 H hBl.symm hRj.1 (by omega) (by omega)) ?_
  clear H hcell;rintro _ w ⟨rfl,H⟩
  refine ⟨rfl,?_⟩
  refine ⟨by omega,by omega,?_⟩
  replace H:=H.drew;generalize w.drew=w at H ⊢
  refine ⟨_,_,_,(H.b1.at0 rfl),?_⟩
  obtain ⟨p,us,e,hus,hcell,H1⟩:=H.eltF Par.dat_lenK (by decide) (mt hl) (j:=j) hjl
  rw [hE] at H1
  obtain rfl:=H1.ones (us:=[.int .u16 e0,.int .u16 e1]) ms
  clear H1
  refine ⟨p,e,by omega,by omega,?_⟩
  refine ⟨_,(by rw [show (j:Int).toNat*2=j*2 by omega];exact hcell 1 _ rfl),?_⟩
  refine call_j (put16 H (by rw [List.length_append,hBl,b16_len];omega) hRj.2 (by omega) (by omega)) ?_
  clear H hcell;rintro _ w ⟨rfl,H⟩
  refine ⟨rfl,?_⟩
  refine ⟨q - 1,by omega,j+1,?_,by omega,?_⟩
  ·rw [wi64_of (by omega) (by omega)];simp
  ·rw [htk,List.flatMap_append]
   simp only [List.flatMap_cons,List.flatMap_nil,List.append_nil]
   have e4:N - 8 - 4*j - 2 - 2=N - 8 - 4*(j+1):=by omega
   rw [e4,List.append_assoc,List.append_assoc] at H
   rw [<-List.append_assoc]
   exact H.sub (List.Sublist.refl _) (fun r h=>mt h)
 ·rw [decide_eq_false_iff_not] at hc
  obtain rfl:j=L.length:=by omega
  rw [List.take_length] at H hBl
  refine call_j (c182 H (by omega)) ?_
  clear H;rintro _ w ⟨rfl,H⟩
  refine ⟨_,_,_,_,rfl,?_⟩
  refine sNew H ?_;clear H;intro b33 w _ H
  refine sSw0 H rfl (by kernel_rfl) (by rfl) (by rfl) ?_;clear H;intro w _ H
  refine ⟨_,_,_,_,H.b0.ld,?_⟩
  have e0:N - 8 - 4*L.length=0:=by omega
  rw [e0] at H
  have H1:=H.r1
  clear H
  rw [show wz (b32 s++b32 m++L.flatMap wPar) 0=b32 s++b32 m++L.flatMap wPar by simp [wz]] at H1
  have H:=H1.blkRow 1 N (ob (b32 s++b32 m++L.flatMap wPar)) (by rw [u8s_length,hBl,hN,Nat.mul_one]) (by unfold maxLen;omega) (fun G h=>by
   have e2:∀B:List Int,ob B=(u8s B).map .one:=fun B=>by simp [ob,u8s]
   rw [e2];exact DeepL.ones _)
  clear H1
  refine call_j (hdrOwn H (by decide) (by decide) (by omega)) ?_
  clear H;rintro _ w ⟨g2,rfl,H⟩
  refine ⟨_,_,_,_,rfl,?_⟩
  refine ⟨by simp [isIf],?_⟩
  refine fF ?_
  refine sAppR H ms (by omega) (by omega) ?_
  clear H;intro a2 n2 c2 r2 w hn2 _ H
  exact MPost.own H (by repeat (first | exact List.Sublist.refl _ | apply List.Sublist.cons)) (fun r h=>mt h) (by rw [hn2,hN];unfold wrFb;rw [List.length_append,hBl];rfl)
theorem c206 {w:World} {b n k:Nat} {l:Option Addr} (hc:w.cell? ⟨b,2,none⟩=some (.slice l n k)) (hn:n<=100000):Calls pg 206 #[.pointer (some ⟨b,0,none⟩)] w fun en w'=>en=.returned (.int .i64 ((12+4*n:Nat):Int))/\w'=w:=by
 apply of206
 refine ⟨_,rfl,?_⟩
 refine ⟨_,_,_,hc,?_⟩
 refine ⟨?_,rfl⟩
 rw [wi64_of (n:=(n:Int)*4) (by omega) (by omega),wi64_of (by omega) (by omega)]
 congr 2
 omega
theorem c208 {F:Fr} {w:World} {e0:Ex} {ex:List Ex} {ro:List Ro} {b n k:Nat} {T:TypeId} {v0 v1:Value} {l:Option Addr} (H:Sat F w (e0::.blk b T [v0,v1,.slice l n k]::ex) ro) (hn:n<=60000) :
  Calls pg 208 #[.pointer (some ⟨b,0,none⟩)] w fun en w'=>en=.returned (.agg #[.bool false,.int .u8 2,.int .u8 206,.int .u16 ((2+1*n:Nat):Int)])/\Sat F w' (e0::.blk b T [v0,v1,.slice l n k]::ex) ro:=by
 apply of208
 refine sNew H ?_;clear H;intro b9 w _ H
 refine call_j (c206 (show w.cell? ⟨b,2,none⟩=some (.slice l n k) from H.b2.cell rfl) (by omega)) ?_
 rintro _ w' ⟨rfl,rfl⟩
 refine ⟨_,rfl,?_⟩
 refine ⟨by decide,?_⟩
 have e:IntKind.u16.wrap (IntKind.i64.wrap (IntKind.i64.wrap ((((12+4*n:Nat):Int).tdiv 4)) - 1))=((2+1*n:Nat):Int):=by
  rw [Int.tdiv_eq_ediv_of_nonneg (by omega),wi64_of (n:=((12+4*n:Nat):Int) / 4) (by omega) (by omega),wi64_of (by omega) (by omega),wu16]
  omega
 rw [e]
 refine sSw0 H rfl (by kernel_rfl) (by rfl) (by rfl) ?_;clear H;intro w _ H
 refine ⟨_,_,_,_,H.b0.ld,?_⟩
 exact ⟨rfl,H.d1⟩
theorem c205 {F:Fr} {w:World} {ex:List Ex} {ro:List Ro} {s m:Int} {L:List Sli} {l:Option Addr} {k:Nat} (H:Sat F w ex ro) (hs:0<=s/\s < 4294967296) (hm:0<=m/\m < 4294967296) (hl:Ro.deep [.row 3 (L.flatMap Sli.dat)] [.slice l L.length k]∈ro) (hn:L.length<=253) (hR:∀x∈L,(0<=x.1/\x.1 < 8192)/\(0<=x.2.1/\x.2.1 < 8192)/\0<=x.2.2/\x.2.2 < 64) :
  Calls pg 205 #[.agg #[.int .u32 s,.int .u32 m,.slice l L.length k]] w (MPost F ex ro (wrFb 2 206 ((2+1*L.length:Nat):Int) s m (L.flatMap wSli))):=by
 apply of205
 refine sNew H ?_;clear H;intro b1 w _ H
 refine ⟨_,_,_,(H.b0.at0 rfl),?_⟩
 refine ⟨fun h=>by rw [decide_eq_true_eq,wi64_of (by omega) (by omega)] at h;omega,fun _=>?_⟩
 refine ⟨_,_,_,(H.b0.at0 rfl),?_⟩
 refine sMk H (e:=5) (z:=.int .u8 0) (bytes:=1) (by kernel_rfl) (by kernel_rfl) (by rfl) (by unfold maxLen;omega) (by omega) (n:=8+4*L.length) (by rw [wi64_of (n:=(L.length:Int)*4) (by omega) (by omega),wi64_of (by omega) (by omega)];omega) (by rw [wi64_of (n:=(L.length:Int)*4) (by omega) (by omega),wi64_of (by omega) (by omega)];omega) ?_
 clear H;intro g w _ H
 obtain ⟨N,hN⟩:∃N,N=8+4*L.length:=⟨_,rfl⟩
 rw [<-hN] at H ⊢
 rw [u8s_z] at H
 replace H:Sat F w (.blk g 5 (u8s (wz [] N))::_) ro:=H
 refine ⟨_,(H.b1.at0 rfl),?_⟩
 refine call_j (put32 H (by rfl) hs (by omega) (by omega)) ?_
 clear H;rintro _ w ⟨rfl,H⟩
 refine ⟨rfl,?_⟩
 refine ⟨by omega,by omega,?_⟩
 replace H:=H.drew;generalize w.drew=w at H ⊢
 refine ⟨_,(H.b1.at0 rfl),?_⟩
 rw [cutW (q:=4) (by omega) (by rfl)]
 refine call_j (put32 H (by rfl) hm (by omega) (by omega)) ?_
 clear H;rintro _ w ⟨rfl,H⟩
 refine ⟨rfl,?_⟩
 refine ⟨_,_,_,(H.b1.at0 rfl),?_⟩
 refine ⟨fun i q w=>∃j:Nat,i=(j:Int)/\j+q=L.length/\Sat F w (.blk g 5 (u8s (wz (b32 s++b32 m++(L.take j).flatMap wSli) (N - 8 - 4*j)))::.blk b1 227 [.int .u32 s,.int .u32 m,.slice l L.length k]::ex) ro,⟨L.length,0,rfl,by omega,H.sub (List.Sublist.refl _) (fun _ h=>h)⟩,?_⟩
 clear H;rintro dd i q w ⟨j,rfl,hjq,H⟩
 have hBl:(b32 s++b32 m++(L.take j).flatMap wSli).length=8+4*j:=by
  rw [List.length_append,List.length_append,b32_len,b32_len,flat_bd wSli_len,List.length_take]
  omega
 refine ⟨fun hc=>?_,fun hc=>?_⟩
 ·rw [decide_eq_true_eq] at hc
  have hjl:j < L.length:=by omega
  have htk:L.take (j+1)=L.take j++[L[j]]:=by rw [List.take_add_one,List.getElem?_eq_getElem hjl];rfl
  have hRj:=hR L[j] (List.getElem_mem hjl)
  obtain ⟨p,us,e,hus,hcell,H1⟩:=H.eltF Sli.dat_lenK (by decide) hl (j:=j) hjl
  generalize L[j]=E at H1 htk hRj
  obtain ⟨e0,e1,e2⟩:=E
  replace hRj:(0<=e0/\e0 < 8192)/\(0<=e1/\e1 < 8192)/\0<=e2/\e2 < 64:=hRj
  obtain rfl:=H1.ones (us:=[.int .u16 e0,.int .u16 e1,.int .u8 e2]) ms
  clear H
  have H:Sat F w _ (.deep (Sli.dat (e0,e1,e2)) [.int .u16 e0,.int .u16 e1,.int .u8 e2]::_):=H1
  clear H1
  refine ⟨p,e,by omega,by omega,?_⟩
  refine ⟨_,_,_,LdC [.int .u16 e0,.int .u16 e1,.int .u8 e2] (by kernel_rfl) (by rw [show (j:Int).toNat*3=j*3 by omega];exact hcell),?_⟩
  clear hcell
  refine sNew H ?_;clear H;intro b24 w _ H
  refine sSw0 H rfl (by kernel_rfl) (by rfl) (by rfl) ?_;clear H;intro w _ H
  refine ⟨_,(H.b0.at0 rfl),?_⟩
  refine ⟨_,(H.b0.at0 rfl),?_⟩
  refine ⟨_,(H.b0.at0 rfl),?_⟩
  rw [wi64_of (n:=4*(j:Int)) (by omega) (by omega),wi64_of (n:=8+4*(j:Int)) (by omega) (by omega),show (8+4*(j:Int)).toNat=8+4*j by omega]
  refine ⟨by omega,by omega,?_⟩
  rw [cutW (l:=8+4*j) (q:=8+4*j) (by omega) (by omega),sli_v hRj.1 hRj.2.1 hRj.2.2]
  refine call_j (put32 H.r1 hBl.symm (by omega) (by omega) (by omega)) ?_
  clear H;rintro _ w ⟨rfl,H⟩
  refine ⟨rfl,?_⟩
  refine ⟨q - 1,by omega,j+1,?_,by omega,?_⟩
  ·rw [wi64_of (by omega) (by omega)];simp
  ·rw [htk,List.flatMap_append]
   simp only [List.flatMap_cons,List.flatMap_nil,List.append_nil]
   have e4:N - 8 - 4*j - 4=N - 8 - 4*(j+1):=by omega
   rw [e4] at H
   rw [<-List.append_assoc]
   exact H.ds (fun r h=>mt h)
 ·rw [decide_eq_false_iff_not] at hc
  obtain rfl:j=L.length:=by omega
  rw [List.take_length] at H hBl
  refine call_j (c208 H (by omega)) ?_
  clear H;rintro _ w ⟨rfl,H⟩
  refine ⟨_,_,_,_,rfl,?_⟩
  have e0:N - 8 - 4*L.length=0:=by omega
  rw [e0] at H
  have H1:=H
  clear H
  rw [show wz (b32 s++b32 m++L.flatMap wSli) 0=b32 s++b32 m++L.flatMap wSli by simp [wz]] at H1
  have H:=H1.blkRow 1 N (ob (b32 s++b32 m++L.flatMap wSli)) (by rw [u8s_length,hBl,hN,Nat.mul_one]) (by unfold maxLen;omega) (fun G h=>by
   have e2:∀B:List Int,ob B=(u8s B).map .one:=fun B=>by simp [ob,u8s]
   rw [e2];exact DeepL.ones _)
  clear H1
  refine call_j (hdrOwn H (by decide) (by decide) (by omega)) ?_
  clear H;rintro _ w ⟨g2,rfl,H⟩
  refine ⟨_,_,_,_,rfl,?_⟩
  refine ⟨by simp [isIf],?_⟩
  refine fF ?_
  refine sAppR H ms (by omega) (by omega) ?_
  clear H;intro a2 n2 c2 r2 w hn2 _ H
  exact MPost.own H (by repeat (first | exact List.Sublist.refl _ | apply List.Sublist.cons)) (fun r h=>mt h) (by rw [hn2,hN];unfold wrFb;rw [List.length_append,hBl];rfl)
theorem c211 {w:World} {b n k:Nat} {l:Option Addr} (hc:w.cell? ⟨b,2,none⟩=some (.slice l n k)) (hn:n<=100000):Calls pg 211 #[.pointer (some ⟨b,0,none⟩)] w fun en w'=>en=.returned (.int .i64 ((12+8*n:Nat):Int))/\w'=w:=by
 apply of211
 refine ⟨_,rfl,?_⟩
 refine ⟨_,_,_,hc,?_⟩
 refine ⟨?_,rfl⟩
 rw [wi64_of (n:=(n:Int)*8) (by omega) (by omega),wi64_of (by omega) (by omega)]
 congr 2
 omega
theorem c213 {F:Fr} {w:World} {e0:Ex} {ex:List Ex} {ro:List Ro} {b n k:Nat} {T:TypeId} {v0 v1:Value} {l:Option Addr} (H:Sat F w (e0::.blk b T [v0,v1,.slice l n k]::ex) ro) (hn:n<=30000) :
  Calls pg 213 #[.pointer (some ⟨b,0,none⟩)] w fun en w'=>en=.returned (.agg #[.bool false,.int .u8 4,.int .u8 206,.int .u16 ((2+2*n:Nat):Int)])/\Sat F w' (e0::.blk b T [v0,v1,.slice l n k]::ex) ro:=by
 apply of213
 refine sNew H ?_;clear H;intro b9 w _ H
 refine call_j (c211 (show w.cell? ⟨b,2,none⟩=some (.slice l n k) from H.b2.cell rfl) (by omega)) ?_
 rintro _ w' ⟨rfl,rfl⟩
 refine ⟨_,rfl,?_⟩
 refine ⟨by decide,?_⟩
 have e:IntKind.u16.wrap (IntKind.i64.wrap (IntKind.i64.wrap ((((12+8*n:Nat):Int).tdiv 4)) - 1))=((2+2*n:Nat):Int):=by
  rw [Int.tdiv_eq_ediv_of_nonneg (by omega),wi64_of (n:=((12+8*n:Nat):Int) / 4) (by omega) (by omega),wi64_of (by omega) (by omega),wu16]
  omega
 rw [e]
 refine sSw0 H rfl (by kernel_rfl) (by rfl) (by rfl) ?_;clear H;intro w _ H
 refine ⟨_,_,_,_,H.b0.ld,?_⟩
 exact ⟨rfl,H.d1⟩
theorem c210 {F:Fr} {w:World} {ex:List Ex} {ro:List Ro} {s m:Int} {L:List Ent} {l:Option Addr} {k:Nat} (H:Sat F w ex ro) (hs:0<=s/\s < 4294967296) (hm:0<=m/\m < 4294967296) (hl:Ro.deep [.row 2 (L.flatMap Ent.dat)] [.slice l L.length k]∈ro) (hn:L.length<=30000) (hR:∀x∈L,0<=x.1/\x.1 < 4294967296) :
  Calls pg 210 #[.agg #[.int .u32 s,.int .u32 m,.slice l L.length k]] w (MPost F ex ro (wrFb 4 206 ((2+2*L.length:Nat):Int) s m (L.flatMap wEnt))):=by
 apply of210
 refine sNew H ?_;clear H;intro b1 w _ H
 refine ⟨_,_,_,(H.b0.at0 rfl),?_⟩
 refine sMk H (e:=5) (z:=.int .u8 0) (bytes:=1) (by kernel_rfl) (by kernel_rfl) (by rfl) (by unfold maxLen;omega) (by omega) (n:=8+8*L.length) (by rw [wi64_of (n:=(L.length:Int)*8) (by omega) (by omega),wi64_of (by omega) (by omega)];omega) (by rw [wi64_of (n:=(L.length:Int)*8) (by omega) (by omega),wi64_of (by omega) (by omega)];omega) ?_
 clear H;intro g w _ H
 obtain ⟨N,hN⟩:∃N,N=8+8*L.length:=⟨_,rfl⟩
 rw [<-hN] at H ⊢
 rw [u8s_z] at H
 replace H:Sat F w (.blk g 5 (u8s (wz [] N))::_) ro:=H
 refine ⟨_,(H.b1.at0 rfl),?_⟩
 refine call_j (put32 H (by rfl) hs (by omega) (by omega)) ?_
 clear H;rintro _ w ⟨rfl,H⟩
 refine ⟨rfl,?_⟩
 refine ⟨by omega,by omega,?_⟩
 replace H:=H.drew;generalize w.drew=w at H ⊢
 refine ⟨_,(H.b1.at0 rfl),?_⟩
 rw [cutW (q:=4) (by omega) (by rfl)]
 refine call_j (put32 H (by rfl) hm (by omega) (by omega)) ?_
 clear H;rintro _ w ⟨rfl,H⟩
 refine ⟨rfl,?_⟩
 refine ⟨_,_,_,(H.b1.at0 rfl),?_⟩
 refine ⟨fun i q w=>∃j:Nat,i=(j:Int)/\j+q=L.length/\Sat F w (.blk g 5 (u8s (wz (b32 s++b32 m++(L.take j).flatMap wEnt) (N - 8 - 8*j)))::.blk b1 232 [.int .u32 s,.int .u32 m,.slice l L.length k]::ex) ro,⟨L.length,0,rfl,by omega,H.sub (List.Sublist.refl _) (fun _ h=>h)⟩,?_⟩
 clear H;rintro dd i q w ⟨j,rfl,hjq,H⟩
 have hBl:(b32 s++b32 m++(L.take j).flatMap wEnt).length=8+8*j:=by
  rw [List.length_append,List.length_append,b32_len,b32_len,flat_bd wEnt_len,List.length_take]
  omega
 refine ⟨fun hc=>?_,fun hc=>?_⟩
 ·rw [decide_eq_true_eq] at hc
  have hjl:j < L.length:=by omega
  have htk:L.take (j+1)=L.take j++[L[j]]:=by rw [List.take_add_one,List.getElem?_eq_getElem hjl];rfl
  have hRj:=hR L[j] (List.getElem_mem hjl)
  obtain ⟨p,us,e,hus,hcell,H1⟩:=H.eltF Ent.dat_lenK (by decide) hl (j:=j) hjl
  generalize L[j]=E at H1 htk hRj
  obtain ⟨e0,e1⟩:=E
  replace hRj:0<=e0/\e0 < 4294967296:=hRj
  obtain rfl:=H1.ones (us:=[.int .u32 e0,.int .u8 e1]) ms
  clear H
  have H:Sat F w _ (.deep (Ent.dat (e0,e1)) [.int .u32 e0,.int .u8 e1]::_):=H1
  clear H1
  refine ⟨p,e,by omega,by omega,?_⟩
  refine ⟨_,_,LdC [.int .u32 e0,.int .u8 e1] (by kernel_rfl) (by rw [show (j:Int).toNat*2=j*2 by omega];exact hcell),?_⟩
  clear hcell
  refine sNew H ?_;clear H;intro b21 w _ H
  refine sSw0 H rfl (by kernel_rfl) (by rfl) (by rfl) ?_;clear H;intro w _ H
  rw [wi64_of (n:=8*(j:Int)) (by omega) (by omega),wi64_of (n:=8+8*(j:Int)) (by omega) (by omega),wi64_of (n:=8+8*(j:Int)+4) (by omega) (by omega),show (8+8*(j:Int)).toNat=8+8*j by omega,show (8+8*(j:Int)+4).toNat=12+8*j by omega]
  refine ⟨by omega,by omega,?_⟩
  replace H:=H.drew;generalize w.drew=w at H ⊢
  refine ⟨_,(H.b0.at0 rfl),?_⟩
  rw [cutW (l:=8+8*j) (q:=8+8*j) (by omega) (by omega)]
  refine call_j (put32 H.r1 hBl.symm hRj (by omega) (by omega)) ?_
  clear H;rintro _ w ⟨rfl,H⟩
  refine ⟨rfl,?_⟩
  refine ⟨_,(H.b1.at0 rfl),?_⟩
  refine ⟨_,rfl,by omega,by omega,?_⟩
  refine sStW H (by rw [add_flat,List.length_append,hBl,b32_len];congr 1;omega) (by omega) ?_
  clear H;intro w H
  refine ⟨q - 1,by omega,j+1,?_,by omega,?_⟩
  ·rw [wi64_of (by omega) (by omega)];simp
  ·rw [htk,List.flatMap_append]
   simp only [List.flatMap_cons,List.flatMap_nil,List.append_nil]
   have e4:N - 8 - 8*j - 4 - 1 - 3=N - 8 - 8*(j+1):=by omega
   rw [wz_pad _ 3 (by omega),e4,List.append_assoc,List.append_assoc] at H
   rw [<-List.append_assoc]
   exact H.ds (fun r h=>mt h)
 ·rw [decide_eq_false_iff_not] at hc
  obtain rfl:j=L.length:=by omega
  rw [List.take_length] at H hBl
  refine call_j (c213 H (by omega)) ?_
  clear H;rintro _ w ⟨rfl,H⟩
  refine ⟨_,_,_,_,rfl,?_⟩
  refine sNew H ?_;clear H;intro b33 w _ H
  refine sSw0 H rfl (by kernel_rfl) (by rfl) (by rfl) ?_;clear H;intro w _ H
  refine ⟨_,_,_,_,H.b0.ld,?_⟩
  have e0:N - 8 - 8*L.length=0:=by omega
  rw [e0] at H
  have H1:=H.r1
  clear H
  rw [show wz (b32 s++b32 m++L.flatMap wEnt) 0=b32 s++b32 m++L.flatMap wEnt by simp [wz]] at H1
  have H:=H1.blkRow 1 N (ob (b32 s++b32 m++L.flatMap wEnt)) (by rw [u8s_length,hBl,hN,Nat.mul_one]) (by unfold maxLen;omega) (fun G h=>by
   have e2:∀B:List Int,ob B=(u8s B).map .one:=fun B=>by simp [ob,u8s]
   rw [e2];exact DeepL.ones _)
  clear H1
  refine call_j (hdrOwn H (by decide) (by decide) (by omega)) ?_
  clear H;rintro _ w ⟨g2,rfl,H⟩
  refine ⟨_,_,_,_,rfl,?_⟩
  refine ⟨by simp [isIf],?_⟩
  refine fF ?_
  refine sAppR H ms (by omega) (by omega) ?_
  clear H;intro a2 n2 c2 r2 w hn2 _ H
  exact MPost.own H (by repeat (first | exact List.Sublist.refl _ | apply List.Sublist.cons)) (fun r h=>mt h) (by rw [hn2,hN];unfold wrFb;rw [List.length_append,hBl];rfl)
theorem copy0 {w:World} {d s:Option Addr} {dLen dCap sCap:Nat} {ty:TypeId}:(Builtin.copy_ #[22,22] ty #[.slice d dLen dCap,.slice s 0 sCap]).run pg w=.ok (.int .i64 0) w:=by
 obtain ⟨ht,i,z,hi,_,hs,_⟩:=apT_spec (show apT pg 22 5 1 1=true by kernel_rfl)
 cases s with
 | none=>cases d<;>simp [Builtin.copy_,run_underlying ht,Builtin.lenOf,Builtin.firstCells,sizeOf,typeInfo,hi,hs,storeCells,goInt]
 | some a=>cases d<;>simp [Builtin.copy_,run_underlying ht,Builtin.lenOf,Builtin.firstCells,sizeOf,typeInfo,hi,hs,storeCells,goInt,loadCells,loadCellsFrom]
theorem sCpV {F:Fr} {w:World} {g:Nat} {t:TypeId} {A D:List Int} {z:Nat} {ex:List Ex} {ro:List Ro} (H:Sat F w (.blk g t (u8s (wz A z))::ex) ro) {dLen dCap sLen sCap:Nat} {d s:Option Addr} (hD:Ro.B D s sLen sCap∈ro)
  (ho:0 < sLen->d=some ⟨g,A.length,none⟩) (hd:sLen<=dLen) (hz:D.length<=z) {ty:TypeId} {K:Int->World->Prop} (h:∀w',w.grownBy w' (some g)->Sat F w' (.blk g t (u8s (wz (A++D) (z - D.length)))::ex) ro->K sLen w') :
  ∃n,∃w',(Builtin.copy_ #[22,22] ty #[.slice d dLen dCap,.slice s sLen sCap]).run pg w=.ok (.int .i64 n) w'/\K n w':=by
 rcases Nat.eq_zero_or_pos sLen with h0 | h0
 ·subst h0
  obtain rfl:D=[]:=List.eq_nil_of_length_eq_zero (H.lenB hD)
  exact ⟨0,w,copy0,h w (grew_refl _ _) (by simpa using H)⟩
 ·rw [ho h0]
  exact sCpW H hD h0 rfl hd hz h
theorem Sat.bm {F:Fr} {w:World} {ex:List Ex} {ro:List Ro} {b:Nat} {T:TypeId} {cells:List Value} (H:Sat F w ex ro) (hb:Ex.blk b T cells∈ex):Blk w b T cells:=H.he _ hb
def wRep:Rep->List Int
 | (a,b,c,d,e,f,g)=>b32 a++[b,c / 65536,c / 256 % 256,c % 256]++b32 d++b32 e++b32 f++b32 g
theorem wRep_len (x:Rep):(wRep x).length=24:=rfl
abbrev u32R (x:Int):Prop:=0<=x/\x < 4294967296
def RepR (x:Rep):Prop:=u32R x.1/\(0<=x.2.2.1/\x.2.2.1 < 16777216)/\u32R x.2.2.2.1/\u32R x.2.2.2.2.1/\u32R x.2.2.2.2.2.1/\u32R x.2.2.2.2.2.2
theorem c146 {F:Fr} {w:World} {ex:List Ex} {ro:List Ro} (H:Sat F w ex ro) {r0 r1 r2 r3 r4 r5 r6:Int} (hR:RepR (r0,r1,r2,r3,r4,r5,r6)) :
  Calls pg 146 #[.agg #[.int .u32 r0,.int .u8 r1,.int .u32 r2,.int .u32 r3,.int .u32 r4,.int .u32 r5,.int .u32 r6]] w (MPost F ex ro (wRep (r0,r1,r2,r3,r4,r5,r6))):=by
 obtain ⟨h0,h2,h3,h4,h5,h6⟩:u32R r0/\(0<=r2/\r2 < 16777216)/\u32R r3/\u32R r4/\u32R r5/\u32R r6:=hR
 apply of146
 refine sNew H ?_;clear H;intro b1 w _ H
 refine sMk H (e:=5) (z:=.int .u8 0) (bytes:=1) (by kernel_rfl) (by kernel_rfl) (by rfl) (by unfold maxLen;omega) (by omega) (n:=24) (by rfl) (by rfl) ?_
 clear H;intro g w _ H
 rw [u8s_z] at H
 replace H:Sat F w (.blk g 5 (u8s (wz [] 24))::_) ro:=H
 refine ⟨_,(H.b1.at0 rfl),?_⟩
 refine call_j (put32 H (by rfl) h0 (by decide) (by decide)) ?_
 clear H;rintro _ w ⟨rfl,H⟩
 refine ⟨rfl,?_⟩
 refine ⟨_,(H.b1.at0 rfl),?_⟩
 refine ⟨_,rfl,by omega,by omega,?_⟩
 refine sStW H (by rfl) (by decide) ?_
 clear H;intro w H
 refine ⟨_,(H.b1.at0 rfl),?_⟩
 refine ⟨fun h=>by rw [decide_eq_true_eq] at h;omega,fun _=>?_⟩
 refine ⟨by omega,by omega,?_⟩
 refine ⟨_,(H.b1.at0 rfl),?_⟩
 rw [cutW (l:=5) (q:=5) (by decide) rfl]
 rw [ishr_of (b:=(16:Int)) 16 (by rfl) (by decide),wu8,show r2 / 2 ^ 16 % 256=r2 / 65536 by omega]
 refine ⟨_,rfl,by omega,by omega,?_⟩
 refine sStW H (by rfl) (by decide) ?_
 clear H;intro w H
 refine ⟨_,(H.b1.at0 rfl),?_⟩
 rw [ishr_of (b:=(8:Int)) 8 (by rfl) (by decide),wu8,show r2 / 2 ^ 8 % 256=r2 / 256 % 256 by omega]
 refine ⟨_,rfl,by omega,by omega,?_⟩
 refine sStW H (by rfl) (by decide) ?_
 clear H;intro w H
 refine ⟨_,(H.b1.at0 rfl),?_⟩
 rw [wu8]
 refine ⟨_,rfl,by omega,by omega,?_⟩
 refine sStW H (by rfl) (by decide) ?_
 clear H;intro w H
 refine ⟨by omega,by omega,?_⟩
 replace H:=H.drew;generalize w.drew=w at H ⊢
 refine ⟨_,(H.b1.at0 rfl),?_⟩
 rw [cutW (l:=8) (q:=8) (by decide) rfl]
 refine call_j (put32 H (by rfl) h3 (by decide) (by decide)) ?_
 clear H;rintro _ w ⟨rfl,H⟩
 refine ⟨rfl,?_⟩
 refine ⟨by omega,by omega,?_⟩
 replace H:=H.drew;generalize w.drew=w at H ⊢
 refine ⟨_,(H.b1.at0 rfl),?_⟩
 rw [cutW (l:=12) (q:=12) (by decide) rfl]
 refine call_j (put32 H (by rfl) h4 (by decide) (by decide)) ?_
 clear H;rintro _ w ⟨rfl,H⟩
 refine ⟨rfl,?_⟩
 refine ⟨by omega,by omega,?_⟩
 replace H:=H.drew;generalize w.drew=w at H ⊢
 refine ⟨_,(H.b1.at0 rfl),?_⟩
 rw [cutW (l:=16) (q:=16) (by decide) rfl]
 refine call_j (put32 H (by rfl) h5 (by decide) (by decide)) ?_
 clear H;rintro _ w ⟨rfl,H⟩
 refine ⟨rfl,?_⟩
 refine ⟨by omega,by omega,?_⟩
 replace H:=H.drew;generalize w.drew=w at H ⊢
 refine ⟨_,(H.b1.at0 rfl),?_⟩
 rw [cutW (l:=20) (q:=20) (by decide) rfl]
 refine call_j (put32 H (by rfl) h6 (by decide) (by decide)) ?_
 clear H;rintro _ w ⟨rfl,H⟩
 refine ⟨rfl,?_⟩
 refine MPost.blk (bs:=wRep (r0,r1,r2,r3,r4,r5,r6)) H (List.sublist_cons_self _ _) (fun _ h=>h) (by rfl) (by decide)
theorem c148 {w:World} {v:Option Addr}:Calls pg 148 #[.pointer v] w fun en w'=>en=.returned (.int .i64 24)/\w'=w:=by
 apply of148
 exact ⟨rfl,rfl⟩
theorem pad0 {w:World} {n:Nat} (h:n % 4=0):Calls pg 149 #[.int .i64 (n:Int)] w fun en w'=>en=.returned (.int .i64 0)/\w.grownBy w' none:=c149 h
theorem c142 {F:Fr} {w:World} {ex:List Ex} {ro:List Ro} {b xn xk k:Nat} {T:TypeId} {cells:List Value} {L:List Rep} {l x:Option Addr} (H:Sat F w ex ro) (hb:Ex.blk b T cells∈ex) (h5:cells[5]?=some (.slice l L.length k)) (h6:cells[6]?=some (.slice x xn xk))
  (hl:Ro.deep [.row 7 (L.flatMap Rep.dat)] [.slice l L.length k]∈ro) (hn:L.length<=100000) (hx:xn<=10000000) (hx4:xn % 4=0) :
  Calls pg 142 #[.pointer (some ⟨b,0,none⟩)] w fun en w'=>en=.returned (.int .i64 ((28+24*L.length+xn:Nat):Int))/\Sat F w' ex ro:=by
 apply of142
 refine ⟨_,rfl,?_⟩
 refine ⟨_,_,_,(H.bm hb).cell h5,?_⟩
 refine ⟨fun a i q w=>∃j:Nat,a=((24*j:Nat):Int)/\i=(j:Int)/\j+q=L.length/\Sat F w ex ro,⟨L.length,0,rfl,rfl,by omega,H⟩,?_⟩
 clear H;rintro dd a i q w ⟨j,rfl,rfl,hjq,H⟩
 refine ⟨fun hc=>?_,fun hc=>?_⟩
 ·rw [decide_eq_true_eq] at hc
  have hjl:j < L.length:=by omega
  obtain ⟨p,us,e,hus,hcell,H1⟩:=H.eltF Rep.dat_len' (by decide) hl (j:=j) hjl
  generalize L[j]=D at H1
  obtain ⟨d0,d1,d2,d3,d4,d5,d6⟩:=D
  obtain rfl:=H1.ones (us:=[.int .u32 d0,.int .u8 d1,.int .u32 d2,.int .u32 d3,.int .u32 d4,.int .u32 d5,.int .u32 d6]) ms
  clear H1
  refine ⟨p,e,by omega,by omega,?_⟩
  refine ⟨_,_,_,_,_,_,_,LdC [.int .u32 d0,.int .u8 d1,.int .u32 d2,.int .u32 d3,.int .u32 d4,.int .u32 d5,.int .u32 d6] (by kernel_rfl) (by rw [show (j:Int).toNat*7=j*7 by omega];exact hcell),?_⟩
  clear hcell
  refine sNew H ?_;clear H;intro b19 w _ H
  refine sSw0 H rfl (by kernel_rfl) (by rfl) (by rfl) ?_;clear H;intro w _ H
  refine call_j c148 ?_
  rintro _ w' ⟨rfl,rfl⟩
  refine ⟨_,rfl,?_⟩
  refine ⟨q - 1,by omega,j+1,?_,?_,by omega,H.d1⟩
  ·rw [wi64_of (by omega) (by omega)];omega
  ·rw [wi64_of (by omega) (by omega)];simp
 ·rw [decide_eq_false_iff_not] at hc
  obtain rfl:j=L.length:=by omega
  refine ⟨_,rfl,?_⟩
  refine ⟨_,_,_,(H.bm hb).cell h6,?_⟩
  refine call_j (pad0 hx4) ?_
  rintro _ w ⟨rfl,g⟩
  refine ⟨_,rfl,?_⟩
  refine ⟨?_,H.grow g⟩
  rw [wi64_of (n:=28+((24*L.length:Nat):Int)) (by omega) (by omega),wi64_of (n:=28+((24*L.length:Nat):Int)+(xn:Int)) (by omega) (by omega),wi64_of (by omega) (by omega)]
  congr 2<;>omega
theorem c147 {F:Fr} {w:World} {ex:List Ex} {ro:List Ro} {b xn xk k:Nat} {T:TypeId} {cells:List Value} {L:List Rep} {l x:Option Addr} (H:Sat F w ex ro) (hb:Ex.blk b T cells∈ex) (h5:cells[5]?=some (.slice l L.length k)) (h6:cells[6]?=some (.slice x xn xk))
  (hl:Ro.deep [.row 7 (L.flatMap Rep.dat)] [.slice l L.length k]∈ro) (hn:L.length<=31) (hx4:xn % 4=0) (hx:28+24*L.length+xn<=262144) :
  Calls pg 147 #[.pointer (some ⟨b,0,none⟩)] w fun en w'=>en=.returned (.agg #[.bool false,.int .u8 (L.length:Int),.int .u8 200,.int .u16 (((28+24*L.length+xn) / 4 - 1:Nat):Int)])/\Sat F w' ex ro:=by
 apply of147
 refine sNew H ?_;clear H;intro b9 w _ H
 refine ⟨none,?_⟩
 replace H:=H.drew
 generalize w.drew=wd at H ⊢
 obtain ⟨ex2,S,back,hmem⟩:=Sat.still3 (E0:=[]) H none (by simp [foots])
 replace S:Sat _ _ ex2 ro:=S
 have hb9:=hmem b9 _ _ ms
 have hb1:=hmem b _ _ (mt hb)
 refine ⟨_,rfl,Option.some_ne_none _,⟨_,_,_,(S.bm hb1).eq⟩,?_⟩
 refine ⟨_,_,_,(S.bm hb1).cell h5,?_⟩
 refine call_j (c142 S hb1 h5 h6 hl (by omega) (by omega) hx4) ?_
 rintro _ w ⟨rfl,S⟩
 obtain ⟨g,H1⟩:=back [] w ro S
 clear H S hb9 hb1 hmem back
 have H:Sat F w (.blk b9 109 _::ex) ro:=H1
 clear H1
 refine ⟨_,rfl,?_⟩
 refine ⟨g,?_⟩
 refine ⟨by decide,?_⟩
 rw [Int.tdiv_eq_ediv_of_nonneg (by omega),wi64_of (n:=((28+24*L.length+xn:Nat):Int) / 4) (by omega) (by omega),wi64_of (n:=((28+24*L.length+xn:Nat):Int) / 4 - 1) (by omega) (by omega),wu16,wu8,show (L.length:Int) % 256=L.length by omega,
  show (((28+24*L.length+xn:Nat):Int) / 4 - 1) % 65536=(((28+24*L.length+xn) / 4 - 1:Nat):Int) by omega]
 refine sSw0 H rfl (by kernel_rfl) (by rfl) (by rfl) ?_;clear H;intro w _ H
 refine ⟨_,_,_,_,H.b0.ld,?_⟩
 exact ⟨rfl,H.d1⟩
def wrSR (s tn tr pk oc:Int) (L:List Rep) (xs:List Int):List Int:=hdrB (L.length:Int) 200 (((28+24*L.length+xs.length) / 4 - 1:Nat):Int)++(b32 s++b64 tn++b32 tr++b32 pk++b32 oc++L.flatMap wRep++xs)
theorem c141 {F:Fr} {w:World} {ex:List Ex} {ro:List Ro} {xn xk k:Nat} {s tn tr pk oc:Int} {L:List Rep} {xs:List Int} {l x:Option Addr} (H:Sat F w ex ro) (hs:u32R s) (htn:0<=tn/\tn < 18446744073709551616) (htr:u32R tr) (hpk:u32R pk) (hoc:u32R oc)
  (hl:Ro.deep [.row 7 (L.flatMap Rep.dat)] [.slice l L.length k]∈ro) (hxs:Ro.B xs x xn xk∈ro) (hn:L.length<=31) (hx4:xn % 4=0) (hx:28+24*L.length+xn<=262144) (hR:∀y∈L,RepR y) :
  Calls pg 141 #[.agg #[.int .u32 s,.int .u64 tn,.int .u32 tr,.int .u32 pk,.int .u32 oc,.slice l L.length k,.slice x xn xk]] w (MPost F ex ro (wrSR s tn tr pk oc L xs)):=by
 apply of141
 have hxl:=H.lenB hxs
 refine sNew H ?_;clear H;intro b1 w _ H
 refine call_j (c142 (x:=x) (xn:=xn) (xk:=xk) H ms rfl rfl hl (by omega) (by omega) hx4) ?_
 clear H;rintro _ w ⟨rfl,H⟩
 refine ⟨_,rfl,?_⟩
 obtain ⟨N,hN⟩:∃N,N=28+24*L.length+xn:=⟨_,rfl⟩
 rw [<-hN]
 refine sMk H (e:=5) (z:=.int .u8 0) (bytes:=1) (by kernel_rfl) (by kernel_rfl) (by rfl) (by unfold maxLen;omega) (by omega) (n:=N) (by rfl) (by rfl) ?_
 clear H;intro g w _ H
 rw [u8s_z,wz_start (by omega)] at H
 refine ⟨by omega,by omega,?_⟩
 refine ⟨by omega,by omega,?_⟩
 replace H:=H.drew;generalize w.drew=w at H ⊢
 refine ⟨_,(H.b1.at0 rfl),?_⟩
 rw [cutW (b:=g) (o:=0) (l:=4) (q:=4) (by omega) rfl]
 rw [cutW (b:=g) (l:=0) (q:=4) (by omega) rfl]
 refine call_j (put32 H (by rfl) hs (by omega) (by omega)) ?_
 clear H;rintro _ w ⟨rfl,H⟩
 refine ⟨rfl,?_⟩
 refine ⟨by omega,by omega,?_⟩
 replace H:=H.drew;generalize w.drew=w at H ⊢
 refine ⟨_,(H.b1.at0 rfl),?_⟩
 rw [cutW (b:=g) (l:=4) (q:=8) (by omega) rfl]
 refine call_j (put64 H (by rfl) htn (by omega) (by omega) (by omega)) ?_
 clear H;rintro _ w ⟨rfl,H⟩
 refine ⟨rfl,?_⟩
 refine ⟨by omega,by omega,?_⟩
 replace H:=H.drew;generalize w.drew=w at H ⊢
 refine ⟨_,(H.b1.at0 rfl),?_⟩
 rw [cutW (b:=g) (l:=12) (q:=16) (by omega) rfl]
 refine call_j (put32 H (by rfl) htr (by omega) (by omega)) ?_
 clear H;rintro _ w ⟨rfl,H⟩
 refine ⟨rfl,?_⟩
 refine ⟨by omega,by omega,?_⟩
 replace H:=H.drew;generalize w.drew=w at H ⊢
 refine ⟨_,(H.b1.at0 rfl),?_⟩
 rw [cutW (b:=g) (l:=16) (q:=20) (by omega) rfl]
 refine call_j (put32 H (by rfl) hpk (by omega) (by omega)) ?_
 clear H;rintro _ w ⟨rfl,H⟩
 refine ⟨rfl,?_⟩
 refine ⟨by omega,by omega,?_⟩
 replace H:=H.drew;generalize w.drew=w at H ⊢
 refine ⟨_,(H.b1.at0 rfl),?_⟩
 rw [cutW (b:=g) (l:=20) (q:=24) (by omega) rfl]
 refine call_j (put32 H (by rfl) hoc (by omega) (by omega)) ?_
 clear H;rintro _ w ⟨rfl,H⟩
 refine ⟨rfl,?_⟩
 obtain ⟨P,hP⟩:∃P,P=[0,0,0,0]++(b32 s++b64 tn++b32 tr++b32 pk++b32 oc):=⟨_,rfl⟩
 have hPl:P.length=28:=by rw [hP];rfl
 replace H:Sat F w (.blk g 5 (u8s (wz P (N - 28)))::.blk b1 194 [.int .u32 s,.int .u64 tn,.int .u32 tr,.int .u32 pk,.int .u32 oc,.slice l L.length k,.slice x xn xk]::ex) ro:=by
  rw [hP]
  have e:N - 4 - 4 - 8 - 4 - 4 - 4=N - 28:=by omega
  rw [<-e]
  simpa only [List.append_assoc] using H
 refine ⟨_,_,_,(H.b1.at0 rfl),?_⟩
 refine ⟨fun off i q w=>∃j:Nat,off=((24+24*j:Nat):Int)/\i=(j:Int)/\j+q=L.length/\∃ro',(∀r∈ro,r∈ro')/\Sat F w (.blk g 5 (u8s (wz (P++(L.take j).flatMap wRep) (N - 28 - 24*j)))::.blk b1 194 [.int .u32 s,.int .u64 tn,.int .u32 tr,.int .u32 pk,.int .u32 oc,.slice l L.length k,.slice x xn xk]::ex) ro',⟨L.length,0,rfl,rfl,by omega,ro,fun _ h=>h,by simpa using H⟩,?_⟩
 clear H;rintro dd off i q w ⟨j,rfl,rfl,hjq,ro',hr,H⟩
 have hBl:(P++(L.take j).flatMap wRep).length=28+24*j:=by
  rw [List.length_append,hPl,flat_bd wRep_len,List.length_take]
  omega
 refine ⟨fun hc=>?_,fun hc=>?_⟩
 ·rw [decide_eq_true_eq] at hc
  have hjl:j < L.length:=by omega
  have htk:L.take (j+1)=L.take j++[L[j]]:=by rw [List.take_add_one,List.getElem?_eq_getElem hjl];rfl
  have hRj:=hR L[j] (List.getElem_mem hjl)
  obtain ⟨p,us,e,hus,hcell,H1⟩:=H.eltF Rep.dat_len' (by decide) (hr _ hl) (j:=j) hjl
  generalize L[j]=D at H1 htk hRj
  obtain ⟨d0,d1,d2,d3,d4,d5,d6⟩:=D
  obtain rfl:=H1.ones (us:=[.int .u32 d0,.int .u8 d1,.int .u32 d2,.int .u32 d3,.int .u32 d4,.int .u32 d5,.int .u32 d6]) ms
  clear H1
  refine ⟨p,e,by omega,by omega,?_⟩
  refine ⟨_,_,_,_,_,_,_,LdC [.int .u32 d0,.int .u8 d1,.int .u32 d2,.int .u32 d3,.int .u32 d4,.int .u32 d5,.int .u32 d6] (by kernel_rfl) (by rw [show (j:Int).toNat*7=j*7 by omega];exact hcell),?_⟩
  clear hcell
  refine sNew H ?_;clear H;intro b34 w _ H
  refine sSw0 H rfl (by kernel_rfl) (by rfl) (by rfl) ?_;clear H;intro w _ H
  refine ⟨_,_,_,_,_,_,_,H.b0.ld,?_⟩
  refine call_j (c146 H hRj) ?_
  clear H;rintro _ w ⟨da,dc,ro2,rfl,hr2,H,hd⟩
  refine ⟨_,_,_,_,rfl,?_⟩
  refine ⟨by simp [isIf],?_⟩
  refine fF ?_
  refine ⟨by omega,by omega,?_⟩
  rw [Int.toNat_natCast,cutW (b:=g) (l:=24+24*j) (q:=28+24*j) (by omega) (by omega)]
  refine sCpW H.r1 hd (by rw [wRep_len];decide) hBl.symm (by rw [wRep_len];omega) (by rw [wRep_len];omega) ?_
  clear H;intro w _ H
  refine ⟨q - 1,by omega,j+1,by rw [wi64_of (by omega) (by omega)];omega,by rw [wi64_of (by omega) (by omega)];simp,by omega,ro2,fun r h=>hr2 r (hr r h),?_⟩
  rw [htk,List.flatMap_append]
  simp only [List.flatMap_cons,List.flatMap_nil,List.append_nil]
  rw [wRep_len,List.append_assoc,show N - 28 - 24*j - 24=N - 28 - 24*(j+1) by omega] at H
  exact H.dr
 ·rw [decide_eq_false_iff_not] at hc
  obtain rfl:j=L.length:=by omega
  rw [List.take_length] at H hBl
  refine ⟨_,_,_,(H.b1.at0 rfl),?_⟩
  refine ⟨fun h=>by rw [decide_eq_true_eq] at h;omega,fun _=>?_⟩
  refine ⟨by omega,by omega,?_⟩
  replace H:=H.drew;generalize w.drew=w at H ⊢
  refine ⟨_,_,_,(H.b1.at0 rfl),?_⟩
  rw [Int.toNat_natCast]
  refine sCpV H (hr _ hxs) (fun h0=>by rw [cutW (b:=g) (l:=24+24*L.length) (q:=28+24*L.length) (by omega) (by omega),hBl]) (by omega) (by omega) ?_
  clear H;intro w _ H
  refine call_j (c147 (x:=x) (xn:=xn) (xk:=xk) H (mt ms) rfl rfl (hr _ hl) (by omega) hx4 (by omega)) ?_
  clear H;rintro _ w ⟨rfl,H⟩
  refine ⟨_,_,_,_,rfl,?_⟩
  refine call_j (hdrM H (by omega) (by decide) (by omega)) ?_
  clear H;rintro _ w ⟨g2,rfl,H⟩
  refine ⟨_,_,_,_,rfl,?_⟩
  refine ⟨by simp [isIf],?_⟩
  refine fF ?_
  rw [hP,show N - 28 - 24*L.length - xs.length=0 by omega] at H
  have H1:Sat F w (.blk g 5 (u8s (wz ([0,0,0,0]++(b32 s++b64 tn++b32 tr++b32 pk++b32 oc++L.flatMap wRep++xs)) 0))::.blk b1 194 [.int .u32 s,.int .u64 tn,.int .u32 tr,.int .u32 pk,.int .u32 oc,.slice l L.length k,.slice x xn xk]::ex) (Ro.B (hdrB (L.length:Int) 200 (((28+24*L.length+xn) / 4 - 1:Nat):Int)) (some ⟨g2,0,none⟩) 4 4::ro'):=by simpa only [List.append_assoc] using H
  clear H;have H:=H1;clear H1
  refine sCpH H ms (by omega) ?_
  clear H;intro w H
  have e9:hdrB (L.length:Int) 200 (((28+24*L.length+xn) / 4 - 1:Nat):Int)++(b32 s++b64 tn++b32 tr++b32 pk++b32 oc++L.flatMap wRep++xs)=wrSR s tn tr pk oc L xs:=by unfold wrSR;rw [hxl]
  have l9:(wrSR s tn tr pk oc L xs).length=N:=by
   rw [<-e9,List.length_append,List.length_append,List.length_append,flat_bd wRep_len,hxl,hN]
   have:(b32 s++b64 tn++b32 tr++b32 pk++b32 oc).length=24:=rfl
   have h4:(hdrB (L.length:Int) 200 (((28+24*L.length+xn) / 4 - 1:Nat):Int)).length=4:=rfl
   omega
  rw [e9] at H
  exact MPost.blk H (List.sublist_cons_self _ _) (fun r h=>mt (hr r h)) l9.symm (by unfold maxLen;omega)
theorem c155 {F:Fr} {w:World} {ex:List Ex} {ro:List Ro} {b xn xk k:Nat} {T:TypeId} {cells:List Value} {L:List Rep} {l x:Option Addr} (H:Sat F w ex ro) (hb:Ex.blk b T cells∈ex) (h5:cells[1]?=some (.slice l L.length k)) (h6:cells[2]?=some (.slice x xn xk))
  (hl:Ro.deep [.row 7 (L.flatMap Rep.dat)] [.slice l L.length k]∈ro) (hn:L.length<=100000) (hx:xn<=10000000) (hx4:xn % 4=0) :
  Calls pg 155 #[.pointer (some ⟨b,0,none⟩)] w fun en w'=>en=.returned (.int .i64 ((8+24*L.length+xn:Nat):Int))/\Sat F w' ex ro:=by
 apply of155
 refine ⟨_,rfl,?_⟩
 refine ⟨_,_,_,(H.bm hb).cell h5,?_⟩
 refine ⟨fun a i q w=>∃j:Nat,a=((24*j:Nat):Int)/\i=(j:Int)/\j+q=L.length/\Sat F w ex ro,⟨L.length,0,rfl,rfl,by omega,H⟩,?_⟩
 clear H;rintro dd a i q w ⟨j,rfl,rfl,hjq,H⟩
 refine ⟨fun hc=>?_,fun hc=>?_⟩
 ·rw [decide_eq_true_eq] at hc
  have hjl:j < L.length:=by omega
  obtain ⟨p,us,e,hus,hcell,H1⟩:=H.eltF Rep.dat_len' (by decide) hl (j:=j) hjl
  generalize L[j]=D at H1
  obtain ⟨d0,d1,d2,d3,d4,d5,d6⟩:=D
  obtain rfl:=H1.ones (us:=[.int .u32 d0,.int .u8 d1,.int .u32 d2,.int .u32 d3,.int .u32 d4,.int .u32 d5,.int .u32 d6]) ms
  clear H1
  refine ⟨p,e,by omega,by omega,?_⟩
  refine ⟨_,_,_,_,_,_,_,LdC [.int .u32 d0,.int .u8 d1,.int .u32 d2,.int .u32 d3,.int .u32 d4,.int .u32 d5,.int .u32 d6] (by kernel_rfl) (by rw [show (j:Int).toNat*7=j*7 by omega];exact hcell),?_⟩
  clear hcell
  refine sNew H ?_;clear H;intro b19 w _ H
  refine sSw0 H rfl (by kernel_rfl) (by rfl) (by rfl) ?_;clear H;intro w _ H
  refine call_j c148 ?_
  rintro _ w' ⟨rfl,rfl⟩
  refine ⟨_,rfl,?_⟩
  refine ⟨q - 1,by omega,j+1,?_,?_,by omega,H.d1⟩
  ·rw [wi64_of (by omega) (by omega)];omega
  ·rw [wi64_of (by omega) (by omega)];simp
 ·rw [decide_eq_false_iff_not] at hc
  obtain rfl:j=L.length:=by omega
  refine ⟨_,rfl,?_⟩
  refine ⟨_,_,_,(H.bm hb).cell h6,?_⟩
  refine call_j (pad0 hx4) ?_
  rintro _ w ⟨rfl,g⟩
  refine ⟨_,rfl,?_⟩
  refine ⟨?_,H.grow g⟩
  rw [wi64_of (n:=8+((24*L.length:Nat):Int)) (by omega) (by omega),wi64_of (n:=8+((24*L.length:Nat):Int)+(xn:Int)) (by omega) (by omega),wi64_of (by omega) (by omega)]
  congr 2<;>omega
theorem c157 {F:Fr} {w:World} {ex:List Ex} {ro:List Ro} {b xn xk k:Nat} {T:TypeId} {cells:List Value} {L:List Rep} {l x:Option Addr} (H:Sat F w ex ro) (hb:Ex.blk b T cells∈ex) (h5:cells[1]?=some (.slice l L.length k)) (h6:cells[2]?=some (.slice x xn xk))
  (hl:Ro.deep [.row 7 (L.flatMap Rep.dat)] [.slice l L.length k]∈ro) (hn:L.length<=31) (hx4:xn % 4=0) (hx:8+24*L.length+xn<=262144) :
  Calls pg 157 #[.pointer (some ⟨b,0,none⟩)] w fun en w'=>en=.returned (.agg #[.bool false,.int .u8 (L.length:Int),.int .u8 201,.int .u16 (((8+24*L.length+xn) / 4 - 1:Nat):Int)])/\Sat F w' ex ro:=by
 apply of157
 refine sNew H ?_;clear H;intro b9 w _ H
 refine ⟨none,?_⟩
 replace H:=H.drew
 generalize w.drew=wd at H ⊢
 obtain ⟨ex2,S,back,hmem⟩:=Sat.still3 (E0:=[]) H none (by simp [foots])
 replace S:Sat _ _ ex2 ro:=S
 have hb9:=hmem b9 _ _ ms
 have hb1:=hmem b _ _ (mt hb)
 refine ⟨_,rfl,Option.some_ne_none _,⟨_,_,_,(S.bm hb1).eq⟩,?_⟩
 refine ⟨_,_,_,(S.bm hb1).cell h5,?_⟩
 refine call_j (c155 S hb1 h5 h6 hl (by omega) (by omega) hx4) ?_
 rintro _ w ⟨rfl,S⟩
 obtain ⟨g,H1⟩:=back [] w ro S
 clear H S hb9 hb1 hmem back
 have H:Sat F w (.blk b9 109 _::ex) ro:=H1
 clear H1
 refine ⟨_,rfl,?_⟩
 refine ⟨g,?_⟩
 refine ⟨by decide,?_⟩
 rw [Int.tdiv_eq_ediv_of_nonneg (by omega),wi64_of (n:=((8+24*L.length+xn:Nat):Int) / 4) (by omega) (by omega),wi64_of (n:=((8+24*L.length+xn:Nat):Int) / 4 - 1) (by omega) (by omega),wu16,wu8,show (L.length:Int) % 256=L.length by omega,
  show (((8+24*L.length+xn:Nat):Int) / 4 - 1) % 65536=(((8+24*L.length+xn) / 4 - 1:Nat):Int) by omega]
 refine sSw0 H rfl (by kernel_rfl) (by rfl) (by rfl) ?_;clear H;intro w _ H
 refine ⟨_,_,_,_,H.b0.ld,?_⟩
 exact ⟨rfl,H.d1⟩
def wrRR (s:Int) (L:List Rep) (xs:List Int):List Int:=hdrB (L.length:Int) 201 (((8+24*L.length+xs.length) / 4 - 1:Nat):Int)++(b32 s++L.flatMap wRep++xs)
theorem c154 {F:Fr} {w:World} {ex:List Ex} {ro:List Ro} {xn xk k:Nat} {s:Int} {L:List Rep} {xs:List Int} {l x:Option Addr} (H:Sat F w ex ro) (hs:u32R s)
  (hl:Ro.deep [.row 7 (L.flatMap Rep.dat)] [.slice l L.length k]∈ro) (hxs:Ro.B xs x xn xk∈ro) (hn:L.length<=31) (hx4:xn % 4=0) (hx:8+24*L.length+xn<=262144) (hR:∀y∈L,RepR y) :
  Calls pg 154 #[.agg #[.int .u32 s,.slice l L.length k,.slice x xn xk]] w (MPost F ex ro (wrRR s L xs)):=by
 apply of154
 have hxl:=H.lenB hxs
 refine sNew H ?_;clear H;intro b1 w _ H
 refine call_j (c155 (x:=x) (xn:=xn) (xk:=xk) H ms rfl rfl hl (by omega) (by omega) hx4) ?_
 clear H;rintro _ w ⟨rfl,H⟩
 refine ⟨_,rfl,?_⟩
 obtain ⟨N,hN⟩:∃N,N=8+24*L.length+xn:=⟨_,rfl⟩
 rw [<-hN]
 refine sMk H (e:=5) (z:=.int .u8 0) (bytes:=1) (by kernel_rfl) (by kernel_rfl) (by rfl) (by unfold maxLen;omega) (by omega) (n:=N) (by rfl) (by rfl) ?_
 clear H;intro g w _ H
 rw [u8s_z,wz_start (by omega)] at H
 refine ⟨by omega,by omega,?_⟩
 refine ⟨_,(H.b1.at0 rfl),?_⟩
 rw [cutW (b:=g) (o:=0) (l:=4) (q:=4) (by omega) rfl]
 refine call_j (put32 H (by rfl) hs (by omega) (by omega)) ?_
 clear H;rintro _ w ⟨rfl,H⟩
 refine ⟨rfl,?_⟩
 obtain ⟨P,hP⟩:∃P,P=[0,0,0,0]++(b32 s):=⟨_,rfl⟩
 have hPl:P.length=8:=by rw [hP];rfl
 replace H:Sat F w (.blk g 5 (u8s (wz P (N - 8)))::.blk b1 197 [.int .u32 s,.slice l L.length k,.slice x xn xk]::ex) ro:=by
  rw [hP]
  have e:N - 4 - 4=N - 8:=by omega
  rw [<-e]
  simpa only [List.append_assoc] using H
 refine ⟨_,_,_,(H.b1.at0 rfl),?_⟩
 refine ⟨fun i q w=>∃j:Nat,i=(j:Int)/\j+q=L.length/\∃ro',(∀r∈ro,r∈ro')/\Sat F w (.blk g 5 (u8s (wz (P++(L.take j).flatMap wRep) (N - 8 - 24*j)))::.blk b1 197 [.int .u32 s,.slice l L.length k,.slice x xn xk]::ex) ro',⟨L.length,0,rfl,by omega,ro,fun _ h=>h,by simpa using H⟩,?_⟩
 clear H;rintro dd i q w ⟨j,rfl,hjq,ro',hr,H⟩
 have hBl:(P++(L.take j).flatMap wRep).length=8+24*j:=by
  rw [List.length_append,hPl,flat_bd wRep_len,List.length_take]
  omega
 refine ⟨fun hc=>?_,fun hc=>?_⟩
 ·rw [decide_eq_true_eq] at hc
  have hjl:j < L.length:=by omega
  have htk:L.take (j+1)=L.take j++[L[j]]:=by rw [List.take_add_one,List.getElem?_eq_getElem hjl];rfl
  have hRj:=hR L[j] (List.getElem_mem hjl)
  obtain ⟨p,us,e,hus,hcell,H1⟩:=H.eltF Rep.dat_len' (by decide) (hr _ hl) (j:=j) hjl
  generalize L[j]=D at H1 htk hRj
  obtain ⟨d0,d1,d2,d3,d4,d5,d6⟩:=D
  obtain rfl:=H1.ones (us:=[.int .u32 d0,.int .u8 d1,.int .u32 d2,.int .u32 d3,.int .u32 d4,.int .u32 d5,.int .u32 d6]) ms
  clear H1
  refine ⟨p,e,by omega,by omega,?_⟩
  refine ⟨_,_,_,_,_,_,_,LdC [.int .u32 d0,.int .u8 d1,.int .u32 d2,.int .u32 d3,.int .u32 d4,.int .u32 d5,.int .u32 d6] (by kernel_rfl) (by rw [show (j:Int).toNat*7=j*7 by omega];exact hcell),?_⟩
  clear hcell
  refine sNew H ?_;clear H;intro b34 w _ H
  refine sSw0 H rfl (by kernel_rfl) (by rfl) (by rfl) ?_;clear H;intro w _ H
  refine ⟨_,_,_,_,_,_,_,H.b0.ld,?_⟩
  refine call_j (c146 H hRj) ?_
  clear H;rintro _ w ⟨da,dc,ro2,rfl,hr2,H,hd⟩
  refine ⟨_,_,_,_,rfl,?_⟩
  refine ⟨by simp [isIf],?_⟩
  refine fF ?_
  rw [wi64_of (n:=24*(j:Int)) (by omega) (by omega),wi64_of (n:=4+24*(j:Int)) (by omega) (by omega),show (4+24*(j:Int)).toNat=4+24*j by omega]
  refine ⟨by omega,by omega,?_⟩
  rw [cutW (b:=g) (l:=4+24*j) (q:=8+24*j) (by omega) (by omega)]
  refine sCpW H.r1 hd (by rw [wRep_len];decide) hBl.symm (by rw [wRep_len];omega) (by rw [wRep_len];omega) ?_
  clear H;intro w _ H
  refine ⟨q - 1,by omega,j+1,by rw [wi64_of (by omega) (by omega)];simp,by omega,ro2,fun r h=>hr2 r (hr r h),?_⟩
  rw [htk,List.flatMap_append]
  simp only [List.flatMap_cons,List.flatMap_nil,List.append_nil]
  rw [wRep_len,List.append_assoc,show N - 8 - 24*j - 24=N - 8 - 24*(j+1) by omega] at H
  exact H.dr
 ·rw [decide_eq_false_iff_not] at hc
  obtain rfl:j=L.length:=by omega
  rw [List.take_length] at H hBl
  refine ⟨_,_,_,(H.b1.at0 rfl),?_⟩
  refine ⟨fun h=>by rw [decide_eq_true_eq] at h;omega,fun _=>?_⟩
  refine ⟨some g,?_⟩;replace H:=H.drew;generalize w.drew=wd2 at H ⊢;have K:=grew_refl wd2 (some g)
  have hne:b1≠g:=by
   have:=H.nd
   simp only [foots,Ex.foot,List.flatMap_cons,List.cons_append,List.nil_append,List.nodup_cons,List.mem_cons,not_or] at this
   exact fun e=>this.1.1 e.symm
  refine ⟨fun e=>by injection e with e;exact hne e,H.b1.row,?_⟩
  refine ⟨_,_,_,(H.b1.at0 rfl),?_⟩
  rw [wi64_of (n:=24*(L.length:Int)) (by omega) (by omega),wi64_of (n:=4+24*(L.length:Int)) (by omega) (by omega),show (4+24*(L.length:Int)).toNat=4+24*L.length by omega]
  refine ⟨by omega,by omega,?_⟩
  refine ⟨fun e=>by injection e with e;exact hne e,H.b1.row,?_⟩
  refine ⟨_,_,_,(H.b1.at0 rfl),?_⟩
  refine sCpV H (hr _ hxs) (fun h0=>by rw [cutW (b:=g) (l:=4+24*L.length) (q:=8+24*L.length) (by omega) (by omega),hBl]) (by omega) (by omega) ?_
  clear H;intro w g H
  replace K:=gtr K g;clear g
  refine ⟨K,?_⟩
  clear K
  refine call_j (c157 (x:=x) (xn:=xn) (xk:=xk) H (mt ms) rfl rfl (hr _ hl) (by omega) hx4 (by omega)) ?_
  clear H;rintro _ w ⟨rfl,H⟩
  refine ⟨_,_,_,_,rfl,?_⟩
  refine call_j (hdrM H (by omega) (by decide) (by omega)) ?_
  clear H;rintro _ w ⟨g2,rfl,H⟩
  refine ⟨_,_,_,_,rfl,?_⟩
  refine ⟨by simp [isIf],?_⟩
  refine fF ?_
  rw [hP,show N - 8 - 24*L.length - xs.length=0 by omega] at H
  have H1:Sat F w (.blk g 5 (u8s (wz ([0,0,0,0]++(b32 s++L.flatMap wRep++xs)) 0))::.blk b1 197 [.int .u32 s,.slice l L.length k,.slice x xn xk]::ex) (Ro.B (hdrB (L.length:Int) 201 (((8+24*L.length+xn) / 4 - 1:Nat):Int)) (some ⟨g2,0,none⟩) 4 4::ro'):=by simpa only [List.append_assoc] using H
  clear H;have H:=H1;clear H1
  refine sCpH H ms (by omega) ?_
  clear H;intro w H
  have e9:hdrB (L.length:Int) 201 (((8+24*L.length+xn) / 4 - 1:Nat):Int)++(b32 s++L.flatMap wRep++xs)=wrRR s L xs:=by unfold wrRR;rw [hxl]
  have l9:(wrRR s L xs).length=N:=by
   rw [<-e9,List.length_append,List.length_append,List.length_append,flat_bd wRep_len,hxl,hN]
   have:(b32 s).length=4:=rfl
   have h4:(hdrB (L.length:Int) 201 (((8+24*L.length+xn) / 4 - 1:Nat):Int)).length=4:=rfl
   omega
  rw [e9] at H
  exact MPost.blk H (List.sublist_cons_self _ _) (fun r h=>mt (hr r h)) l9.symm (by unfold maxLen;omega)
theorem zeroC_list (k:Nat):(Builtin.zeroCells #[Value.int .u8 0] k)=(List.replicate k (Value.int .u8 0)).toArray:=by
 apply Array.ext
 ·simp [Builtin.zeroCells]
 ·intro i h1 h2
  simp [Builtin.zeroCells,Nat.mod_one]
theorem u8Info:∃i,pg.info? 5=some i/\i.zero=some (.int .u8 0)/\i.size=1/\i.bytes=1:=by
 obtain ⟨_,i,z,hi,hz,hs,hb,_⟩:=apT_spec (show apT pg 22 5 1 1=true by kernel_rfl)
 have h0:(pg.info? 5).bind (·.zero)=some (Value.int .u8 0):=by kernel_rfl
 rw [hi] at h0
 exact ⟨i,hi,h0,hs,hb⟩
theorem uInt:pg.underlying 3=some (.int .i64):=by kernel_rfl
theorem appZ_room {w:World} {g sLen sCap k:Nat} {cur:Array Value} {ty:TypeId} (hg:w.heap[g]?=some (.cells cur 5 (0,0))) (hroom:sLen+k<=sCap) (hfit:sLen+k<=cur.size) (hk0:k≠0) (hk:k<=3) :
  (Builtin.append_ #[22,3] ty #[.slice (some ⟨g,0,none⟩) sLen sCap,.int .i64 k]).run pg w =
   .ok (.slice (some ⟨g,0,none⟩) (sLen+k) sCap) (w.setRow g (cur.toList.take sLen++List.replicate k (Value.int .u8 0)++cur.toList.drop (sLen+k)).toArray):=by
 obtain ⟨i,hi,hz,hs,hb⟩:=u8Info
 have hst:=run_storeCells_at pg g sLen 5 (List.replicate k (Value.int .u8 0)) 0 cur w hg (by simpa using hfit) (fun u hu=>by rw [List.eq_of_mem_replicate hu];rfl)
 simp only [Nat.add_zero,List.length_replicate] at hst
 have hw:IntKind.i64.wrap (k:Int)=k:=wi64_of (by omega) (by omega)
 have hneg:¬((k:Int) < 0):=by omega
 have h48:¬(281474976710656 < (k:Int)):=by omega
 simp [Builtin.append_,run_underlying uSl,run_underlying uInt,sizeOf,typeInfo,zeroValue,hi,hz,hs,hb,asInt,asIntOf,hw,hneg,h48,hk0,hroom,Addr.add_lit,Value.cells,zeroC_list,hst]
theorem appZ_0 {w:World} {a:Option Addr} {n c:Nat} {ty:TypeId} (h:n<=c):(Builtin.append_ #[22,3] ty #[.slice a n c,.int .i64 ((0:Nat):Int)]).run pg w=.ok (.slice a n c) w:=by
 obtain ⟨i,hi,hz,hs,hb⟩:=u8Info
 have hw:IntKind.i64.wrap 0=0:=wi64_of (by omega) (by omega)
 cases a<;>simp [Builtin.append_,run_underlying uSl,run_underlying uInt,sizeOf,typeInfo,zeroValue,hi,hz,hs,hb,asInt,asIntOf,hw,h,storeCells]
theorem appZ_grow {w:World} {g sLen sCap k:Nat} {olds:List Value} {ty:TypeId} (hlo:olds.length=sLen) (holds:∀j v,olds[j]?=some v->w.cell? ((⟨g,0,none⟩:Addr).add j)=some v)
  (hg:sCap < sLen+k) (h63:sLen+k<=100000000) (hk0:k≠0) (hk:k<=3) (hfit:Builtin.nextslicecap (sLen+k) sCap*1<=281474976710656) :
  (Builtin.append_ #[22,3] ty #[.slice (some ⟨g,0,none⟩) sLen sCap,.int .i64 k]).run pg w =
   .ok (.slice (some ⟨w.heap.size,0,none⟩) (sLen+k) (grownCap w (sLen+k) sCap 5))
    (w.drew.alloc (.cells (olds.toArray++(List.replicate k (Value.int .u8 0)).toArray++Builtin.zeroCells #[Value.int .u8 0] (grownCap w (sLen+k) sCap 5 - (sLen+k))) 5)):=by
 obtain ⟨i,hi,hz,hs,hb⟩:=u8Info
 have hw:IntKind.i64.wrap (k:Int)=k:=wi64_of (by omega) (by omega)
 have hneg:¬((k:Int) < 0):=by omega
 have h48:¬(281474976710656 < (k:Int)):=by omega
 have hn:¬(sLen+k<=sCap):=by omega
 have h63':¬(9223372036854775807 < ((sLen:Int)+(k:Int))):=by omega
 have h48':¬(281474976710656 < Builtin.nextslicecap (sLen+k) sCap):=by omega
 have hfo:=run_firstCells_some (P:=pg) w.drew 1 sLen ⟨g,0,none⟩ sLen sCap olds (by omega) (by simpa using holds)
 simp [Builtin.append_,run_underlying uSl,run_underlying uInt,sizeOf,typeInfo,zeroValue,hi,hz,hs,hb,asInt,asIntOf,hw,hneg,h48,hk0,hn,h63',h48',Question.forced,hfo,newRow,grownCap,Value.cells,zeroC_list]
theorem sAppZ {F:Fr} {w:World} {A:List Int} {a:Option Addr} {n c k:Nat} {r:Option Nat} {ex:List Ex} {ro:List Ro} (H:Sat F w (.own 5 1 a n c r (ob A)::ex) ro) (h0:0 < n) (hk:k<=3) (hn:n<=10000000) {ty:TypeId} {K:Option Addr->Nat->Nat->World->Prop}
  (hK:∀a' c' r' w',Sat F w' (.own 5 1 a' (n+k) c' r' (ob (A++List.replicate k 0))::ex) ro->K a' (n+k) c' w') :
  ∃a' n' c',∃w',(Builtin.append_ #[22,3] ty #[.slice a n c,.int .i64 k]).run pg w=.ok (.slice a' n' c') w'/\K a' n' c' w':=by
 obtain ⟨xs,ho,hxs⟩:=H.he (.own 5 1 a n c r (ob A)) (by simp)
 have hlen0:=ho.own.1
 have hdl:DeepL w (fun b=>b ∉ foots (.own 5 1 a n c r (ob A)::ex)) (ob (List.replicate k 0)) (List.replicate k (Value.int .u8 0)):=by
  have e:ob (List.replicate k 0)=(List.replicate k (Value.int .u8 0)).map .one:=by simp [ob]
  rw [e];exact DeepL.ones _
 have fin:∀(a':Option Addr) (c':Nat) (r':Option Nat) (w':World),w.grownBy w' r->OS w' 0 5 1 a' (n+k) c' r' (xs++List.replicate k (Value.int .u8 0))->(r'=r\/r'=some w.heap.size)->K a' (n+k) c' w':=by
  intro a' c' r' w' hg ho' hr
  refine hK a' c' r' w' ?_
  rw [ob_append]
  exact H.owned hxs hdl hg ho' (hr.imp id fun h=>⟨_,h,Nat.le_refl _⟩)
 have hlen:(xs++List.replicate k (Value.int .u8 0)).length=(n+k)*1:=by rw [List.length_append,hlen0,List.length_replicate];omega
 rcases ho.own.2 with ⟨hv,h1⟩ | ⟨g,cap,cur,hv,hbg,hg,hnc,hcm,hcs,htake⟩
 ·omega
 ·have hvb:=ho.blk
  rw [hv] at hvb
  simp only [Value.slice.injEq] at hv
  obtain ⟨rfl,_,rfl⟩:=hv
  have hr:r=some g:=by simpa [Value.ownBlock] using hvb
  by_cases hk0:k=0
  ·subst hk0
   refine ⟨_,_,_,_,appZ_0 (by omega),?_⟩
   have:=hK (some ⟨g,0,none⟩) c r w (by simpa using H)
   simpa using this
  by_cases hroom:n+k<=c
  ·have hrun:=appZ_room (ty:=ty) hg hroom (by rw [hcs];omega) hk0 hk
   refine ⟨_,_,_,_,hrun,fin _ _ r _ ⟨rfl,rfl,rfl,by simp [World.setRow],fun j _ hj=>setRow_other w g j _ (fun e=>hj (by rw [hr,e]))⟩ ⟨⟨hlen,.inr ⟨g,c,_,rfl,hbg,setRow_heap w g cur _ 5 _ hg,hroom,hcm,?_,?_⟩⟩,?_⟩ (.inl rfl)⟩
   ·simp only [List.size_toArray,List.length_append,List.length_take,List.length_drop,Array.length_toList,List.length_replicate]
    omega
   ·rw [Nat.mul_one] at htake ⊢
    rw [htake,show n+k=(xs++List.replicate k (Value.int .u8 0)).length by omega]
    exact List.take_left
   ·rw [hr];rfl
  ·have holds:∀j u,xs[j]?=some u->w.cell? ((⟨g,0,none⟩:Addr).add j)=some u:=ho.own.cells (g:=g) rfl
   have hfits:Builtin.nextslicecap (n+k) c*1<=281474976710656:=growslice_fits (by omega) (by omega)
   have hrun:=appZ_grow (ty:=ty) (olds:=xs) (by omega) holds (by omega) (by omega) hk0 hk hfits
   have hge:=grownCap_ge w (n+k) c 5
   have hcm2:grownCap w (n+k) c 5<=maxLen:=grownCap_le_maxLen w (n+k) c 5 (by unfold maxLen;omega)
   refine ⟨_,_,_,_,hrun,fin _ _ (some w.heap.size) _ ⟨rfl,rfl,rfl,by simp,fun j hj _=>heap_alloc_old w.drew _ hj⟩ ⟨⟨hlen,.inr ⟨w.heap.size,_,_,rfl,Nat.zero_le _,heap_alloc_new w.drew _,hge,hcm2,?_,?_⟩⟩,rfl⟩ (.inr rfl)⟩
   ·simp only [Array.size_append,List.size_toArray,size_zeroCells,hlen0,List.length_replicate]
    simp
    omega
   ·simp only [Array.toList_append,List.append_assoc]
    rw [<-List.append_assoc,<-hlen]
    exact List.take_left
theorem app00 {w:World} {a s:Option Addr} {n c k:Nat} {ty:TypeId} (h:n<=c):(Builtin.append_ #[22,22] ty #[.slice a n c,.slice s 0 k]).run pg w=.ok (.slice a n c) w:=by
 obtain ⟨i,hi,hz,hs,hb⟩:=u8Info
 cases s<;>cases a<;>simp [Builtin.append_,run_underlying uSl,sizeOf,typeInfo,zeroValue,hi,hz,hs,hb,h,Builtin.lenOf,Builtin.firstCells,loadCells,loadCellsFrom,storeCells]
theorem sAppV {F:Fr} {w:World} {A D:List Int} {a s:Option Addr} {n c sn sc:Nat} {r:Option Nat} {ex:List Ex} {ro:List Ro} (H:Sat F w (.own 5 1 a n c r (ob A)::ex) ro) (hD:Ro.B D s sn sc∈ro) (hs:n+sn<=100000000) {ty:TypeId} {K:Option Addr->Nat->Nat->World->Prop}
  (hK:∀a' n' c' r' w',n'=n+sn->w.grownBy w' r->Sat F w' (.own 5 1 a' n' c' r' (ob (A++D))::ex) ro->K a' n' c' w') :
  ∃a' n' c',∃w',(Builtin.append_ #[22,22] ty #[.slice a n c,.slice s sn sc]).run pg w=.ok (.slice a' n' c') w'/\K a' n' c' w':=by
 rcases Nat.eq_zero_or_pos sn with h0 | h0
 ·subst h0
  obtain rfl:D=[]:=List.eq_nil_of_length_eq_zero (H.lenB hD)
  obtain ⟨xs,ho,_⟩:=H.he (.own 5 1 a n c r (ob A)) (by simp)
  have hnc:n<=c:=by
   rcases ho.own.2 with ⟨hv,h1⟩ | ⟨g,cap,cur,hv,_,_,hnc,_⟩
   ·omega
   ·simp only [Value.slice.injEq] at hv
    obtain ⟨_,_,rfl⟩:=hv
    exact hnc
  exact ⟨_,_,_,_,app00 hnc,hK a n c r w rfl (grew_refl _ _) (by simpa using H)⟩
 ·exact sAppR H hD h0 hs hK
theorem sbs_get {s:ByteArray} {i:Nat} {x:Int} (h:(sbs s)[i]?=some x):(s.data.map (fun b=>Value.int .u8 b.toNat))[i]?=some (.int .u8 x):=by
 unfold sbs at h
 rw [List.getElem?_map] at h
 rw [Array.getElem?_map,<-Array.getElem?_toList]
 cases hi:s.data.toList[i]? with
 | none=>rw [hi] at h;cases h
 | some b=>rw [hi] at h;cases h;rfl
theorem sToB {F:Fr} {w:World} {ex:List Ex} {ro:List Ro} (H:Sat F w ex ro) (s:ByteArray) (hs:s.size<=1000000) {K:Option Addr->Nat->Nat->World->Prop}
  (hK:∀a c w',w.grownBy w' none->Sat F w' ex (Ro.B (sbs s) a s.size c::ro)->K a s.size c w') :
  ∃a n c,∃w',(convert 9 22 (.string s)).run pg w=.ok (.slice a n c) w'/\K a n c w':=by
 have hg:=gtr (grew_drew w none) (World.grownBy_alloc w.drew (.cells (bytesRow s (grownCap w s.size 0 5)) 5 ((bytesRow s (grownCap w s.size 0 5)).size,(bytesRow s (grownCap w s.size 0 5)).size+1)) none)
 refine ⟨_,_,_,_,run_bytes_of_string w 9 22 5 s uStr uSl uU8,hK _ _ _ hg ?_⟩
 have hge:=grownCap_ge w s.size 0 5
 have hcm:=grownCap_le_maxLen w s.size 0 5 (by unfold maxLen;omega)
 have H1:=H.grow hg
 refine H1.addRo (dc ?_ dn)
 have e:ob (sbs s)=((sbs s).map (Value.int .u8)).map .one:=by simp [ob]
 have hl:(sbs s).length=s.size:=sbs_len s
 refine .row 1 w.heap.size 0 s.size _ _ ((sbs s).map (Value.int .u8)) hge hcm (by simp) (fun h=>?_) (by rw [ob_length,hl,Nat.mul_one]) (by rw [List.length_map,ob_length]) (fun i v hv=>?_) (by rw [e];exact (DeepL.ones _).2)
 ·have:=(H.lt _ h).1
  omega
 ·rw [List.getElem?_map] at hv
  cases hx:(sbs s)[i]? with
  | none=>rw [hx] at hv;cases hv
  | some x=>
   rw [hx] at hv
   cases hv
   have h2:=sbs_get hx
   have hi:i < s.data.size:=by
    have:=(List.getElem?_eq_some_iff.1 hx).1
    rw [hl] at this
    exact this
   have h3:(bytesRow s (grownCap w s.size 0 5))[i]?=some (.int .u8 x):=by
    unfold bytesRow
    rw [Array.getElem?_append_left (by simpa using hi)]
    exact h2
   have hb:(w.drew.alloc (.cells (bytesRow s (grownCap w s.size 0 5)) 5 ((bytesRow s (grownCap w s.size 0 5)).size,(bytesRow s (grownCap w s.size 0 5)).size+1))).heap[w.heap.size]?=some (.cells (bytesRow s (grownCap w s.size 0 5)) 5 ((bytesRow s (grownCap w s.size 0 5)).size,(bytesRow s (grownCap w s.size 0 5)).size+1)):=heap_alloc_new w.drew _
   unfold World.cell?
   simp only
   rw [hb]
   simpa using h3
def wItm:Itm->List Int
 | (t,s)=>[t,(s.size:Int)]++sbs s
theorem wItm_len (x:Itm):(wItm x).length=2+x.2.size:=by
 obtain ⟨t,s⟩:=x
 simp only [wItm,List.length_append,sbs_len,List.length_cons,List.length_nil]
theorem c166 {F:Fr} {w:World} {ex:List Ex} {ro:List Ro} (H:Sat F w ex ro) {t:Int} {s:ByteArray} (ht:t≠0) (hs:s.size<=255) :
  Calls pg 166 #[.agg #[.int .u8 t,.string s]] w (MPost F ex ro (wItm (t,s))):=by
 apply of166
 refine sNew H ?_;clear H;intro b1 w _ H
 refine ⟨_,(H.b0.at0 rfl),?_⟩
 refine ⟨fun h=>absurd (by simpa using h) ht,fun _=>?_⟩
 refine sMk H (e:=5) (z:=.int .u8 0) (bytes:=1) (by kernel_rfl) (by kernel_rfl) (by rfl) (by unfold maxLen;omega) (by omega) (n:=2) (by rfl) (by rfl) ?_
 clear H;intro g w _ H
 rw [u8s_z] at H
 replace H:Sat F w (.blk g 5 (u8s (wz [] 2))::.blk b1 258 [.int .u8 t,.string s]::ex) ro:=H
 refine ⟨_,(H.b1.at0 rfl),?_⟩
 refine ⟨_,rfl,by omega,by omega,?_⟩
 refine sStW H (by rfl) (by decide) ?_
 clear H;intro w H
 refine ⟨_,(H.b1.at0 rfl),?_⟩
 refine sToB H s (by omega) ?_
 clear H;intro ba bc w _ H
 refine ⟨fun h=>by rw [decide_eq_true_eq] at h;omega,fun _=>?_⟩
 refine ⟨_,rfl,by omega,by omega,?_⟩
 rw [wu8,show ((s.size:Nat):Int) % 256=s.size by omega]
 refine sStW H (by rfl) (by decide) ?_
 clear H;intro w H
 have H1:=H.toOwn 1 2 (ob [t,(s.size:Int)]) (by rfl) (by decide) (fun G h=>DeepL.ones [_,_])
 clear H
 refine sAppV H1 ms (by omega) ?_
 clear H1;intro a2 n2 c2 r2 w hn2 _ H
 exact MPost.own H (List.sublist_cons_self _ _) (fun r h=>mt h) (by rw [hn2,wItm_len])
theorem padG {w:World} {n:Nat} (hn:n<=10000000):Calls pg 149 #[.int .i64 (n:Int)] w fun en w'=>en=.returned (.int .i64 ((pad4 n:Nat):Int))/\w'=w:=by
 apply of149
 refine ⟨by decide,?_⟩
 have ht:((n:Nat):Int).tmod 4=((n % 4:Nat):Int):=by rw [Int.tmod_eq_emod_of_nonneg (by omega)];omega
 rw [ht]
 refine ⟨fun h=>?_,fun h=>⟨by decide,?_⟩⟩
 ·have h:((n % 4:Nat):Int)=0:=by simpa using h
  refine ⟨?_,rfl⟩
  have:pad4 n=0:=by unfold pad4;omega
  rw [this];rfl
 ·have h:¬((n % 4:Nat):Int)=0:=by simpa using h
  refine ⟨?_,rfl⟩
  rw [wi64_of (by omega) (by omega)]
  congr 2
  unfold pad4
  omega
def wChk:Chk->List Int
 | (s,l)=>(b32 s++l.flatMap wItm++[0])++List.replicate (pad4 (b32 s++l.flatMap wItm++[0]).length) 0
theorem wItm_it:∀l:List Itm,(l.flatMap wItm).length=itLen l
 | []=>rfl
 | x::r=>by
  have:=wItm_it r
  simp only [itLen] at this ⊢
  rw [List.flatMap_cons,List.length_append,wItm_len,this]
  simp only [List.map_cons,List.sum_cons]
theorem wChk_len (x:Chk):(wChk x).length=up4 (4+itLen x.2+1):=by
 obtain ⟨s,l⟩:=x
 simp only [wChk,List.length_append,b32_len,wItm_it,List.length_replicate,List.length_cons,List.length_nil]
 unfold pad4 up4
 omega
def ItmR (i:Itm):Prop:=i.1≠0/\i.2.size<=255
def ChkR (c:Chk):Prop:=u32R c.1/\∀i∈c.2,ItmR i
theorem c162 {F:Fr} {w:World} {ex:List Ex} {ro:List Ro} {s:Int} {l:List Itm} {o:Option Addr} {oc:Nat} (H:Sat F w ex ro) (hl:Ro.deep [.row 2 (l.flatMap Itm.dat)] [.slice o l.length oc]∈ro) (hR:ChkR (s,l)) (hn:itLen l<=1000000) (hln:l.length<=1000000) :
  Calls pg 162 #[.agg #[.int .u32 s,.slice o l.length oc]] w (MPost F ex ro (wChk (s,l))):=by
 apply of162
 obtain ⟨hs,hI⟩:u32R s/\∀i∈l,ItmR i:=hR
 refine sNew H ?_;clear H;intro b1 w _ H
 refine sMk H (e:=5) (z:=.int .u8 0) (bytes:=1) (by kernel_rfl) (by kernel_rfl) (by rfl) (by unfold maxLen;omega) (by omega) (n:=4) (by rfl) (by rfl) ?_
 clear H;intro g w _ H
 rw [u8s_z] at H
 replace H:Sat F w (.blk g 5 (u8s (wz [] 4))::.blk b1 255 [.int .u32 s,.slice o l.length oc]::ex) ro:=H
 refine ⟨_,(H.b1.at0 rfl),?_⟩
 refine call_j (put32 H (by rfl) hs (by decide) (by decide)) ?_
 clear H;rintro _ w ⟨rfl,H⟩
 refine ⟨rfl,?_⟩
 refine ⟨_,_,_,(H.b1.at0 rfl),?_⟩
 have H1:=H.toOwn 1 4 (ob (b32 s)) (by rfl) (by decide) (fun G h=>DeepL.ones [_,_,_,_])
 clear H
 have H:=H1
 clear H1
 refine ⟨fun a n c i q w=>∃(j:Nat) (r:Option Nat) (ro':List Ro),i=(j:Int)/\j+q=l.length/\n=4+itLen (l.take j)/\(∀r∈ro,r∈ro')/\Sat F w (.own 5 1 a n c r (ob (b32 s++(l.take j).flatMap wItm))::.blk b1 255 [.int .u32 s,.slice o l.length oc]::ex) ro',
  ⟨l.length,0,some g,ro,rfl,by omega,rfl,fun _ h=>h,by simpa using H⟩,?_⟩
 clear H;rintro dd a n c i q w ⟨j,r,ro',rfl,hjq,rfl,hr,H⟩
 have hpre:itLen (l.take j)<=itLen l:=by
  have h1:=wItm_it l
  have h2:=wItm_it (l.take j)
  have h3:(l.flatMap wItm).length=((l.take j).flatMap wItm).length+((l.drop j).flatMap wItm).length:=by
   rw [<-List.length_append,<-List.flatMap_append,List.take_append_drop]
  omega
 refine ⟨fun hc=>?_,fun hc=>?_⟩
 ·rw [decide_eq_true_eq] at hc
  have hjl:j < l.length:=by omega
  have htk:l.take (j+1)=l.take j++[l[j]]:=by rw [List.take_add_one,List.getElem?_eq_getElem hjl];rfl
  have hRj:=hI l[j] (List.getElem_mem hjl)
  obtain ⟨p,us,e,hus,hcell,H1⟩:=H.eltF Itm.dat_len (by decide) (hr _ hl) (j:=j) hjl
  generalize l[j]=E at H1 htk hRj
  obtain ⟨t,ss⟩:=E
  obtain ⟨ht,hss⟩:t≠0/\ss.size<=255:=hRj
  obtain rfl:=H1.ones (us:=[.int .u8 t,.string ss]) ms
  clear H1
  refine ⟨p,e,by omega,by omega,?_⟩
  refine ⟨_,_,LdC [.int .u8 t,.string ss] (by kernel_rfl) (by rw [show (j:Int).toNat*2=j*2 by omega];exact hcell),?_⟩
  clear hcell
  refine sNew H ?_;clear H;intro b19 w _ H
  refine sSw0 H rfl (by kernel_rfl) (by rfl) (by rfl) ?_;clear H;intro w _ H
  refine ⟨_,_,H.b0.ld,?_⟩
  refine call_j (c166 H ht hss) ?_
  clear H;rintro _ w ⟨da,dc,ro2,rfl,hr2,H,hd⟩
  refine ⟨_,_,_,_,rfl,?_⟩
  refine ⟨by simp [isIf],?_⟩
  refine fF ?_
  have hil:(wItm (t,ss)).length=2+ss.size:=wItm_len _
  refine sAppV H.r1 hd (by omega) ?_
  clear H;intro a2 n2 c2 r2 w hn2 _ H
  refine ⟨q - 1,by omega,j+1,r2,ro2,by rw [wi64_of (by omega) (by omega)];simp,by omega,?_,fun r h=>hr2 r (hr r h),?_⟩
  ·rw [hn2,htk,hil]
   have h1:=wItm_it (l.take j++[(t,ss)])
   rw [List.flatMap_append,List.length_append] at h1
   simp only [List.flatMap_cons,List.flatMap_nil,List.append_nil,hil,wItm_it] at h1
   omega
  ·rw [htk,List.flatMap_append]
   simp only [List.flatMap_cons,List.flatMap_nil,List.append_nil]
   rw [<-List.append_assoc]
   exact H.sub (List.Sublist.cons_cons _ (List.sublist_cons_self _ _)) (fun _ h=>h)
 ·rw [decide_eq_false_iff_not] at hc
  obtain rfl:j=l.length:=by omega
  rw [List.take_length] at H ⊢
  refine ⟨rfl,?_⟩
  refine sPush0 H (bytes:=1) (by kernel_rfl) (ob [0]) (by rfl) (fun G h=>DeepL.ones [_]) (by rfl) (by unfold maxLen;omega) (by omega) ?_
  clear H;intro a2 n2 c2 r2 w hn2 _ H
  subst hn2
  rw [<-ob_append] at H
  refine call_j (padG (n:=4+itLen l+1) (by omega)) ?_
  rintro _ w' ⟨rfl,rfl⟩
  refine ⟨_,rfl,?_⟩
  refine sAppZ H (by omega) (by unfold pad4;omega) (by omega) ?_
  clear H;intro a3 c3 r3 w H
  have hB:(b32 s++l.flatMap wItm++[0]).length=4+itLen l+1:=by
   rw [List.length_append,List.length_append,b32_len,wItm_it];rfl
  have e9:(b32 s++l.flatMap wItm++[0])++List.replicate (pad4 (4+itLen l+1)) 0=wChk (s,l):=by
   show _=(b32 s++l.flatMap wItm++[0])++List.replicate (pad4 (b32 s++l.flatMap wItm++[0]).length) 0
   rw [hB]
  rw [e9] at H
  refine MPost.own H (List.sublist_cons_self _ _) (fun r h=>hr r h) ?_
  rw [<-e9,List.length_append,hB,List.length_replicate]
theorem flat_take {α:Type} {f:α->List Int} (L:List α) (j:Nat):((L.take j).flatMap f).length<=(L.flatMap f).length:=by
 have h:(L.flatMap f).length=((L.take j).flatMap f).length+((L.drop j).flatMap f).length:=by
  rw [<-List.length_append,<-List.flatMap_append,List.take_append_drop]
 omega
theorem Sat.chk {F:Fr} {w:World} {ex:List Ex} {ro:List Ro} {L:List Chk} {l:Option Addr} {k:Nat} (H:Sat F w ex ro) (hl:Ro.deep [.row 2 (L.flatMap Chk.dat)] [.slice l L.length k]∈ro) {j:Nat} (hj:j < L.length) {d0:Int} {ms:List Itm} (hE:L[j]=(d0,ms)) :
  ∃p sa sc,l=some p/\LdV pg 255 (p.add ((j:Int).toNat*2)) (.agg #[.int .u32 d0,.slice sa ms.length sc]) w/\Sat F w ex (.deep [.row 2 (ms.flatMap Itm.dat)] [.slice sa ms.length sc]::ro):=by
 obtain ⟨p,us,e,hus,hcell,H1⟩:=H.eltF Chk.dat_len' (by decide) hl (j:=j) hj
 rw [hE] at H1
 obtain ⟨x0,us0,rfl,H2⟩:=H1.uncons List.mem_cons_self
 obtain ⟨x1,us1,rfl,H3⟩:=H2.uncons (List.mem_cons_of_mem _ List.mem_cons_self)
 obtain rfl:us1=[]:=by simpa using hus
 obtain rfl:=H2.one1 List.mem_cons_self
 obtain ⟨sa,sn,sc,rfl,hsl⟩:=H3.rowS List.mem_cons_self
 rw [flat_len Itm.dat_len] at hsl
 obtain rfl:sn=ms.length:=by omega
 refine ⟨p,sa,sc,e,LdC [.int .u32 d0,.slice sa ms.length sc] (by kernel_rfl) (by rw [show (j:Int).toNat*2=j*2 by omega];exact hcell),?_⟩
 exact H3.sub (List.Sublist.refl _) (fun r h=>by
  rcases List.mem_cons.1 h with rfl | h
  ·exact List.mem_cons_self
  ·simp [h])
theorem c160 {F:Fr} {w:World} {ex:List Ex} {ro:List Ro} {b k:Nat} {T:TypeId} {cells:List Value} {L:List Chk} {l:Option Addr} (H:Sat F w ex ro) (hb:Ex.blk b T cells∈ex) (h0:cells[0]?=some (.slice l L.length k))
  (hl:Ro.deep [.row 2 (L.flatMap Chk.dat)] [.slice l L.length k]∈ro) (hn:L.length<=100000) (hN:(L.flatMap wChk).length<=500000) :
  Calls pg 160 #[.pointer (some ⟨b,0,none⟩)] w fun en w'=>en=.returned (.int .i64 ((4+(L.flatMap wChk).length:Nat):Int))/\Sat F w' ex ro:=by
 apply of160
 refine ⟨_,rfl,?_⟩
 refine ⟨_,_,_,(H.bm hb).cell h0,?_⟩
 refine ⟨fun a i q w=>∃(j:Nat),a=(((L.take j).flatMap wChk).length:Int)/\i=(j:Int)/\j+q=L.length/\Sat F w ex ro,⟨L.length,0,rfl,rfl,by omega,H⟩,?_⟩
 clear H;rintro dd a i q w ⟨j,rfl,rfl,hjq,H⟩
 refine ⟨fun hc=>?_,fun hc=>?_⟩
 ·rw [decide_eq_true_eq] at hc
  have hjl:j < L.length:=by omega
  have htk:L.take (j+1)=L.take j++[L[j]]:=by rw [List.take_add_one,List.getElem?_eq_getElem hjl];rfl
  have hat:=flat_at (f:=wChk) hjl
  obtain ⟨⟨d0,ms⟩,hE⟩:∃E,L[j]=E:=⟨_,rfl⟩
  rw [hE] at htk hat
  have hwl:=wChk_len (d0,ms)
  have hup:itLen ms<=up4 (4+itLen ms+1):=by unfold up4;omega
  replace hwl:(wChk (d0,ms)).length=up4 (4+itLen ms+1):=hwl
  obtain ⟨p,sa,sc,e,hld,H1⟩:=H.chk hl hjl hE
  refine ⟨p,e,by omega,by omega,?_⟩
  refine ⟨_,_,_,_,hld,?_⟩
  clear H hld
  have H:=H1
  clear H1
  refine sNew H ?_;clear H;intro b14 w _ H
  refine sSw0 H rfl (by kernel_rfl) (by rfl) (by rfl) ?_;clear H;intro w _ H
  refine ⟨_,_,_,_,(by exact Ld0 rfl H.b0 (by kernel_rfl)),?_⟩
  refine call_j (c164 H List.mem_cons_self (by omega)) ?_
  clear H;rintro _ w ⟨rfl,H⟩
  refine ⟨_,rfl,?_⟩
  refine ⟨q - 1,by omega,j+1,?_,?_,by omega,H.sub (List.sublist_cons_self _ _) (fun r h=>List.mem_cons_of_mem _ h)⟩
  ·rw [wi64_of (by omega) (by omega),htk,List.flatMap_append,List.length_append]
   simp only [List.flatMap_cons,List.flatMap_nil,List.append_nil]
   omega
  ·rw [wi64_of (by omega) (by omega)];simp
 ·rw [decide_eq_false_iff_not] at hc
  obtain rfl:j=L.length:=by omega
  rw [List.take_length]
  refine ⟨?_,H⟩
  rw [wi64_of (by omega) (by omega)]
  congr 2
theorem c163 {F:Fr} {w:World} {ex:List Ex} {ro:List Ro} {b k:Nat} {T:TypeId} {cells:List Value} {L:List Chk} {l:Option Addr} (H:Sat F w ex ro) (hb:Ex.blk b T cells∈ex) (h0:cells[0]?=some (.slice l L.length k))
  (hl:Ro.deep [.row 2 (L.flatMap Chk.dat)] [.slice l L.length k]∈ro) (hn:L.length<=31) (hN:(L.flatMap wChk).length<=262140) :
  Calls pg 163 #[.pointer (some ⟨b,0,none⟩)] w fun en w'=>en=.returned (.agg #[.bool false,.int .u8 (L.length:Int),.int .u8 202,.int .u16 (((4+(L.flatMap wChk).length) / 4 - 1:Nat):Int)])/\Sat F w' ex ro:=by
 apply of163
 refine sNew H ?_;clear H;intro b9 w _ H
 refine ⟨none,?_⟩
 replace H:=H.drew
 generalize w.drew=wd at H ⊢
 obtain ⟨ex2,S,back,hmem⟩:=Sat.still3 (E0:=[]) H none (by simp [foots])
 replace S:Sat _ _ ex2 ro:=S
 have hb1:=hmem b _ _ (mt hb)
 refine ⟨_,rfl,Option.some_ne_none _,⟨_,_,_,(S.bm hb1).eq⟩,?_⟩
 refine ⟨_,_,_,(S.bm hb1).cell h0,?_⟩
 refine call_j (c160 S hb1 h0 hl (by omega) (by omega)) ?_
 rintro _ w ⟨rfl,S⟩
 obtain ⟨g,H1⟩:=back [] w ro S
 clear H S hb1 hmem back
 have H:Sat F w (.blk b9 109 _::ex) ro:=H1
 clear H1
 refine ⟨_,rfl,?_⟩
 refine ⟨g,?_⟩
 refine ⟨by decide,?_⟩
 generalize (L.flatMap wChk).length=N at hN ⊢
 rw [Int.tdiv_eq_ediv_of_nonneg (by omega),wi64_of (n:=((4+N:Nat):Int) / 4) (by omega) (by omega),wi64_of (n:=((4+N:Nat):Int) / 4 - 1) (by omega) (by omega),wu16,wu8,show (L.length:Int) % 256=L.length by omega,
  show (((4+N:Nat):Int) / 4 - 1) % 65536=(((4+N) / 4 - 1:Nat):Int) by omega]
 refine sSw0 H rfl (by kernel_rfl) (by rfl) (by rfl) ?_;clear H;intro w _ H
 refine ⟨_,_,_,_,H.b0.ld,?_⟩
 exact ⟨rfl,H.d1⟩
def wrSD (L:List Chk):List Int:=hdrB (L.length:Int) 202 (((4+(L.flatMap wChk).length) / 4 - 1:Nat):Int)++L.flatMap wChk
theorem c159 {F:Fr} {w:World} {ex:List Ex} {ro:List Ro} {k:Nat} {L:List Chk} {l:Option Addr} (H:Sat F w ex ro) (hl:Ro.deep [.row 2 (L.flatMap Chk.dat)] [.slice l L.length k]∈ro) (hn:L.length<=31) (hN:(L.flatMap wChk).length<=262140) (hR:∀y∈L,ChkR y) :
  Calls pg 159 #[.agg #[.slice l L.length k]] w (MPost F ex ro (wrSD L)):=by
 apply of159
 refine sNew H ?_;clear H;intro b1 w _ H
 refine call_j (c160 H List.mem_cons_self rfl hl (by omega) (by omega)) ?_
 clear H;rintro _ w ⟨rfl,H⟩
 refine ⟨_,rfl,?_⟩
 obtain ⟨N,hNe⟩:∃N,N=4+(L.flatMap wChk).length:=⟨_,rfl⟩
 rw [<-hNe]
 refine sMk H (e:=5) (z:=.int .u8 0) (bytes:=1) (by kernel_rfl) (by kernel_rfl) (by rfl) (by unfold maxLen;omega) (by omega) (n:=N) (by rfl) (by rfl) ?_
 clear H;intro g w _ H
 rw [u8s_z,wz_start (by omega)] at H
 refine ⟨by omega,by omega,?_⟩
 refine ⟨_,_,_,(by exact Ce (by exact add_flat _ _ _) H.b1 rfl),?_⟩
 refine ⟨fun off i q w=>∃j:Nat,off=(((L.take j).flatMap wChk).length:Int)/\i=(j:Int)/\j+q=L.length/\∃ro',(∀r∈ro,r∈ro')/\Sat F w (.blk g 5 (u8s (wz ([0,0,0,0]++(L.take j).flatMap wChk) (N - 4 - ((L.take j).flatMap wChk).length)))::.blk b1 252 [.slice l L.length k]::ex) ro',
  ⟨L.length,0,rfl,rfl,by omega,ro,fun _ h=>h,H⟩,?_⟩
 clear H;rintro dd off i q w ⟨j,rfl,rfl,hjq,ro',hr,H⟩
 have hpre:=flat_take (f:=wChk) L j
 refine ⟨fun hc=>?_,fun hc=>?_⟩
 ·rw [decide_eq_true_eq] at hc
  have hjl:j < L.length:=by omega
  have htk:L.take (j+1)=L.take j++[L[j]]:=by rw [List.take_add_one,List.getElem?_eq_getElem hjl];rfl
  have hat:=flat_at (f:=wChk) hjl
  have hRj:=hR L[j] (List.getElem_mem hjl)
  obtain ⟨⟨d0,ms⟩,hE⟩:∃E,L[j]=E:=⟨_,rfl⟩
  rw [hE] at htk hat hRj
  have hwl:(wChk (d0,ms)).length=up4 (4+itLen ms+1):=wChk_len (d0,ms)
  have hup:itLen ms+4<=up4 (4+itLen ms+1):=by unfold up4;omega
  have hml:=itLen_le ms
  obtain ⟨p,sa,sc,e,hld,H1⟩:=H.chk (hr _ hl) hjl hE
  refine ⟨p,e,by omega,by omega,?_⟩
  refine ⟨_,_,_,_,hld,?_⟩
  clear H hld
  have H:=H1
  clear H1
  refine sNew H ?_;clear H;intro b19 w _ H
  refine sSw0 H rfl (by kernel_rfl) (by rfl) (by rfl) ?_;clear H;intro w _ H
  refine ⟨_,_,_,_,(by exact Ld0 rfl H.b0 (by kernel_rfl)),?_⟩
  refine call_j (c162 H List.mem_cons_self hRj (by omega) (by omega)) ?_
  clear H;rintro _ w ⟨da,dc,ro2,rfl,hr2,H,hd⟩
  refine ⟨_,_,_,_,rfl,?_⟩
  refine ⟨by simp [isIf],?_⟩
  refine ⟨fun h=>absurd h (by decide),fun _=>?_⟩
  rw [Int.toNat_natCast]
  refine ⟨by omega,by omega,?_⟩
  rw [cutW (b:=g) (o:=0) (l:=4) (q:=4) (by omega) rfl,cutW (b:=g) (l:=((L.take j).flatMap wChk).length) (q:=4+((L.take j).flatMap wChk).length) (by omega) (by omega)]
  refine sCpW H.r1 hd (by omega) (by rw [List.length_append];rfl) (by omega) (by omega) ?_
  clear H;intro w _ H
  refine ⟨q - 1,by omega,j+1,?_,by rw [wi64_of (by omega) (by omega)];simp,by omega,ro2,fun r h=>hr2 r (List.mem_cons_of_mem _ (hr r h)),?_⟩
  ·rw [wi64_of (by omega) (by omega),htk,List.flatMap_append,List.length_append]
   simp only [List.flatMap_cons,List.flatMap_nil,List.append_nil]
   omega
  ·rw [htk,List.flatMap_append,List.length_append]
   simp only [List.flatMap_cons,List.flatMap_nil,List.append_nil]
   rw [List.append_assoc] at H
   rw [show N - 4 - (((L.take j).flatMap wChk).length+(wChk (d0,ms)).length)=N - 4 - ((L.take j).flatMap wChk).length - (wChk (d0,ms)).length by omega]
   exact H.sub (by repeat (first | exact List.Sublist.refl _ | apply List.Sublist.cons_cons | apply List.Sublist.cons)) (fun _ h=>h)
 ·rw [decide_eq_false_iff_not] at hc
  obtain rfl:j=L.length:=by omega
  rw [List.take_length] at H
  refine ⟨_,_,_,(by exact Ce (by exact add_flat _ _ _) H.b1 rfl),?_⟩
  refine ⟨fun h=>by rw [decide_eq_true_eq] at h;omega,fun _=>?_⟩
  refine call_j (c163 H (List.mem_cons_of_mem _ List.mem_cons_self) rfl (hr _ hl) (by omega) (by omega)) ?_
  clear H;rintro _ w ⟨rfl,H⟩
  refine ⟨_,_,_,_,rfl,?_⟩
  refine call_j (hdrM H (by omega) (by decide) (by omega)) ?_
  clear H;rintro _ w ⟨g2,rfl,H⟩
  refine ⟨_,_,_,_,rfl,?_⟩
  refine ⟨by simp [isIf],?_⟩
  refine ⟨fun h=>absurd h (by decide),fun _=>?_⟩
  rw [show N - 4 - (L.flatMap wChk).length=0 by omega] at H
  refine sCpH H List.mem_cons_self (by omega) ?_
  clear H;intro w H
  have l9:(wrSD L).length=N:=by
   unfold wrSD
   rw [List.length_append,hNe]
   rfl
  exact MPost.blk H (List.sublist_cons_self _ _) (fun r h=>List.mem_cons_of_mem _ (hr r h)) l9.symm (by unfold maxLen;omega)
theorem strOf_sbs (s:ByteArray):strOfNums (sbs s)=s:=by
 have:(strOfNums (sbs s)).data=s.data:=by
  apply Array.ext'
  simp only [strOfNums,sbs,List.map_map]
  conv=>rhs;rw [<-List.map_id s.data.toList]
  apply List.map_congr_left
  intro c _
  simp
 cases s with
 | mk d=>simpa [strOfNums] using this
theorem noStr (s:ByteArray):(s.toList == (ByteArray.mk #[]).toList)=decide (s.size=0):=by
 have e:(ByteArray.mk #[])=strOfNums []:=rfl
 have h2:=sbs_len s
 rw [<-strOf_sbs s,e,Lib.strOfNums_toList,Lib.strOfNums_toList,strOfNums_size]
 cases sbs s with
 | nil=>rfl
 | cons x r=>simp [Lib.bytesOf]
theorem cpS_i {w:World} {g o dLen dCap:Nat} {s:ByteArray} {t:TypeId} {l:List Value} {ty:TypeId} (hB:Blk w g t l) (hle:s.size<=dLen) (hfit:o+s.size<=l.length) {K:Int->World->Prop}
  (hK:∀w',w.grownBy w' (some g)->Blk w' g t (l.take o++u8s (sbs s)++l.drop (o+s.size))->K s.size w') :
  ∃n,∃w',(Builtin.copy_ #[22,9] ty #[.slice (some ⟨g,o,none⟩) dLen dCap,.string s]).run pg w=.ok (.int .i64 n) w'/\K n w':=by
 obtain ⟨i,hi,_,hs,_⟩:=u8Info
 have hr:=Lib.run_copy_row_string (P:=pg) w 22 9 ty 5 g o dLen dCap s l.toArray t uSl (by rw [hi];simp [hs]) hB.eq hle (by simpa using hfit)
 have hbc:Lib.byteCells s.data.toList=u8s (sbs s):=by simp [Lib.byteCells,u8s,sbs]
 rw [hbc] at hr
 refine ⟨_,_,hr,hK _ ⟨rfl,rfl,rfl,?_,fun k _ hk=>setRow_other w g k _ (fun e=>hk (by rw [e]))⟩ ?_⟩
 ·simp [World.setRow]
 ·have:=setRow_heap w g l.toArray ((l.take o++u8s (sbs s)++l.drop (o+s.size)).toArray) t (0,0) hB.eq
  exact ⟨by simpa using this⟩
theorem sCpS {F:Fr} {w:World} {g:Nat} {t:TypeId} {A:List Int} {z:Nat} {s:ByteArray} {ex:List Ex} {ro:List Ro} (H:Sat F w (.blk g t (u8s (wz A z))::ex) ro) {o dLen dCap:Nat} (ho:o=A.length) (hd:s.size<=dLen) (hz:s.size<=z)
  {ty:TypeId} {K:Int->World->Prop} (h:∀w',Sat F w' (.blk g t (u8s (wz (A++sbs s) (z - s.size)))::ex) ro->K s.size w') :
  ∃n,∃w',(Builtin.copy_ #[22,9] ty #[.slice (some ⟨g,o,none⟩) dLen dCap,.string s]).run pg w=.ok (.int .i64 n) w'/\K n w':=by
 subst ho
 refine cpS_i H.b0 hd (by rw [u8s_length,wz_len];omega) fun w' hg hB=>h w' ?_
 have H':=H.turn hg hB
 have hl:=sbs_len s
 have e:(u8s (wz A z)).take A.length++u8s (sbs s)++(u8s (wz A z)).drop (A.length+s.size)=u8s (wz (A++sbs s) (z - s.size)):=by
  unfold u8s wz
  rw [<-List.map_take,<-List.map_drop,<-List.map_append,<-List.map_append,List.take_left',List.drop_append,List.drop_replicate]
  ·congr 1
   rw [List.drop_eq_nil_of_le (by omega)]
   simp
  ·rfl
 rw [e] at H'
 exact H'
def wBye (s:ByteArray):List Int:=if s.size=0 then [] else [(s.size:Int)]++sbs s++List.replicate (pad4 (1+s.size)) 0
theorem wBye_len (s:ByteArray):(wBye s).length=if s.size=0 then 0 else 1+s.size+pad4 (1+s.size):=by
 unfold wBye
 split
 ·rfl
 ·simp only [List.length_append,List.length_cons,List.length_nil,sbs_len,List.length_replicate]
theorem c171 {F:Fr} {w:World} {ex:List Ex} {ro:List Ro} {b k n:Nat} {T:TypeId} {cells:List Value} {l:Option Addr} {s:ByteArray} (H:Sat F w ex ro) (hb:Ex.blk b T cells∈ex) (h0:cells[0]?=some (.slice l n k)) (h1:cells[1]?=some (.string s)) (hn:n<=100000) (hs:s.size<=1000000) :
  Calls pg 171 #[.pointer (some ⟨b,0,none⟩)] w fun en w'=>en=.returned (.int .i64 ((4+4*n+(wBye s).length:Nat):Int))/\Sat F w' ex ro:=by
 apply of171
 refine ⟨_,rfl,?_⟩
 refine ⟨_,_,_,(H.bm hb).cell h0,?_⟩
 refine ⟨_,rfl,?_⟩
 refine ⟨_,(H.bm hb).cell h1,?_⟩
 rw [wBye_len]
 rw [wi64_of (n:=(n:Int)*4) (by omega) (by omega),wi64_of (n:=4+(n:Int)*4) (by omega) (by omega)]
 refine ⟨fun h=>?_,fun h=>?_⟩
 ·rw [decide_eq_true_eq] at h
  rw [wi64_of (n:=(s.size:Int)+1) (by omega) (by omega),wi64_of (n:=4+(n:Int)*4+((s.size:Int)+1)) (by omega) (by omega),show 4+(n:Int)*4+((s.size:Int)+1)=((4+4*n+(1+s.size):Nat):Int) by omega]
  refine call_j (padG (by omega)) ?_
  rintro _ w' ⟨rfl,rfl⟩
  refine ⟨_,rfl,?_⟩
  refine ⟨?_,H⟩
  have e:pad4 (4+4*n+(1+s.size))=pad4 (1+s.size):=by unfold pad4;omega
  have e2:pad4 (1+s.size)<=3:=by unfold pad4;omega
  rw [if_neg (by omega),e,wi64_of (by omega) (by omega)]
  congr 2
  omega
 ·rw [decide_eq_false_iff_not] at h
  have hs0:s.size=0:=by omega
  rw [hs0,wi64_of (n:=4+(n:Int)*4+((0:Nat):Int)) (by omega) (by omega),show 4+(n:Int)*4+((0:Nat):Int)=((4+4*n:Nat):Int) by omega]
  refine call_j (padG (by omega)) ?_
  rintro _ w' ⟨rfl,rfl⟩
  refine ⟨_,rfl,?_⟩
  refine ⟨?_,H⟩
  have e:pad4 (4+4*n)=0:=by unfold pad4;omega
  rw [if_pos rfl,e,wi64_of (by omega) (by omega)]
  congr 2
theorem c173 {F:Fr} {w:World} {ex:List Ex} {ro:List Ro} {b k n:Nat} {T:TypeId} {cells:List Value} {l:Option Addr} {s:ByteArray} (H:Sat F w ex ro) (hb:Ex.blk b T cells∈ex) (h0:cells[0]?=some (.slice l n k)) (h1:cells[1]?=some (.string s)) (hn:n<=31) (hs:s.size<=255) :
  Calls pg 173 #[.pointer (some ⟨b,0,none⟩)] w fun en w'=>en=.returned (.agg #[.bool false,.int .u8 (n:Int),.int .u8 203,.int .u16 (((4+4*n+(wBye s).length) / 4 - 1:Nat):Int)])/\Sat F w' ex ro:=by
 apply of173
 refine sNew H ?_;clear H;intro b9 w _ H
 refine ⟨none,?_⟩
 replace H:=H.drew
 generalize w.drew=wd at H ⊢
 obtain ⟨ex2,S,back,hmem⟩:=Sat.still3 (E0:=[]) H none (by simp [foots])
 replace S:Sat _ _ ex2 ro:=S
 have hb1:=hmem b _ _ (mt hb)
 refine ⟨_,rfl,Option.some_ne_none _,⟨_,_,_,(S.bm hb1).eq⟩,?_⟩
 refine ⟨_,_,_,(S.bm hb1).cell h0,?_⟩
 refine call_j (c171 S hb1 h0 h1 (by omega) (by omega)) ?_
 rintro _ w ⟨rfl,S⟩
 obtain ⟨g,H1⟩:=back [] w ro S
 clear H S hb1 hmem back
 have H:Sat F w (.blk b9 109 _::ex) ro:=H1
 clear H1
 refine ⟨_,rfl,?_⟩
 refine ⟨g,?_⟩
 refine ⟨by decide,?_⟩
 have hw:(wBye s).length<=300:=by
  rw [wBye_len]
  split
  ·omega
  ·have:pad4 (1+s.size)<=3:=by unfold pad4;omega
   omega
 generalize (wBye s).length=N at hw ⊢
 rw [Int.tdiv_eq_ediv_of_nonneg (by omega),wi64_of (n:=((4+4*n+N:Nat):Int) / 4) (by omega) (by omega),wi64_of (n:=((4+4*n+N:Nat):Int) / 4 - 1) (by omega) (by omega),wu16,wu8,show (n:Int) % 256=n by omega,
  show (((4+4*n+N:Nat):Int) / 4 - 1) % 65536=(((4+4*n+N) / 4 - 1:Nat):Int) by omega]
 refine sSw0 H rfl (by kernel_rfl) (by rfl) (by rfl) ?_;clear H;intro w _ H
 refine ⟨_,_,_,_,H.b0.ld,?_⟩
 exact ⟨rfl,H.d1⟩
def wrBye (L:List Int) (s:ByteArray):List Int:=hdrB (L.length:Int) 203 (((4+4*L.length+(wBye s).length) / 4 - 1:Nat):Int)++(L.flatMap b32++wBye s)
theorem fl32 (L:List Int):(L.flatMap b32).length=4*L.length:=flat_bd (f:=b32) (fun _=>rfl) L
theorem c170 {F:Fr} {w:World} {ex:List Ex} {ro:List Ro} {k:Nat} {L:List Int} {l:Option Addr} {s:ByteArray} (H:Sat F w ex ro) (hl:Ro.deep [.row 1 (oi .u32 L)] [.slice l L.length k]∈ro) (hn:L.length<=31) (hs:s.size<=255) (hR:∀y∈L,u32R y) :
  Calls pg 170 #[.agg #[.slice l L.length k,.string s]] w (MPost F ex ro (wrBye L s)):=by
 apply of170
 refine sNew H ?_;clear H;intro b1 w _ H
 refine call_j (c171 (s:=s) H ms rfl rfl (by omega) (by omega)) ?_
 clear H;rintro _ w ⟨rfl,H⟩
 refine ⟨_,rfl,?_⟩
 have hp3:pad4 (1+s.size)<=3:=by unfold pad4;omega
 have hwl:=wBye_len s
 have hw:(wBye s).length<=300:=by
  rw [hwl]
  split<;>omega
 obtain ⟨N,hN⟩:∃N,N=4+4*L.length+(wBye s).length:=⟨_,rfl⟩
 rw [<-hN]
 refine sMk H (e:=5) (z:=.int .u8 0) (bytes:=1) (by kernel_rfl) (by kernel_rfl) (by rfl) (by unfold maxLen;omega) (by omega) (n:=N) (by rfl) (by rfl) ?_
 clear H;intro g w _ H
 rw [u8s_z,wz_start (by omega)] at H
 refine ⟨by omega,by omega,?_⟩
 refine ⟨_,_,_,(H.b1.at0 rfl),?_⟩
 refine ⟨fun h=>by rw [decide_eq_true_eq] at h;omega,fun _=>?_⟩
 refine ⟨_,_,_,(H.b1.at0 rfl),?_⟩
 refine ⟨fun i q w=>∃j:Nat,i=(j:Int)/\j+q=L.length/\Sat F w (.blk g 5 (u8s (wz ([0,0,0,0]++(L.take j).flatMap b32) (N - 4 - 4*j)))::.blk b1 203 [.slice l L.length k,.string s]::ex) ro,⟨L.length,0,rfl,by omega,H⟩,?_⟩
 clear H;rintro dd i q w ⟨j,rfl,hjq,H⟩
 have hBl:([0,0,0,0]++(L.take j).flatMap b32).length=4+4*j:=by
  rw [List.length_append,fl32,List.length_take]
  show 4+_=_
  omega
 refine ⟨fun hc=>?_,fun hc=>?_⟩
 ·rw [decide_eq_true_eq] at hc
  have hjl:j < L.length:=by omega
  have htk:L.take (j+1)=L.take j++[L[j]]:=by rw [List.take_add_one,List.getElem?_eq_getElem hjl];rfl
  have hRj:=hR L[j] (List.getElem_mem hjl)
  obtain ⟨bb,oo,hle,hcell⟩:=H.elt hl (by omega)
  have hc1:=hcell j (.int .u32 L[j]) (by rw [oi_get _ _ _ hjl];simp [List.getD,List.getElem?_eq_getElem hjl])
  refine ⟨_,hle,by omega,by omega,?_⟩
  refine ⟨_,(by rw [show (j:Int).toNat*1=j by omega,add_flat];exact hc1),?_⟩
  clear hcell hc1
  rw [wi64_of (n:=(j:Int)*4) (by omega) (by omega),show ((j:Int)*4).toNat=4*j by omega]
  refine ⟨by omega,by omega,?_⟩
  rw [cutW (b:=g) (o:=0) (l:=4) (q:=4) (by omega) rfl,cutW (b:=g) (l:=4*j) (q:=4+4*j) (by omega) (by omega)]
  refine call_j (put32 H hBl.symm hRj (by omega) (by omega)) ?_
  clear H;rintro _ w ⟨rfl,H⟩
  refine ⟨rfl,?_⟩
  refine ⟨q - 1,by omega,j+1,by rw [wi64_of (by omega) (by omega)];simp,by omega,?_⟩
  rw [htk,List.flatMap_append]
  simp only [List.flatMap_cons,List.flatMap_nil,List.append_nil]
  rw [List.append_assoc,show N - 4 - 4*j - 4=N - 4 - 4*(j+1) by omega] at H
  exact H
 ·rw [decide_eq_false_iff_not] at hc
  obtain rfl:j=L.length:=by omega
  rw [List.take_length] at H hBl
  have l9:(wrBye L s).length=N:=by
   unfold wrBye
   rw [List.length_append,List.length_append,fl32,hN]
   show 4+_=_
   omega
  refine ⟨_,(H.b1.at0 rfl),?_⟩
  rw [noStr]
  refine ⟨fun h0=>?_,fun h0=>?_⟩
  ·have hs0:s.size≠0:=by simpa using h0
   rw [if_neg hs0] at hwl
   refine ⟨_,(H.b1.at0 rfl),?_⟩
   refine sToB H s (by omega) ?_
   clear H;intro ba bc w _ H
   refine ⟨fun h=>by rw [decide_eq_true_eq] at h;omega,fun _=>?_⟩
   refine ⟨_,_,_,(H.b1.at0 rfl),?_⟩
   rw [wi64_of (n:=(L.length:Int)*4) (by omega) (by omega),wi64_of (n:=(L.length:Int)*4+1) (by omega) (by omega),show ((L.length:Int)*4).toNat=4*L.length by omega,show ((L.length:Int)*4+1).toNat=4*L.length+1 by omega,wu8,show ((s.size:Nat):Int) % 256=s.size by omega]
   rw [cutW (b:=g) (o:=0) (l:=4) (q:=4) (by omega) rfl]
   refine ⟨_,rfl,by omega,by omega,?_⟩
   refine sStW H (by rw [add_flat,hBl];congr 1;omega) (by omega) ?_
   clear H;intro w H
   refine ⟨by omega,by omega,?_⟩
   rw [cutW (b:=g) (l:=4*L.length+1) (q:=5+4*L.length) (by omega) (by omega)]
   refine sCpW H ms (by omega) (by rw [List.length_append,hBl];show _=4+4*L.length+1;omega) (by omega) (by rw [sbs_len];omega) ?_
   clear H;intro w _ H
   refine call_j (c173 (s:=s) H (mt ms) rfl rfl (by omega) hs) ?_
   clear H;rintro _ w ⟨rfl,H⟩
   refine ⟨_,_,_,_,rfl,?_⟩
   refine call_j (hdrM H (by omega) (by decide) (by omega)) ?_
   clear H;rintro _ w ⟨g2,rfl,H⟩
   refine ⟨_,_,_,_,rfl,?_⟩
   refine ⟨by simp [isIf],?_⟩
   refine fF ?_
   rw [wz_pad _ (pad4 (1+s.size)) (by rw [sbs_len];omega),sbs_len,show N - 4 - 4*L.length - 1 - s.size - pad4 (1+s.size)=0 by omega,List.append_assoc,List.append_assoc,List.append_assoc] at H
   have e9:(L.flatMap b32++([(s.size:Int)]++(sbs s++List.replicate (pad4 (1+s.size)) 0)))=L.flatMap b32++wBye s:=by
    unfold wBye
    rw [if_neg hs0,List.append_assoc]
   rw [e9] at H
   refine sCpH H ms (by omega) ?_
   clear H;intro w H
   exact MPost.blk H (List.sublist_cons_self _ _) (fun r h=>mt (mt h)) l9.symm (by unfold maxLen;omega)
  ·have hs0:s.size=0:=by simpa using h0
   rw [if_pos hs0] at hwl
   refine call_j (c173 (s:=s) H (mt ms) rfl rfl (by omega) hs) ?_
   clear H;rintro _ w ⟨rfl,H⟩
   refine ⟨_,_,_,_,rfl,?_⟩
   refine call_j (hdrM H (by omega) (by decide) (by omega)) ?_
   clear H;rintro _ w ⟨g2,rfl,H⟩
   refine ⟨_,_,_,_,rfl,?_⟩
   refine ⟨by simp [isIf],?_⟩
   refine fF ?_
   rw [show N - 4 - 4*L.length=0 by omega] at H
   have e9:L.flatMap b32=L.flatMap b32++wBye s:=by
    unfold wBye
    rw [if_pos hs0,List.append_nil]
   rw [e9] at H
   refine sCpH H ms (by omega) ?_
   clear H;intro w H
   exact MPost.blk H (List.sublist_cons_self _ _) (fun r h=>mt h) l9.symm (by unfold maxLen;omega)
def wrApp (sub s:Int) (nm:ByteArray) (xs:List Int):List Int:=hdrB sub 204 ((2+xs.length / 4:Nat):Int)++(b32 s++sbs nm++xs)
theorem c176 {w:World} {b n k:Nat} {l:Option Addr} (hc:w.cell? ⟨b,3,none⟩=some (.slice l n k)) (hn:n<=100000) (h4:n % 4=0):Calls pg 176 #[.pointer (some ⟨b,0,none⟩)] w fun en w'=>en=.returned (.int .i64 ((12+n:Nat):Int))/\w'=w:=by
 apply of176
 refine ⟨_,rfl,?_⟩
 refine ⟨_,_,_,hc,?_⟩
 refine ⟨by decide,?_⟩
 have ht:((n:Nat):Int).tmod 4=0:=by rw [Int.tmod_eq_emod_of_nonneg (by omega)];omega
 rw [ht]
 refine fT ?_
 refine ⟨?_,rfl⟩
 rw [wi64_of (n:=12+(n:Int)) (by omega) (by omega),wi64_of (by omega) (by omega)]
 congr 2<;>omega
theorem c175 {F:Fr} {w:World} {ex:List Ex} {ro:List Ro} {xn xk:Nat} {sub s:Int} {nm:ByteArray} {xs:List Int} {x:Option Addr} (H:Sat F w ex ro) (hxs:Ro.B xs x xn xk∈ro) (hsub:0<=sub/\sub < 32) (hs:u32R s) (hnm:nm.size=4) (h4:xn % 4=0) (hx:xn<=65520) :
  Calls pg 175 #[.agg #[.int .u8 sub,.int .u32 s,.string nm,.slice x xn xk]] w (MPost F ex ro (wrApp sub s nm xs)):=by
 apply of175
 have hxl:=H.lenB hxs
 refine sNew H ?_;clear H;intro b1 w _ H
 refine ⟨_,_,_,(H.b0.at0 rfl),?_⟩
 refine ⟨fun h=>by rw [decide_eq_true_eq] at h;omega,fun _=>?_⟩
 refine ⟨_,(H.b0.at0 rfl),?_⟩
 refine ⟨fun h=>by rw [hnm] at h;exact absurd h (by decide),fun _=>?_⟩
 refine ⟨by decide,?_⟩
 have ht:((xn:Nat):Int).tmod 4=0:=by rw [Int.tmod_eq_emod_of_nonneg (by omega)];omega
 rw [ht]
 refine fT ?_
 refine call_j (c176 (show w.cell? ⟨b1,3,none⟩=some (.slice x xn xk) from H.b0.cell rfl) (by omega) h4) ?_
 rintro _ w' ⟨rfl,rfl⟩
 refine ⟨_,rfl,?_⟩
 refine ⟨by decide,?_⟩
 refine ⟨_,(H.b0.at0 rfl),?_⟩
 refine sNew H ?_;clear H;intro b10 w _ H
 rw [Int.tdiv_eq_ediv_of_nonneg (by omega),wi64_of (n:=((12+xn:Nat):Int) / 4) (by omega) (by omega),wi64_of (n:=((12+xn:Nat):Int) / 4 - 1) (by omega) (by omega),wu16,show (((12+xn:Nat):Int) / 4 - 1) % 65536=((2+xn / 4:Nat):Int) by omega,show ((0:Int) != (0:Int))=false from rfl]
 refine sSw0 H rfl (by kernel_rfl) (by rfl) (by rfl) ?_;clear H;intro w _ H
 refine ⟨_,_,_,_,H.b0.ld,?_⟩
 refine call_j (hdrM H hsub (by decide) (by omega)) ?_
 clear H;rintro _ w ⟨g2,rfl,H⟩
 refine ⟨_,_,_,_,rfl,?_⟩
 refine ⟨by simp [isIf],?_⟩
 refine fF ?_
 refine sMk H (e:=5) (z:=.int .u8 0) (bytes:=1) (by kernel_rfl) (by kernel_rfl) (by rfl) (by unfold maxLen;omega) (by omega) (n:=12+xn) (by rfl) (by rfl) ?_
 clear H;intro g w _ H
 rw [u8s_z] at H
 replace H:Sat F w (.blk g 5 (u8s (wz [] (12+xn)))::_) _:=H
 refine sCpW H ms (by decide) (by rfl) (by omega) (by show 4<=_;omega) ?_
 clear H;intro w _ H
 refine ⟨by omega,by omega,?_⟩
 refine ⟨by omega,by omega,?_⟩
 replace H:=H.drew;generalize w.drew=w at H ⊢
 refine ⟨_,(H.b2.at0 rfl),?_⟩
 rw [cutW (b:=g) (o:=0) (l:=4) (q:=4) (by omega) rfl]
 refine call_j (put32 H (by rfl) hs (by decide) (by show 4<=12+xn - 4;omega)) ?_
 clear H;rintro _ w ⟨rfl,H⟩
 refine ⟨rfl,?_⟩
 refine ⟨by omega,by omega,?_⟩
 refine ⟨by omega,by omega,?_⟩
 replace H:=H.drew;generalize w.drew=w at H ⊢
 refine ⟨_,(H.b2.at0 rfl),?_⟩
 rw [cutW (b:=g) (o:=0) (l:=8) (q:=8) (by omega) rfl]
 refine sCpS H (by rfl) (by rw [hnm];decide) (by rw [hnm];show 4<=12+xn - 4 - 4;omega) ?_
 clear H;intro w H
 refine ⟨by omega,by omega,?_⟩
 replace H:=H.drew;generalize w.drew=w at H ⊢
 refine ⟨_,_,_,(H.b2.at0 rfl),?_⟩
 have hpl:([]++hdrB sub 204 ((2+xn / 4:Nat):Int)++b32 s++sbs nm).length=12:=by
  rw [List.length_append,sbs_len,hnm];rfl
 refine sCpV H (mt hxs) (fun h0=>by rw [cutW (b:=g) (o:=0) (l:=12) (q:=12) (by omega) rfl,hpl]) (by omega) (by rw [hnm,hxl];show xn<=12+xn - 4 - 4 - 4;omega) ?_
 clear H;intro w _ H
 refine fF ?_
 rw [hnm,hxl,show 12+xn - (hdrB sub 204 ((2+xn / 4:Nat):Int)).length - 4 - 4 - xn=0 by show 12+xn - 4 - 4 - 4 - xn=0;omega] at H
 have e9:wz ([]++hdrB sub 204 ((2+xn / 4:Nat):Int)++b32 s++sbs nm++xs) 0=wrApp sub s nm xs:=by
  unfold wrApp wz
  rw [hxl]
  simp
 rw [e9] at H
 have l9:(wrApp sub s nm xs).length=12+xn:=by
  rw [<-e9,wz_len,List.length_append,hpl,hxl]
  omega
 exact MPost.blk H ((List.sublist_cons_self _ _).trans (List.sublist_cons_self _ _)) (fun r h=>mt h) l9.symm (by unfold maxLen;omega)
def metN:Met->Int
 | (a,b,c)=>(if a then 1 else 0)*32768+b*8192+c
def wMet (x:Met):List Int:=b16 (metN x)
theorem wMet_len (x:Met):(wMet x).length=2:=rfl
def MetR (x:Met):Prop:=(0<=x.2.1/\x.2.1 < 4)/\0<=x.2.2/\x.2.2 < 8192
theorem c197 {F:Fr} {w:World} {ex:List Ex} {ro:List Ro} (H:Sat F w ex ro) {a:Bool} {b c:Int} (hR:MetR (a,b,c)) :
  Calls pg 197 #[.agg #[.bool a,.int .u8 b,.int .u16 c]] w (MPost F ex ro (wMet (a,b,c))):=by
 obtain ⟨hb,hc⟩:(0<=b/\b < 4)/\0<=c/\c < 8192:=hR
 apply of197
 refine sNew H ?_;clear H;intro b1 w _ H
 refine sMk H (e:=5) (z:=.int .u8 0) (bytes:=1) (by kernel_rfl) (by kernel_rfl) (by rfl) (by unfold maxLen;omega) (by omega) (n:=2) (by rfl) (by rfl) ?_
 clear H;intro g w _ H
 rw [u8s_z] at H
 replace H:Sat F w (.blk g 5 (u8s (wz [] 2))::.blk b1 281 [.bool a,.int .u8 b,.int .u16 c]::ex) ro:=H
 refine ⟨_,(H.b1.at0 rfl),?_⟩
 have tail:∀(r:Int) (w:World),r=0\/r=1->Sat F w (.blk g 5 (u8s (wz [] 2))::.blk b1 281 [.bool a,.int .u8 b,.int .u16 c]::ex) ro->metN (a,b,c)=r*32768+b*8192+c ->
   Calls pg 89 #[.slice (some ⟨g,0,none⟩) 2 2,.int .u16 (r*2 ^ 15+b*2 ^ 13+c*2 ^ 0)] w fun en w'=>en=.returned (.tuple #[])/\MPost F ex ro (wMet (a,b,c)) (.returned (.tuple #[.slice (some ⟨g,0,none⟩) 2 2,.nilIface])) w':=by
  intro r w hr H e
  have e2:r*2 ^ 15+b*2 ^ 13+c*2 ^ 0=metN (a,b,c):=by rw [e];omega
  rw [e2]
  refine (put16 H rfl (by rw [e];omega) (by decide) (by decide)).mono ?_
  rintro _ w ⟨rfl,H⟩
  exact ⟨rfl,MPost.blk (bs:=wMet (a,b,c)) H (List.sublist_cons_self _ _) (fun _ h=>h) rfl (by decide)⟩
 refine ⟨fun ha=>?_,fun ha=>?_⟩
 ·have eN:metN (a,b,c)=1*32768+b*8192+c:=by simp [metN,ha]
  refine call_j (c199 (src:=0) (val:=1) (q:=0) (size:=1) (start:=0) 15 (m:=2) (by decide) (.inl ⟨rfl,rfl⟩) (by decide) (by decide) (by decide) (by decide)) ?_
  rintro _ w ⟨rfl,g1⟩
  replace H:=H.grow g1;clear g1
  refine ⟨_,_,rfl,?_⟩
  refine ⟨by simp [isIf],fun h=>absurd h (by decide),fun _=>?_⟩
  refine ⟨_,(H.b1.at0 rfl),?_⟩
  rw [wu16,show b % 65536=b by omega]
  refine call_j (c199 (src:=0+1*2 ^ 15) (val:=b) (q:=1) (size:=2) (start:=1) 13 (m:=4) (by decide) (.inr (.inl ⟨rfl,rfl⟩)) (by decide) (by decide) (by decide) (by omega)) ?_
  rintro _ w ⟨rfl,g1⟩
  replace H:=H.grow g1;clear g1
  refine ⟨_,_,rfl,?_⟩
  refine ⟨by simp [isIf],fun h=>absurd h (by decide),fun _=>?_⟩
  refine ⟨_,(H.b1.at0 rfl),?_⟩
  refine call_j (c199 (src:=0+1*2 ^ 15+b*2 ^ 13) (val:=c) (q:=4+b) (size:=13) (start:=3) 0 (m:=8192) (by decide) (.inr (.inr ⟨rfl,rfl⟩)) (by decide) (by omega) (by omega) (by omega)) ?_
  rintro _ w ⟨rfl,g1⟩
  replace H:=H.grow g1;clear g1
  refine ⟨_,_,rfl,?_⟩
  refine ⟨by simp [isIf],fun h=>absurd h (by decide),fun _=>?_⟩
  have h9:=tail 1 w (.inr rfl) H eN
  rw [show (1:Int)*2 ^ 15+b*2 ^ 13+c*2 ^ 0=0+1*2 ^ 15+b*2 ^ 13+c*2 ^ 0 by omega] at h9
  exact h9
 ·have eN:metN (a,b,c)=0*32768+b*8192+c:=by simp [metN,ha]
  refine call_j (c199 (src:=0) (val:=0) (q:=0) (size:=1) (start:=0) 15 (m:=2) (by decide) (.inl ⟨rfl,rfl⟩) (by decide) (by decide) (by decide) (by decide)) ?_
  rintro _ w ⟨rfl,g1⟩
  replace H:=H.grow g1;clear g1
  refine ⟨_,_,rfl,?_⟩
  refine ⟨by simp [isIf],fun h=>absurd h (by decide),fun _=>?_⟩
  refine ⟨_,(H.b1.at0 rfl),?_⟩
  rw [wu16,show b % 65536=b by omega]
  refine call_j (c199 (src:=0+0*2 ^ 15) (val:=b) (q:=0) (size:=2) (start:=1) 13 (m:=4) (by decide) (.inr (.inl ⟨rfl,rfl⟩)) (by decide) (by decide) (by decide) (by omega)) ?_
  rintro _ w ⟨rfl,g1⟩
  replace H:=H.grow g1;clear g1
  refine ⟨_,_,rfl,?_⟩
  refine ⟨by simp [isIf],fun h=>absurd h (by decide),fun _=>?_⟩
  refine ⟨_,(H.b1.at0 rfl),?_⟩
  refine call_j (c199 (src:=0+0*2 ^ 15+b*2 ^ 13) (val:=c) (q:=b) (size:=13) (start:=3) 0 (m:=8192) (by decide) (.inr (.inr ⟨rfl,rfl⟩)) (by decide) (by omega) (by omega) (by omega)) ?_
  rintro _ w ⟨rfl,g1⟩
  replace H:=H.grow g1;clear g1
  refine ⟨_,_,rfl,?_⟩
  refine ⟨by simp [isIf],fun h=>absurd h (by decide),fun _=>?_⟩
  have h9:=tail 0 w (.inl rfl) H eN
  rw [show (0:Int)*2 ^ 15+b*2 ^ 13+c*2 ^ 0=0+0*2 ^ 15+b*2 ^ 13+c*2 ^ 0 by omega] at h9
  exact h9
def wBlo:Blo->List Int
 | (a,b,l)=>b32 a++b16 b++b16 (l.length:Int)++l.flatMap wMet++List.replicate (2*(l.length % 2)) 0
def bLen (n:Nat):Nat:=8+2*(n+n % 2)
theorem wBlo_len (x:Blo):(wBlo x).length=bLen x.2.2.length:=by
 obtain ⟨a,b,l⟩:=x
 simp only [wBlo,List.length_append,b32_len,b16_len,flat_bd wMet_len,List.length_replicate,bLen]
 omega
def BloR (x:Blo):Prop:=u32R x.1/\(0<=x.2.1/\x.2.1 < 65536)/\x.2.2.length<=16384/\∀m∈x.2.2,MetR m
theorem c194 {F:Fr} {w:World} {ex:List Ex} {ro:List Ro} {s b:Int} {l:List Met} {o:Option Addr} {oc:Nat} (H:Sat F w ex ro) (hl:Ro.deep [.row 3 (l.flatMap Met.dat)] [.slice o l.length oc]∈ro) (hR:BloR (s,b,l)) :
  Calls pg 194 #[.agg #[.int .u32 s,.int .u16 b,.slice o l.length oc]] w (MPost F ex ro (wBlo (s,b,l))):=by
 obtain ⟨hs,hb,hn,hM⟩:u32R s/\(0<=b/\b < 65536)/\l.length<=16384/\∀m∈l,MetR m:=hR
 apply of194
 refine sNew H ?_;clear H;intro b1 w _ H
 refine ⟨_,_,_,(H.b0.at0 rfl),?_⟩
 refine ⟨fun h=>by rw [decide_eq_true_eq] at h;omega,fun _=>?_⟩
 refine call_j (c195 H (by omega)) ?_
 clear H;rintro _ w ⟨rfl,H⟩
 refine ⟨_,rfl,?_⟩
 obtain ⟨N,hN⟩:∃N,N=8+2*(l.length+l.length % 2):=⟨_,rfl⟩
 rw [<-hN]
 refine sMk H (e:=5) (z:=.int .u8 0) (bytes:=1) (by kernel_rfl) (by kernel_rfl) (by rfl) (by unfold maxLen;omega) (by omega) (n:=N) (by rfl) (by rfl) ?_
 clear H;intro g w _ H
 rw [u8s_z] at H
 replace H:Sat F w (.blk g 5 (u8s (wz [] N))::.blk b1 278 [.int .u32 s,.int .u16 b,.slice o l.length oc]::ex) ro:=H
 refine ⟨by omega,by omega,?_⟩
 replace H:=H.drew;generalize w.drew=w at H ⊢
 refine ⟨_,(H.b1.at0 rfl),?_⟩
 rw [cutW (b:=g) (o:=0) (l:=0) (q:=0) (by omega) rfl]
 refine call_j (put32 H (by rfl) hs (by omega) (by omega)) ?_
 clear H;rintro _ w ⟨rfl,H⟩
 refine ⟨rfl,?_⟩
 refine ⟨by omega,by omega,?_⟩
 replace H:=H.drew;generalize w.drew=w at H ⊢
 refine ⟨_,(H.b1.at0 rfl),?_⟩
 rw [cutW (b:=g) (o:=0) (l:=4) (q:=4) (by omega) rfl]
 refine call_j (put16 H (by rfl) hb (by omega) (by omega)) ?_
 clear H;rintro _ w ⟨rfl,H⟩
 refine ⟨rfl,?_⟩
 refine ⟨_,_,_,(H.b1.at0 rfl),?_⟩
 refine ⟨by omega,by omega,?_⟩
 rw [cutW (b:=g) (o:=0) (l:=6) (q:=6) (by omega) rfl,wu16,show (l.length:Int) % 65536=l.length by omega]
 refine call_j (put16 H (by rfl) (by omega) (by omega) (by omega)) ?_
 clear H;rintro _ w ⟨rfl,H⟩
 refine ⟨rfl,?_⟩
 refine ⟨_,_,_,(H.b1.at0 rfl),?_⟩
 obtain ⟨P,hP⟩:∃P,P=b32 s++b16 b++b16 (l.length:Int):=⟨_,rfl⟩
 have hPl:P.length=8:=by rw [hP];rfl
 have H0:Sat F w (.blk g 5 (u8s (wz P (N - 8)))::.blk b1 278 [.int .u32 s,.int .u16 b,.slice o l.length oc]::ex) ro:=by
  rw [hP,show N - 8=N - 4 - 2 - 2 by omega]
  exact H
 clear H
 refine ⟨fun i q w=>∃j:Nat,i=(j:Int)/\j+q=l.length/\∃ro',(∀r∈ro,r∈ro')/\Sat F w (.blk g 5 (u8s (wz (P++(l.take j).flatMap wMet) (N - 8 - 2*j)))::.blk b1 278 [.int .u32 s,.int .u16 b,.slice o l.length oc]::ex) ro',
  ⟨l.length,0,rfl,by omega,ro,fun _ h=>h,by simpa using H0⟩,?_⟩
 clear H0;rintro dd i q w ⟨j,rfl,hjq,ro',hr,H⟩
 have hBl:(P++(l.take j).flatMap wMet).length=8+2*j:=by
  rw [List.length_append,hPl,flat_bd wMet_len,List.length_take]
  omega
 refine ⟨fun hc=>?_,fun hc=>?_⟩
 ·rw [decide_eq_true_eq] at hc
  have hjl:j < l.length:=by omega
  have htk:l.take (j+1)=l.take j++[l[j]]:=by rw [List.take_add_one,List.getElem?_eq_getElem hjl];rfl
  have hRj:=hM l[j] (List.getElem_mem hjl)
  obtain ⟨p,us,e,hus,hcell,H1⟩:=H.eltF Met.dat_len' (by decide) (hr _ hl) (j:=j) hjl
  generalize l[j]=E at H1 htk hRj
  obtain ⟨e0,e1,e2⟩:=E
  obtain rfl:=H1.ones (us:=[.bool e0,.int .u8 e1,.int .u16 e2]) ms
  clear H1
  refine ⟨p,e,by omega,by omega,?_⟩
  refine ⟨_,_,_,LdC [.bool e0,.int .u8 e1,.int .u16 e2] (by kernel_rfl) (by rw [show (j:Int).toNat*3=j*3 by omega];exact hcell),?_⟩
  clear hcell
  refine sNew H ?_;clear H;intro b27 w _ H
  refine sSw0 H rfl (by kernel_rfl) (by rfl) (by rfl) ?_;clear H;intro w _ H
  refine ⟨_,_,_,H.b0.ld,?_⟩
  refine call_j (c197 H hRj) ?_
  clear H;rintro _ w ⟨da,dc,ro2,rfl,hr2,H,hd⟩
  refine ⟨_,_,_,_,rfl,?_⟩
  refine ⟨by simp [isIf],?_⟩
  refine fF ?_
  rw [wi64_of (n:=(j:Int)*2) (by omega) (by omega),wi64_of (n:=8+(j:Int)*2) (by omega) (by omega),show (8+(j:Int)*2).toNat=8+2*j by omega]
  refine ⟨by omega,by omega,?_⟩
  rw [cutW (b:=g) (l:=8+2*j) (q:=8+2*j) (by omega) (by omega)]
  refine sCpW H.r1 hd (by rw [wMet_len];decide) hBl.symm (by rw [wMet_len];omega) (by rw [wMet_len];omega) ?_
  clear H;intro w _ H
  refine ⟨q - 1,by omega,j+1,by rw [wi64_of (by omega) (by omega)];simp,by omega,ro2,fun r h=>hr2 r (hr r h),?_⟩
  rw [htk,List.flatMap_append]
  simp only [List.flatMap_cons,List.flatMap_nil,List.append_nil]
  rw [wMet_len,List.append_assoc,show N - 8 - 2*j - 2=N - 8 - 2*(j+1) by omega] at H
  exact H.dr
 ·rw [decide_eq_false_iff_not] at hc
  obtain rfl:j=l.length:=by omega
  rw [List.take_length] at H
  rw [wz_pad _ (2*(l.length % 2)) (by omega),show N - 8 - 2*l.length - 2*(l.length % 2)=0 by omega,hP] at H
  have e9:wz (b32 s++b16 b++b16 (l.length:Int)++l.flatMap wMet++List.replicate (2*(l.length % 2)) 0) 0=wBlo (s,b,l):=by simp [wz,wBlo]
  rw [e9] at H
  exact MPost.blk H (List.sublist_cons_self _ _) (fun r h=>hr r h) (by rw [wBlo_len];exact hN) (by unfold maxLen;omega)
theorem Sat.blo {F:Fr} {w:World} {ex:List Ex} {ro:List Ro} {L:List Blo} {l:Option Addr} {k:Nat} (H:Sat F w ex ro) (hl:Ro.deep [.row 3 (L.flatMap Blo.dat)] [.slice l L.length k]∈ro) {j:Nat} (hj:j < L.length) {d0 d1:Int} {ms:List Met} (hE:L[j]=(d0,d1,ms)) :
  ∃p sa sc,l=some p/\LdV pg 278 (p.add ((j:Int).toNat*3)) (.agg #[.int .u32 d0,.int .u16 d1,.slice sa ms.length sc]) w/\Sat F w ex (.deep [.row 3 (ms.flatMap Met.dat)] [.slice sa ms.length sc]::ro):=by
 obtain ⟨p,us,e,hus,hcell,H1⟩:=H.eltF Blo.dat_len' (by decide) hl (j:=j) hj
 rw [hE] at H1
 obtain ⟨x0,us0,rfl,H2⟩:=H1.uncons List.mem_cons_self
 obtain ⟨x1,us1,rfl,H3⟩:=H2.uncons (List.mem_cons_of_mem _ List.mem_cons_self)
 obtain ⟨x2,us2,rfl,H4⟩:=H3.uncons (List.mem_cons_of_mem _ List.mem_cons_self)
 obtain rfl:us2=[]:=by simpa using hus
 obtain rfl:=H2.one1 List.mem_cons_self
 obtain rfl:=H3.one1 List.mem_cons_self
 obtain ⟨sa,sn,sc,rfl,hsl⟩:=H4.rowS List.mem_cons_self
 rw [flat_len Met.dat_len'] at hsl
 obtain rfl:sn=ms.length:=by omega
 refine ⟨p,sa,sc,e,LdC [.int .u32 d0,.int .u16 d1,.slice sa ms.length sc] (by kernel_rfl) (by rw [show (j:Int).toNat*3=j*3 by omega];exact hcell),?_⟩
 exact H4.sub (List.Sublist.refl _) (fun r h=>by
  rcases List.mem_cons.1 h with rfl | h
  ·exact List.mem_cons_self
  ·simp [h])
theorem c191 {F:Fr} {w:World} {ex:List Ex} {ro:List Ro} {b k:Nat} {T:TypeId} {cells:List Value} {L:List Blo} {l:Option Addr} (H:Sat F w ex ro) (hb:Ex.blk b T cells∈ex) (h0:cells[1]?=some (.slice l L.length k))
  (hl:Ro.deep [.row 3 (L.flatMap Blo.dat)] [.slice l L.length k]∈ro) (hn:L.length<=100000) (hN:(L.flatMap wBlo).length<=500000) (hm:∀y∈L,y.2.2.length<=65535) :
  Calls pg 191 #[.pointer (some ⟨b,0,none⟩)] w fun en w'=>en=.returned (.int .i64 ((12+(L.flatMap wBlo).length:Nat):Int))/\Sat F w' ex ro:=by
 apply of191
 refine ⟨_,rfl,?_⟩
 refine ⟨_,_,_,(H.bm hb).cell h0,?_⟩
 refine ⟨fun a i q w=>∃(j:Nat),a=(((L.take j).flatMap wBlo).length:Int)/\i=(j:Int)/\j+q=L.length/\Sat F w ex ro,⟨L.length,0,rfl,rfl,by omega,H⟩,?_⟩
 clear H;rintro dd a i q w ⟨j,rfl,rfl,hjq,H⟩
 refine ⟨fun hc=>?_,fun hc=>?_⟩
 ·rw [decide_eq_true_eq] at hc
  have hjl:j < L.length:=by omega
  have htk:L.take (j+1)=L.take j++[L[j]]:=by rw [List.take_add_one,List.getElem?_eq_getElem hjl];rfl
  have hat:=flat_at (f:=wBlo) hjl
  have hmj:=hm L[j] (List.getElem_mem hjl)
  obtain ⟨⟨d0,d1,ms⟩,hE⟩:∃E,L[j]=E:=⟨_,rfl⟩
  rw [hE] at htk hat hmj
  replace hmj:ms.length<=65535:=hmj
  have hwl:(wBlo (d0,d1,ms)).length=8+2*(ms.length+ms.length % 2):=wBlo_len (d0,d1,ms)
  obtain ⟨p,sa,sc,e,hld,H1⟩:=H.blo hl hjl hE
  refine ⟨p,e,by omega,by omega,?_⟩
  refine ⟨_,_,_,_,_,hld,?_⟩
  clear H hld
  have H:=H1
  clear H1
  refine sNew H ?_;clear H;intro b14 w _ H
  refine sSw0 H rfl (by kernel_rfl) (by rfl) (by rfl) ?_;clear H;intro w _ H
  refine call_j (c195 H (by omega)) ?_
  clear H;rintro _ w ⟨rfl,H⟩
  refine ⟨_,rfl,?_⟩
  refine ⟨q - 1,by omega,j+1,?_,?_,by omega,H.sub (List.sublist_cons_self _ _) (fun r h=>mt h)⟩
  ·rw [wi64_of (by omega) (by omega),htk,List.flatMap_append,List.length_append]
   simp only [List.flatMap_cons,List.flatMap_nil,List.append_nil]
   omega
  ·rw [wi64_of (by omega) (by omega)];simp
 ·rw [decide_eq_false_iff_not] at hc
  obtain rfl:j=L.length:=by omega
  rw [List.take_length]
  refine ⟨?_,H⟩
  rw [wi64_of (n:=8+((L.flatMap wBlo).length:Int)) (by omega) (by omega),wi64_of (by omega) (by omega)]
  congr 2
  omega
theorem c193 {F:Fr} {w:World} {ex:List Ex} {ro:List Ro} {b k:Nat} {T:TypeId} {cells:List Value} {L:List Blo} {l:Option Addr} (H:Sat F w ex ro) (hb:Ex.blk b T cells∈ex) (h0:cells[1]?=some (.slice l L.length k))
  (hl:Ro.deep [.row 3 (L.flatMap Blo.dat)] [.slice l L.length k]∈ro) (hn:L.length<=100000) (hN:(L.flatMap wBlo).length<=262132) (hm:∀y∈L,y.2.2.length<=65535) :
  Calls pg 193 #[.pointer (some ⟨b,0,none⟩)] w fun en w'=>en=.returned (.agg #[.bool false,.int .u8 11,.int .u8 205,.int .u16 (((12+(L.flatMap wBlo).length) / 4 - 1:Nat):Int)])/\Sat F w' ex ro:=by
 apply of193
 refine sNew H ?_;clear H;intro b9 w _ H
 refine call_j (c191 H (mt hb) h0 hl hn (by omega) hm) ?_
 clear H;rintro _ w ⟨rfl,H⟩
 refine ⟨_,rfl,?_⟩
 refine ⟨by decide,?_⟩
 generalize (L.flatMap wBlo).length=N at hN ⊢
 rw [Int.tdiv_eq_ediv_of_nonneg (by omega),wi64_of (n:=((12+N:Nat):Int) / 4) (by omega) (by omega),wi64_of (n:=((12+N:Nat):Int) / 4 - 1) (by omega) (by omega),wu16,
  show (((12+N:Nat):Int) / 4 - 1) % 65536=(((12+N) / 4 - 1:Nat):Int) by omega]
 refine sSw0 H rfl (by kernel_rfl) (by rfl) (by rfl) ?_;clear H;intro w _ H
 refine ⟨_,_,_,_,H.b0.ld,?_⟩
 exact ⟨rfl,H.d1⟩
def wrCc (s:Int) (L:List Blo) (t:Int):List Int:=hdrB 11 205 (((12+(L.flatMap wBlo).length) / 4 - 1:Nat):Int)++(b32 s++L.flatMap wBlo++b32 t)
theorem c190 {F:Fr} {w:World} {ex:List Ex} {ro:List Ro} {s t:Int} {k:Nat} {L:List Blo} {l:Option Addr} (H:Sat F w ex ro) (hs:u32R s) (ht:u32R t) (hl:Ro.deep [.row 3 (L.flatMap Blo.dat)] [.slice l L.length k]∈ro) (hn:L.length<=100000) (hN:(L.flatMap wBlo).length<=262132) (hR:∀y∈L,BloR y) :
  Calls pg 190 #[.agg #[.int .u32 s,.slice l L.length k,.int .u32 t]] w (MPost F ex ro (wrCc s L t)):=by
 have hm:∀y∈L,y.2.2.length<=65535:=fun y hy=>by have:=(hR y hy).2.2.1;omega
 apply of190
 refine sNew H ?_;clear H;intro b1 w _ H
 refine call_j (c191 H List.mem_cons_self rfl hl hn (by omega) hm) ?_
 clear H;rintro _ w ⟨rfl,H⟩
 refine ⟨_,rfl,?_⟩
 refine ⟨by decide,?_⟩
 obtain ⟨N,hNe⟩:∃N,N=12+(L.flatMap wBlo).length:=⟨_,rfl⟩
 rw [<-hNe]
 rw [Int.tdiv_eq_ediv_of_nonneg (by omega),wi64_of (n:=(N:Int) / 4) (by omega) (by omega),wi64_of (n:=(N:Int) / 4 - 1) (by omega) (by omega)]
 refine ⟨fun h=>by rw [decide_eq_true_eq] at h;omega,fun _=>?_⟩
 refine ⟨fun h=>by rw [decide_eq_true_eq] at h;omega,fun _=>?_⟩
 refine call_j (c193 H List.mem_cons_self rfl hl hn hN hm) ?_
 clear H;rintro _ w ⟨rfl,H⟩
 refine ⟨_,_,_,_,rfl,?_⟩
 refine sNew H ?_;clear H;intro b12 w _ H
 refine sSw0 H rfl (by kernel_rfl) (by rfl) (by rfl) ?_;clear H;intro w _ H
 refine ⟨_,_,_,_,(by exact Ld0 rfl H.b0 (by kernel_rfl)),?_⟩
 refine call_j (hdrM H (by decide) (by decide) (by omega)) ?_
 clear H;rintro _ w ⟨g2,rfl,H⟩
 refine ⟨_,_,_,_,rfl,?_⟩
 refine ⟨by simp [isIf],?_⟩
 refine ⟨fun h=>absurd h (by decide),fun _=>?_⟩
 refine sMk H (e:=5) (z:=.int .u8 0) (bytes:=1) (by kernel_rfl) (by kernel_rfl) (by rfl) (by unfold maxLen;omega) (by omega) (n:=N) (by rfl) (by rfl) ?_
 clear H;intro g w _ H
 rw [u8s_z] at H
 replace H:Sat F w (.blk g 5 (u8s (wz [] N))::_) _:=H
 refine ⟨by omega,by omega,?_⟩
 rw [cutW (b:=g) (o:=0) (l:=0) (q:=0) (by omega) rfl]
 refine sCpW H List.mem_cons_self (by decide) (by rfl) (by decide) (by show 4<=N;omega) ?_
 clear H;intro w _ H
 refine ⟨by omega,by omega,?_⟩
 replace H:=H.drew;generalize w.drew=w at H ⊢
 refine ⟨_,(by exact Ce (by exact add_flat _ _ _) H.b2 rfl),?_⟩
 rw [cutW (b:=g) (o:=0) (l:=4) (q:=4) (by omega) rfl]
 refine call_j (put32 H (by rfl) hs (by omega) (by show 4<=N - 4;omega)) ?_
 clear H;rintro _ w ⟨rfl,H⟩
 refine ⟨rfl,?_⟩
 refine ⟨_,_,_,(by exact Ce (by exact add_flat _ _ _) H.b2 rfl),?_⟩
 obtain ⟨P,hP⟩:∃P,P=hdrB 11 205 (((12+(L.flatMap wBlo).length) / 4 - 1:Nat):Int)++b32 s:=⟨_,rfl⟩
 have hPl:P.length=8:=by rw [hP];rfl
 have H0:Sat F w (.blk g 5 (u8s (wz P (N - 8)))::.blk b1 221 [.int .u32 s,.slice l L.length k,.int .u32 t]::ex) ro:=by
  rw [hP,show N - 8=N - 4 - 4 by omega]
  exact H.sub (List.Sublist.cons_cons _ (List.sublist_cons_self _ _)) (fun r h=>List.mem_cons_of_mem _ h)
 clear H
 refine ⟨fun off i q w=>∃j:Nat,off=((8+((L.take j).flatMap wBlo).length:Nat):Int)/\i=(j:Int)/\j+q=L.length/\∃ro',(∀r∈ro,r∈ro')/\Sat F w (.blk g 5 (u8s (wz (P++(L.take j).flatMap wBlo) (N - 8 - ((L.take j).flatMap wBlo).length)))::.blk b1 221 [.int .u32 s,.slice l L.length k,.int .u32 t]::ex) ro',
  ⟨L.length,0,rfl,rfl,by omega,ro,fun r h=>h,by simpa using H0⟩,?_⟩
 clear H0;rintro dd off i q w ⟨j,rfl,rfl,hjq,ro',hr,H⟩
 have hpre:=flat_take (f:=wBlo) L j
 have hBl:(P++(L.take j).flatMap wBlo).length=8+((L.take j).flatMap wBlo).length:=by rw [List.length_append,hPl]
 refine ⟨fun hc=>?_,fun hc=>?_⟩
 ·rw [decide_eq_true_eq] at hc
  have hjl:j < L.length:=by omega
  have htk:L.take (j+1)=L.take j++[L[j]]:=by rw [List.take_add_one,List.getElem?_eq_getElem hjl];rfl
  have hat:=flat_at (f:=wBlo) hjl
  have hRj:=hR L[j] (List.getElem_mem hjl)
  have hmj:=hm L[j] (List.getElem_mem hjl)
  obtain ⟨⟨d0,d1,ms⟩,hE⟩:∃E,L[j]=E:=⟨_,rfl⟩
  rw [hE] at htk hat hRj hmj
  replace hmj:ms.length<=65535:=hmj
  have hwl:(wBlo (d0,d1,ms)).length=8+2*(ms.length+ms.length % 2):=wBlo_len (d0,d1,ms)
  obtain ⟨p,sa,sc,e,hld,H1⟩:=H.blo (hr _ hl) hjl hE
  refine ⟨p,e,by omega,by omega,?_⟩
  refine ⟨_,_,_,_,_,hld,?_⟩
  clear H hld
  have H:=H1
  clear H1
  refine sNew H ?_;clear H;intro b41 w _ H
  refine sSw0 H rfl (by kernel_rfl) (by rfl) (by rfl) ?_;clear H;intro w _ H
  refine ⟨_,_,_,_,_,(by exact Ld0 rfl H.b0 (by kernel_rfl)),?_⟩
  refine call_j (c194 H List.mem_cons_self hRj) ?_
  clear H;rintro _ w ⟨da,dc,ro2,rfl,hr2,H,hd⟩
  refine ⟨_,_,_,_,rfl,?_⟩
  refine ⟨by simp [isIf],?_⟩
  refine ⟨fun h=>absurd h (by decide),fun _=>?_⟩
  rw [Int.toNat_natCast]
  refine ⟨by omega,by omega,?_⟩
  rw [cutW (b:=g) (l:=8+((L.take j).flatMap wBlo).length) (q:=8+((L.take j).flatMap wBlo).length) (by omega) (by omega)]
  refine sCpW H.r1 hd (by omega) hBl.symm (by omega) (by omega) ?_
  clear H;intro w _ H
  refine call_j (c195 H.r1 (by omega)) ?_
  clear H;rintro _ w ⟨rfl,H⟩
  refine ⟨_,rfl,?_⟩
  refine ⟨q - 1,by omega,j+1,?_,by rw [wi64_of (by omega) (by omega)];simp,by omega,ro2,fun r h=>hr2 r (List.mem_cons_of_mem _ (hr r h)),?_⟩
  ·rw [wi64_of (by omega) (by omega),htk,List.flatMap_append,List.length_append]
   simp only [List.flatMap_cons,List.flatMap_nil,List.append_nil]
   omega
  ·rw [htk,List.flatMap_append,List.length_append]
   simp only [List.flatMap_cons,List.flatMap_nil,List.append_nil]
   rw [List.append_assoc] at H
   rw [show N - 8 - (((L.take j).flatMap wBlo).length+(wBlo (d0,d1,ms)).length)=N - 8 - ((L.take j).flatMap wBlo).length - (wBlo (d0,d1,ms)).length by omega]
   exact H.sub (by repeat (first | exact List.Sublist.refl _ | apply List.Sublist.cons)) (fun _ h=>h)
 ·rw [decide_eq_false_iff_not] at hc
  obtain rfl:j=L.length:=by omega
  rw [List.take_length] at H hBl ⊢
  rw [Int.toNat_natCast]
  refine ⟨by omega,by omega,?_⟩
  replace H:=H.drew;generalize w.drew=w at H ⊢
  refine ⟨_,(by exact Ce (by exact add_flat _ _ _) H.b1 rfl),?_⟩
  rw [cutW (b:=g) (l:=8+(L.flatMap wBlo).length) (q:=8+(L.flatMap wBlo).length) (by omega) (by omega)]
  refine call_j (put32 H hBl.symm ht (by omega) (by omega)) ?_
  clear H;rintro _ w ⟨rfl,H⟩
  refine ⟨rfl,?_⟩
  rw [show N - 8 - (L.flatMap wBlo).length - 4=0 by omega,hP] at H
  have e9:wz (hdrB 11 205 (((12+(L.flatMap wBlo).length) / 4 - 1:Nat):Int)++b32 s++L.flatMap wBlo++b32 t) 0=wrCc s L t:=by simp [wz,wrCc]
  rw [e9] at H
  have l9:(wrCc s L t).length=N:=by
   unfold wrCc
   rw [List.length_append,List.length_append,List.length_append,hNe]
   show 4+(4+_+4)=_
   omega
  exact MPost.blk H (List.sublist_cons_self _ _) (fun r h=>hr r h) l9.symm (by unfold maxLen;omega)
theorem sgl_read {m i:Nat} (h0:0 < m) (h1:m < 262144) (hi:i<=64):Ieee.single.read (sgl m i)=.number false (m*2 ^ (23 - m.log2)) ((i:Int)+m.log2 - 23):=by
 obtain ⟨hl,h2,h3⟩:=norm_range (k:=23) h0 h1 (by omega)
 have hs:Ieee.single.signWeight=2147483648:=by decide
 have hb:Ieee.single.binade=8388608:=by decide
 have hI:Ieee.single.infRung=2139095040:=by decide
 have hp:Ieee.single.leastPlace=-149:=by decide
 unfold sgl
 generalize hN:m*2 ^ (23 - m.log2)=N at h2 h3
 generalize m.log2=L at hl
 simp only [Nat.reducePow,Nat.reduceAdd] at h2 h3
 rw [read_normal _ _ (by rw [hs];omega) (by rw [hb];omega) (by rw [hI];omega),hb,hp]
 congr 1
 ·omega
 ·omega
theorem ord_pos {M N:Nat} {p q:Int} (a b:Nat) (h:(p - min p q).toNat=a) (h':(q - min p q).toNat=b):Ieee.Datum.order (.number false M p) (.number false N q)=some (compare ((M*2 ^ a:Nat):Int) ((N*2 ^ b:Nat):Int)):=by
 simp only [Ieee.Datum.order,Ieee.signed,Bool.false_eq_true,if_false,h,h',Nat.shiftLeft_eq]
theorem cmp_lt {x y:Int} (h:x < y):compare x y=.lt:=by rw [Int.compare_eq_lt];exact h
theorem cmp_gt {x y:Int} (h:y < x):compare x y=.gt:=by rw [Int.compare_eq_gt];exact h
theorem cmp_eq {x y:Int} (h:x=y):compare x y=.eq:=by rw [Int.compare_eq_eq];exact h
theorem ord_pow {M k:Nat} {p q:Int} (h0:2 ^ k<=M) (h1:M < 2 ^ (k+1)):(Ieee.Datum.order (.number false M p) (.number false (2 ^ k) q)=some .lt/\p < q)\/((Ieee.Datum.order (.number false M p) (.number false (2 ^ k) q)=some .gt\/Ieee.Datum.order (.number false M p) (.number false (2 ^ k) q)=some .eq)/\q<=p):=by
 rcases Int.lt_or_le p q with h | h
 ·left
  refine ⟨?_,h⟩
  obtain ⟨d,hd⟩:∃d:Nat,(q - p).toNat=d+1:=⟨(q - p).toNat - 1,by omega⟩
  rw [ord_pos 0 (d+1) (by omega) (by omega),cmp_lt]
  have:2 ^ (k+1)<=2 ^ k*2 ^ (d+1):=by
   rw [<-Nat.pow_add];exact Nat.pow_le_pow_right (by decide) (by omega)
  omega
 ·right
  refine ⟨?_,h⟩
  rw [ord_pos (p - q).toNat 0 (by omega) (by omega),Nat.pow_zero,Nat.mul_one]
  have:M*1<=M*2 ^ (p - q).toNat:=Nat.mul_le_mul_left _ (Nat.two_pow_pos _)
  rcases Nat.lt_or_ge (2 ^ k) (M*2 ^ (p - q).toNat) with h2 | h2
  ·left;rw [cmp_gt (by omega)]
  ·right;rw [cmp_eq (by omega)]
theorem sgl_big {m i:Nat} (h0:0 < m) (h1:m < 262144) (hi:i<=63):(Ieee.single.order (sgl m i) 1216348160 == some .gt || Ieee.single.order (sgl m i) 1216348160 == some .eq)=decide (18<=i+m.log2):=by
 obtain ⟨hl,h2,h3⟩:=norm_range (k:=23) h0 h1 (by omega)
 have hr:Ieee.single.read 1216348160=.number false (2 ^ 23) (-5):=by decide +kernel
 unfold Ieee.Format.order
 rw [sgl_read h0 h1 (by omega),hr]
 rcases ord_pow (p:=(i:Int)+m.log2 - 23) (q:=-5) h2 h3 with ⟨e,h⟩ | ⟨e,h⟩
 ·rw [e,decide_eq_false (by omega)];rfl
 ·rw [decide_eq_true (by omega)]
  rcases e with e | e<;>rw [e]<;>rfl
theorem dbl_big {m i:Nat} (h0:0 < m) (h1:m < 262144) (hi:i<=63):(Ieee.double.order (dbl m i) 4688247212092686336 == some .gt || Ieee.double.order (dbl m i) 4688247212092686336 == some .eq)=decide (18<=i+m.log2):=by
 obtain ⟨hl,h2,h3⟩:=norm_range (k:=52) h0 h1 (by omega)
 have hr:Ieee.double.read 4688247212092686336=.number false (2 ^ 52) (-34):=by decide +kernel
 unfold Ieee.Format.order
 rw [dbl_read h0 h1 (by omega),hr]
 rcases ord_pow (p:=(i:Int)+m.log2 - 52) (q:=-34) h2 h3 with ⟨e,h⟩ | ⟨e,h⟩
 ·rw [e,decide_eq_false (by omega)];rfl
 ·rw [decide_eq_true (by omega)]
  rcases e with e | e<;>rw [e]<;>rfl
theorem ord_zero {M:Nat} {p q:Int} (h:0 < M):Ieee.Datum.order (.number false M p) (.number false 0 q)=some .gt:=by
 rw [ord_pos _ _ rfl rfl,cmp_gt]
 have:=Nat.two_pow_pos (p - min p q).toNat
 have:=Nat.mul_pos h this
 simp only [Nat.zero_mul]
 omega
theorem sgl_pos {m i:Nat} (h0:0 < m) (h1:m < 262144) (hi:i<=63):(Ieee.single.order (sgl m i) 0 == some .lt)=false:=by
 have hr:Ieee.single.read 0=.number false 0 (-149):=by decide +kernel
 unfold Ieee.Format.order
 rw [sgl_read h0 h1 (by omega),hr,ord_zero (Nat.mul_pos h0 (Nat.two_pow_pos _))]
 rfl
theorem dbl_pos {m i:Nat} (h0:0 < m) (h1:m < 262144) (hi:i<=63):(Ieee.double.order (dbl m i) 0 == some .eq)=false:=by
 have hr:Ieee.double.read 0=.number false 0 (-1074):=by decide +kernel
 unfold Ieee.Format.order
 rw [dbl_read h0 h1 (by omega),hr,ord_zero (Nat.mul_pos h0 (Nat.two_pow_pos _))]
 rfl
theorem dbl_self {m i:Nat} (h0:0 < m) (h1:m < 262144) (hi:i<=63):(Ieee.double.order (dbl m i) (dbl m i) != some .eq)=false:=by
 unfold Ieee.Format.order
 rw [dbl_read h0 h1 (by omega),ord_pos _ _ rfl rfl,cmp_eq rfl]
 rfl
theorem dbl_less {m i:Nat} (h0:0 < m) (h1:m < 262144) (hi:i<=63):floatBits .sub .f64 (dbl m i) (dbl m i)=some 0:=by
 change Ieee.double.sub (dbl m i) (dbl m i)=some 0
 unfold Ieee.Format.sub
 rw [dbl_read h0 h1 (by omega)]
 simp only [Ieee.Datum.opposite,Ieee.Datum.sum,Ieee.signed,Bool.not_false,Bool.false_eq_true,if_false,if_true,Option.map_some]
 rw [Int.add_right_neg]
 simp only [Ieee.Format.write,Ieee.Format.nearest,Ieee.Format.word,Int.natAbs_zero,if_true,Bool.false_and,Bool.false_eq_true,if_false]
theorem sgl_max {m i:Nat} (h0:0 < m) (h1:m < 262144) (hi:i<=63) (h:(Ieee.single.order (sgl m i) 1744830400 == some .gt || Ieee.single.order (sgl m i) 1744830400 == some .eq)=true):sgl m i=1744830400:=by
 obtain ⟨hl,h2,h3⟩:=norm_range (k:=23) h0 h1 (by omega)
 have hr:Ieee.single.read 1744830400=.number false 16777152 57:=by decide +kernel
 unfold Ieee.Format.order at h
 rw [sgl_read h0 h1 (by omega),hr] at h
 have hN:m.log2=17->m*2 ^ (23 - m.log2)<=16777152:=by intro e;rw [e];omega
 unfold sgl
 generalize m*2 ^ (23 - m.log2)=N at h2 h3 h hN
 generalize m.log2=L at hl h hN
 simp only [Nat.reducePow,Nat.reduceAdd] at h2 h3
 have hlt:∀a b:Nat,((i:Int)+L - 23 - min ((i:Int)+L - 23) 57).toNat=a->((57:Int) - min ((i:Int)+L - 23) 57).toNat=b->¬((N*2 ^ a:Nat):Int) < ((16777152*2 ^ b:Nat):Int):=by
  intro a b ha hb hlt
  rw [ord_pos a b ha hb,cmp_lt hlt] at h
  cases h
 rcases Nat.lt_or_ge (i+L) 80 with hc | hc
 ·exfalso
  refine hlt 0 (80 - (i+L)) (by omega) (by omega) ?_
  obtain ⟨d,hd⟩:∃d:Nat,80 - (i+L)=d+1:=⟨80 - (i+L) - 1,by omega⟩
  rw [hd,Nat.pow_zero,Nat.mul_one,Nat.pow_succ]
  have:=Nat.two_pow_pos d
  generalize 2 ^ d=D at this
  omega
 ·obtain rfl:L=17:=by omega
  obtain rfl:i=63:=by omega
  have:=hlt 0 0 (by omega) (by omega)
  have:=hN rfl
  omega
theorem quot_two (f:Ieee.Format) {N k:Nat} {p q:Int} (h2:2 ^ k<=N) (h3:N < 2 ^ (k+1)) (hk:f.fractionBits=k):Ieee.Datum.quotient (f.fractionBits+2) (.number false N p) (.number false (2 ^ k) q)=some (.number false (N*8) (p - q - (k+2) - 1)):=by
 have hz:¬(2 ^ k=0):=by have:=Nat.two_pow_pos k;omega
 unfold Ieee.Datum.quotient
 simp only [if_neg hz,Bool.xor_self]
 rw [hk,Nat.log2_two_pow,log2_of h2 h3,show k+2+k - k=k+2 by omega,Nat.shiftLeft_eq,Nat.pow_add,Nat.mul_comm (2 ^ k) (2 ^ 2),<-Nat.mul_assoc,Nat.mul_div_cancel _ (Nat.two_pow_pos _),Nat.mul_mod_left]
 simp only [bne_self_eq_false,Bool.toNat_false]
 congr 2
 omega
theorem dbl_half {m i:Nat} (h0:0 < m) (h1:m < 262144) (hi:i<=63):floatBits .quo .f64 (dbl m (i+1)) 4611686018427387904=some (dbl m i):=by
 obtain ⟨hl,h2,h3⟩:=norm_range (k:=52) h0 h1 (by omega)
 change Ieee.double.div (dbl m (i+1)) 4611686018427387904=some (dbl m i)
 unfold Ieee.Format.div
 have two:Ieee.double.read 4611686018427387904=.number false (2 ^ 52) (-51):=by decide +kernel
 rw [dbl_read h0 h1 (by omega),two,quot_two Ieee.double h2 h3 rfl]
 simp only [Option.map_some,Ieee.Format.write]
 congr 1
 rw [nearest_exact Ieee.double _ 55 (m*2 ^ (52 - m.log2)) 3 0 _ (by have:=Nat.two_pow_pos 52;omega) (log2_of (by simp only [Nat.reducePow] at h2 ⊢;omega) (by simp only [Nat.reducePow,Nat.reduceAdd] at h3 ⊢;omega))]
 ·simp only [dbl,Ieee.Format.leastPlace,Ieee.double,Ieee.Format.binade,Nat.reducePow,Nat.reduceSub,Int.reducePow,Int.reduceSub]
  congr 2
  omega
 ·simp only [Ieee.Format.leastPlace,Ieee.double,Nat.reducePow,Nat.reduceSub,Int.reducePow,Int.reduceSub];omega
 ·simp only [Ieee.double];omega
 ·simp only [Ieee.double];omega
 ·simp
 ·generalize hN:m*2 ^ (52 - m.log2)=N at h2 h3
  simp only [Ieee.Format.leastPlace,Ieee.double,Ieee.Format.binade,Ieee.Format.infRung,Nat.reducePow,Nat.reduceAdd,Nat.reduceMul,Nat.reduceSub,Int.reducePow,Int.reduceSub] at h3 ⊢
  omega
theorem sgl_half {m i:Nat} (h0:0 < m) (h1:m < 262144) (hi:i<=63):floatBits .quo .f32 (sgl m (i+1)) 1073741824=some (sgl m i):=by
 obtain ⟨hl,h2,h3⟩:=norm_range (k:=23) h0 h1 (by omega)
 change Ieee.single.div (sgl m (i+1)) 1073741824=some (sgl m i)
 unfold Ieee.Format.div
 have two:Ieee.single.read 1073741824=.number false (2 ^ 23) (-22):=by decide +kernel
 rw [sgl_read h0 h1 (by omega),two,quot_two Ieee.single h2 h3 rfl]
 simp only [Option.map_some,Ieee.Format.write]
 congr 1
 rw [nearest_exact Ieee.single _ 26 (m*2 ^ (23 - m.log2)) 3 0 _ (by have:=Nat.two_pow_pos 23;omega) (log2_of (by simp only [Nat.reducePow] at h2 ⊢;omega) (by simp only [Nat.reducePow,Nat.reduceAdd] at h3 ⊢;omega))]
 ·simp only [sgl,Ieee.Format.leastPlace,Ieee.single,Ieee.Format.binade,Nat.reducePow,Nat.reduceSub,Int.reducePow,Int.reduceSub]
  congr 2
  omega
 ·simp only [Ieee.Format.leastPlace,Ieee.single,Nat.reducePow,Nat.reduceSub,Int.reducePow,Int.reduceSub];omega
 ·simp only [Ieee.single];omega
 ·simp only [Ieee.single];omega
 ·simp
 ·generalize hN:m*2 ^ (23 - m.log2)=N at h2 h3
  simp only [Ieee.Format.leastPlace,Ieee.single,Ieee.Format.binade,Ieee.Format.infRung,Nat.reducePow,Nat.reduceAdd,Nat.reduceMul,Nat.reduceSub,Int.reducePow,Int.reduceSub] at h3 ⊢
  omega
theorem log2_shift {m:Nat} (h0:0 < m) (k:Nat):(m*2 ^ k).log2=m.log2+k:=by
 refine log2_of ?_ ?_
 ·rw [Nat.pow_add];exact Nat.mul_le_mul_right _ (Nat.log2_self_le (by omega))
 ·rw [show m.log2+k+1=m.log2+1+k by omega,Nat.pow_add];exact Nat.mul_lt_mul_of_pos_right Nat.lt_log2_self (Nat.two_pow_pos _)
theorem dbl_shift {m:Nat} (h0:0 < m) (k:Nat) (h:m.log2+k<=17):dbl m k=dbl (m*2 ^ k) 0:=by
 unfold dbl
 rw [log2_shift h0,Nat.mul_assoc,<-Nat.pow_add,show k+(52 - (m.log2+k))=52 - m.log2 by omega]
 congr 2
 omega
theorem small_of {m:Nat} (h0:0 < m) (k:Nat) (h:m.log2+k<=17):0 < m*2 ^ k/\m*2 ^ k < 262144:=by
 refine ⟨Nat.mul_pos h0 (Nat.two_pow_pos _),?_⟩
 have h1:m*2 ^ k≠0:=by have:=Nat.mul_pos h0 (Nat.two_pow_pos k);omega
 have:=(Nat.log2_lt (k:=18) h1).1 (by rw [log2_shift h0];omega)
 omega
theorem dbl_of_sgl {m i:Nat} (h0:0 < m) (h1:m < 262144) (hi:i<=63):floatToFloatBits .f32 (sgl m i) .f64=some (dbl m i):=by
 obtain ⟨hl,h2,h3⟩:=norm_range (k:=23) h0 h1 (by omega)
 obtain ⟨_,h4,h5⟩:=norm_range (k:=52) h0 h1 (by omega)
 have hw:Ieee.double.nearest false (m*2 ^ (23 - m.log2)) ((i:Int)+m.log2 - 23)=dbl m i:=by
  rw [nearest_exact Ieee.double (m*2 ^ (23 - m.log2)) 23 (m*2 ^ (52 - m.log2)) 0 29 _ (by have:=Nat.two_pow_pos 23;omega) (log2_of h2 h3)]
  ·simp only [dbl,Ieee.Format.leastPlace,Ieee.double,Ieee.Format.binade,Nat.reducePow,Nat.reduceSub,Int.reducePow,Int.reduceSub]
   congr 2
   omega
  ·simp only [Ieee.Format.leastPlace,Ieee.double,Nat.reducePow,Nat.reduceSub,Int.reducePow,Int.reduceSub];omega
  ·simp only [Ieee.double];omega
  ·simp only [Ieee.double];omega
  ·rw [Nat.pow_zero,Nat.mul_one];exact (pow_split (by omega) 29 (by omega)).symm
  ·generalize hN:m*2 ^ (52 - m.log2)=N at h4 h5
   simp only [Ieee.Format.leastPlace,Ieee.double,Ieee.Format.binade,Ieee.Format.infRung,Nat.reducePow,Nat.reduceAdd,Nat.reduceMul,Nat.reduceSub,Int.reducePow,Int.reduceSub] at h5 ⊢
   omega
 have e1:FloatKind.f32.decode (sgl m i)=.number false (m*2 ^ (23 - m.log2)) ((i:Int)+m.log2 - 23):=by
  unfold FloatKind.decode FloatKind.format;exact sgl_read h0 h1 (by omega)
 have e2:FloatKind.f64.encode (.number false (m*2 ^ (23 - m.log2)) ((i:Int)+m.log2 - 23))=dbl m i:=by
  unfold FloatKind.encode FloatKind.format;exact hw
 have e3:FloatKind.f64.decode (dbl m i)=.number false (m*2 ^ (52 - m.log2)) ((i:Int)+m.log2 - 52):=by
  unfold FloatKind.decode FloatKind.format;exact dbl_read h0 h1 (by omega)
 unfold floatToFloatBits
 rw [if_neg (by decide),e1]
 simp only
 rw [e2,e3]
 simp [Ieee.Datum.isInfinity]
theorem cut_whole (way:Ieee.Toward) (M d:Nat):way.cut false (M*2 ^ d) d=M+0\/way=.even:=by
 cases way
 ·exact Or.inr rfl
 all_goals
  left
  unfold Ieee.Toward.cut
  simp only [Nat.one_shiftLeft]
  rcases Nat.eq_zero_or_pos M with rfl | h0
  ·simp
  ·have hle:d<=(M*2 ^ d).log2+2:=by rw [log2_shift h0];omega
   rw [Nat.min_eq_left hle,Nat.mul_div_cancel _ (Nat.two_pow_pos d)]
   (try rw [Nat.mul_mod_left])
   simp
theorem dbl_floor {M:Nat} (h0:0 < M) (h1:M < 262144) (way:Ieee.Toward) (hw:way≠.even):(FloatKind.f64.decode (dbl M 0)).integral way=.number false M 0:=by
 obtain ⟨hl,h2,h3⟩:=norm_range (k:=52) h0 h1 (by omega)
 have e3:FloatKind.f64.decode (dbl M 0)=.number false (M*2 ^ (52 - M.log2)) (((0:Nat):Int)+M.log2 - 52):=by
  unfold FloatKind.decode FloatKind.format;exact dbl_read h0 h1 (by omega)
 rw [e3]
 unfold Ieee.Datum.integral
 simp only
 rw [show (((0:Nat):Int)+(M.log2:Int) - 52).toNat=0 by omega,show (-(((0:Nat):Int)+(M.log2:Int) - 52)).toNat=52 - M.log2 by omega,Nat.shiftLeft_zero]
 rcases cut_whole way M (52 - M.log2) with e | e
 ·rw [e,Nat.add_zero]
 ·exact absurd e hw
theorem toInt_of {d:Ieee.Datum} {M:Nat} (h:d.integral .zero=.number false M 0):d.toInt .zero=some (M:Int):=by
 unfold Ieee.Datum.toInt
 rw [h]
 simp only [Ieee.signed,Bool.false_eq_true,if_false,Nat.shiftLeft_zero]
theorem val_of {s:FloatKind} {b:Nat} {k:IntKind} {n:Int} (h:(s.decode b).toInt .zero=some n) (h1:k.min<=n/\n<=k.max):floatToIntVal s b k=some n:=by
 unfold floatToIntVal
 rw [h]
 simp only [if_pos h1]
theorem dbl_int {M:Nat} (h0:0 < M) (h1:M < 262144) (k:IntKind) (hk:k=.u32\/k=.u64):floatToIntVal .f64 (dbl M 0) k=some (M:Int):=by
 refine val_of (toInt_of (dbl_floor h0 h1 .zero (by decide))) ?_
 have e1:IntKind.u32.min=0/\IntKind.u32.max=4294967295:=by decide
 have e2:IntKind.u64.min=0/\IntKind.u64.max=18446744073709551615:=by decide
 rcases hk with rfl | rfl<;>omega
def brE (b:Int):Int:=(b.toNat / 8388608 - 127 - 17:Nat)
def brM (b:Int):Int:=((b.toNat % 8388608+8388608) / 2 ^ (23 - min (b.toNat / 8388608 - 127) 17):Nat)
theorem br_sgl {m i j:Nat} (h0:0 < m) (h1:m < 262144) (hj:j<=i) (hjl:j+m.log2<=17) (hji:j=i\/17<=j+m.log2):brE (sgl m i:Int)=(i:Int) - j/\brM (sgl m i:Int)=((m*2 ^ j:Nat):Int):=by
 obtain ⟨hl,h2,h3⟩:=norm_range (k:=23) h0 h1 (by omega)
 have e1:sgl m i / 8388608=i+m.log2+127:=by
  unfold sgl
  generalize m*2 ^ (23 - m.log2)=N at h2 h3
  simp only [Nat.reducePow,Nat.reduceAdd] at h2 h3
  omega
 have e2:sgl m i % 8388608+8388608=m*2 ^ (23 - m.log2):=by
  unfold sgl
  generalize m*2 ^ (23 - m.log2)=N at h2 h3
  simp only [Nat.reducePow,Nat.reduceAdd] at h2 h3
  omega
 unfold brE brM
 rw [Int.toNat_natCast,e1,e2]
 refine ⟨by omega,?_⟩
 congr 1
 rw [show 23 - m.log2=j+(23 - min (i+m.log2+127 - 127) 17) by omega,Nat.pow_add,<-Nat.mul_assoc,Nat.mul_div_cancel _ (Nat.two_pow_pos _)]
theorem run_geq {w:World} {t:TypeId} {k:FloatKind} {a b:Nat} {r:Bool} (h:(k.format.order a b == some .gt || k.format.order a b == some .eq)=r):(binOp .geq t (.float k a) (.float k b)).run pg w=.ok (.bool r) w:=by rw [binOp_float_cmp_geq,h];rfl
theorem run_lss {w:World} {t:TypeId} {k:FloatKind} {a b:Nat} {r:Bool} (h:(k.format.order a b == some .lt)=r):(binOp .lss t (.float k a) (.float k b)).run pg w=.ok (.bool r) w:=by rw [binOp_float_cmp_lss,h];rfl
theorem run_feq {w:World} {t:TypeId} {k:FloatKind} {a b:Nat} {r:Bool} (h:(k.format.order a b == some .eq)=r):(binOp .eql t (.float k a) (.float k b)).run pg w=.ok (.bool r) w:=by rw [binOp_float_cmp_eql,h];rfl
theorem run_fne {w:World} {t:TypeId} {k:FloatKind} {a b:Nat} {r:Bool} (h:(k.format.order a b != some .eq)=r):(binOp .neq t (.float k a) (.float k b)).run pg w=.ok (.bool r) w:=by rw [binOp_float_cmp_neq,h];rfl
theorem f32_f {a b:Nat}:FloatKind.f32.format.order a b=Ieee.single.order a b:=by unfold FloatKind.format;rfl
theorem f64_f {a b:Nat}:FloatKind.f64.format.order a b=Ieee.double.order a b:=by unfold FloatKind.format;rfl
theorem int_dbl {w:World} {M:Nat} (h0:0 < M) (h1:M < 262144):(convert 51 272 (.int .u32 (M:Int))).run pg w=.ok (.float .f64 (dbl M 0)) w:=by
 have:=dbl_of_int h0 h1
 simp only [convert,Sem.run_bind,run_underlying uU32,run_underlying uF64,Result.andThen_ok,Conv.intToFloat,Sem.run_pure,FloatKind.nearest,FloatKind.encode,FloatKind.format,Ieee.Format.write,Int.natAbs_natCast]
 rw [show decide ((M:Int) < 0)=false by simp,this]
theorem sgl_small {m i:Nat} (h0:0 < m) (h1:m < 262144) (hi:i<=63):sgl m i < 2147483648:=by
 obtain ⟨hl,h2,h3⟩:=norm_range (k:=23) h0 h1 (by omega)
 unfold sgl
 generalize m*2 ^ (23 - m.log2)=N at h2 h3
 simp only [Nat.reducePow,Nat.reduceAdd] at h2 h3
 omega
theorem c115 {w:World} {m i:Nat} (h0:0 < m) (h1:m < 262144) (hi:i<=63) :
  Calls pg 115 #[.int .u32 (sgl m i:Int)] w fun en w'=>en=.returned (.tuple #[.int .u32 (brE (sgl m i:Int)*262144+brM (sgl m i:Int)),.bool true])/\w'=w:=by
 have hs:=sgl_small h0 h1 hi
 apply of115
 refine ⟨_,_,run_f32from (by omega),?_⟩
 rw [Int.toNat_natCast]
 refine ⟨dbl m i,w,run_convert_float_float w _ _ .f32 .f64 _ _ (by rw [uF32];rfl) uF64 (dbl_of_sgl h0 h1 hi),?_⟩
 rw [ishr_of (b:=(31:Int)) 31 (by rfl) (by decide),show (sgl m i:Int) / 2 ^ 31=0 by omega]
 refine fF ?_
 refine ⟨false,w,run_fne (by rw [f64_f];exact dbl_self h0 h1 hi),fun h=>absurd h (by decide),fun _=>?_⟩
 refine ⟨0,w,run_float_arith w .sub _ .f64 _ _ _ (dbl_less h0 h1 hi),?_⟩
 refine ⟨false,w,run_fne (by rw [f64_f];decide +kernel),fun h=>absurd h (by decide),fun _=>?_⟩
 refine ⟨false,w,run_feq (by rw [f64_f];exact dbl_pos h0 h1 hi),fun h=>absurd h (by decide),fun _=>?_⟩
 refine ⟨fun v e q w'=>∃j:Nat,v=dbl m j/\e=(i:Int) - j/\j<=i/\q=j/\(j=i\/17<=j+m.log2)/\w'=w,⟨i,i,rfl,by omega,by omega,rfl,Or.inl rfl,rfl⟩,?_⟩
 rintro dd v e q w' ⟨j,rfl,rfl,hji,rfl,hor,rfl⟩
 refine ⟨decide (18<=q+m.log2),w',run_geq (by rw [f64_f];exact dbl_big h0 h1 (by omega)),fun hb=>?_,fun hb=>?_⟩
 ·rw [decide_eq_true_eq] at hb
  have hl:m.log2<=17:=(norm_range (k:=23) h0 h1 (by omega)).1
  obtain ⟨j,rfl⟩:∃k,q=k+1:=⟨q - 1,by omega⟩
  refine ⟨_,w',run_float_arith w' .quo _ .f64 _ _ _ (dbl_half h0 h1 (by omega)),?_⟩
  exact ⟨j,by omega,j,rfl,by rw [wu32];omega,by omega,rfl,Or.inr (by omega),rfl⟩
 ·rw [decide_eq_false_iff_not] at hb
  obtain ⟨e1,e2⟩:=br_sgl h0 h1 hji (by omega) hor
  obtain ⟨M0,M1⟩:=small_of h0 q (by omega)
  rw [dbl_shift h0 q (by omega)]
  rw [e1,e2]
  clear e1 e2
  generalize m*2 ^ q=M at M0 M1 ⊢
  refine ⟨fun h=>by rw [decide_eq_true_eq] at h;omega,fun _=>?_⟩
  refine ⟨_,w',run_convert_float_int w' _ _ .f64 .u32 _ _ (by rw [uF64];rfl) uU32 (dbl_int M0 M1 .u32 (Or.inl rfl)),?_⟩
  refine ⟨_,w',int_dbl M0 M1,?_⟩
  refine ⟨false,w',run_fne (by rw [f64_f];exact dbl_self M0 M1 (by omega)),fun h=>absurd h (by decide),fun _=>?_⟩
  refine ⟨_,w',run_convert_float_int w' _ _ .f64 .u32 _ _ (by rw [uF64];rfl) uU32 (dbl_int M0 M1 .u32 (Or.inl rfl)),?_⟩
  refine ⟨?_,rfl⟩
  rw [ishl_of 18 (by rfl) (by decide),wu32,show ((i:Int) - q)*2 ^ 18 % 4294967296=((i:Int) - q)*262144 by omega]
  rw [ior_add (k:=.u32) (by rfl) 18 ((i:Int) - q) (by omega) (by omega) (by omega) (by omega) (by simp only [IntKind.bits];omega)]
theorem flo_num {x:Nat} {s:Bool} {m:Nat} {e:Int} (hx:FloatKind.f64.decode x=.number s m e):Extern.MathFloor.toIntegral "math.archFloor" .down #[.float .f64 x]=pure (.float .f64 (FloatKind.f64.encode ((FloatKind.f64.decode x).integral .down))):=by
 show (match FloatKind.f64.decode x with | .nan s t=>_ | d=>pure (Value.float .f64 (FloatKind.f64.encode (d.integral .down))))=_
 rw [hx]
theorem flo_inf {x:Nat} {s:Bool} (hx:FloatKind.f64.decode x=.infinity s):Extern.MathFloor.toIntegral "math.archFloor" .down #[.float .f64 x]=pure (.float .f64 (FloatKind.f64.encode ((FloatKind.f64.decode x).integral .down))):=by
 show (match FloatKind.f64.decode x with | .nan s t=>_ | d=>pure (Value.float .f64 (FloatKind.f64.encode (d.integral .down))))=_
 rw [hx]
theorem c220 {w:World} {M:Nat} (h0:0 < M) (h1:M < 262144):Calls pg 220 #[.float .f64 (dbl M 0)] w fun en w'=>en=.returned (.float .f64 (dbl M 0))/\w'=w:=by
 apply of220
 refine ⟨dbl M 0,w,?_,rfl,rfl⟩
 rw [run_callFunc_extern (fn:=Tryz.f221) (e:=Extern.MathFloor.toIntegral "math.archFloor" .down) Tryz.func221 (by kernel_rfl) (by kernel_rfl) (by kernel_rfl) (by kernel_rfl)]
 have hi:=dbl_floor h0 h1 .down (by decide)
 have he:FloatKind.f64.encode (.number false M 0)=dbl M 0:=by
  unfold FloatKind.encode FloatKind.format;exact dbl_of_int h0 h1
 have hd:FloatKind.f64.decode (dbl M 0)=.number false (M*2 ^ (52 - M.log2)) (((0:Nat):Int)+M.log2 - 52):=by
  unfold FloatKind.decode FloatKind.format;exact dbl_read h0 h1 (by omega)
 rw [hd] at hi
 have e:∀d,FloatKind.f64.decode (dbl M 0)=d->(∀s t,d≠.nan s t)->Extern.MathFloor.toIntegral "math.archFloor" .down #[.float .f64 (dbl M 0)]=pure (.float .f64 (FloatKind.f64.encode (d.integral .down))):=by
  intro d h hn
  generalize dbl M 0=x at h
  subst h
  cases hx:FloatKind.f64.decode x with
  | nan s t=>exact absurd hx (hn s t)
  | number s m e=>rw [<-hx];exact flo_num hx
  | infinity s=>rw [<-hx];exact flo_inf hx
 rw [e _ hd (by intro _ _ h;cases h),hi,he]
 rfl
def wrRemb (s b:Int) (L:List Int):List Int:=hdrB 15 206 ((4+L.length:Nat):Int)++(b32 s++b32 0++[82,69,77,66,(L.length:Int),brE b*4+brM b / 65536,brM b / 256 % 256,brM b % 256]++L.flatMap b32)
theorem c216 {F:Fr} {w:World} {ex:List Ex} {ro:List Ro} (H:Sat F w ex ro) {s:Int} {b n k:Nat} {l:Option Addr} (hn:n<=100000):Calls pg 216 #[.agg #[.int .u32 s,.float .f32 b,.slice l n k]] w fun en w'=>
  en=.returned (.int .i64 ((20+4*n:Nat):Int))/\Sat F w' ex ro:=by
 apply of216
 refine sNew H ?_;clear H;intro b1 w _ H
 refine ⟨_,_,_,(H.b0.at0 rfl),?_⟩
 refine ⟨?_,H.d1⟩
 rw [wi64_of (n:=4*(n:Int)) (by omega) (by omega),wi64_of (by omega) (by omega)]
 congr 2
theorem c218 {F:Fr} {w:World} {g N k v:Nat} {ex:List Ex} {ro:List Ro} {s:Int} {L:List Int} {l:Option Addr} {m i:Nat} (H:Sat F w (.blk g 5 (u8s (wz [] N))::ex) ro) (hl:Ro.deep [.row 1 (oi .u32 L)] [.slice l L.length k]∈ro) (hn:L.length<=255) (hN:N=20+4*L.length) (hs:u32R s) (hR:∀y∈L,u32R y)
  (h0:0 < m) (h1:m < 262144) (hi:i<=63) (hv:v=sgl m i) :
  Calls pg 218 #[.agg #[.int .u32 s,.float .f32 v,.slice l L.length k],.slice (some ⟨g,0,none⟩) N N] w fun en w'=>en=.returned (.tuple #[.int .i64 (N:Int),.nilIface])/\Sat F w' (.blk g 5 (u8s (wz (wrRemb s (sgl m i:Int) L) 0))::ex) ro:=by
 apply of218
 refine sNew H ?_;clear H;intro b1 w _ H
 replace H:=H.r1
 refine ⟨_,_,_,_,_,H.b1.ld,?_⟩
 refine call_j (c216 H (by omega)) ?_
 clear H;rintro _ w ⟨rfl,H⟩
 refine ⟨_,rfl,?_⟩
 refine ⟨fun h=>by rw [decide_eq_true_eq] at h;omega,fun _=>?_⟩
 refine ⟨_,rfl,by omega,by omega,?_⟩
 refine sStW H (by rfl) (by omega) ?_
 clear H;intro w H
 refine ⟨_,rfl,by omega,by omega,?_⟩
 refine sStW H (by rfl) (by omega) ?_
 clear H;intro w H
 refine ⟨_,_,_,_,_,H.b1.ld,?_⟩
 refine call_j (c216 H (by omega)) ?_
 clear H;rintro _ w ⟨rfl,H⟩
 refine ⟨_,rfl,?_⟩
 refine ⟨by decide,by omega,by omega,by omega,by omega,?_⟩
 have e1:IntKind.u16.wrap (IntKind.i64.wrap (IntKind.i64.wrap ((((20+4*L.length:Nat):Int).tdiv 4)) - 1))=((4+L.length:Nat):Int):=by
  rw [Int.tdiv_eq_ediv_of_nonneg (by omega),wi64_of (n:=((20+4*L.length:Nat):Int) / 4) (by omega) (by omega),wi64_of (by omega) (by omega),wu16]
  omega
 rw [e1,cutW (b:=g) (o:=0) (l:=2) (q:=2) (by omega) rfl]
 refine call_j (put16 H (by rfl) (by omega) (by omega) (by omega)) ?_
 clear H;rintro _ w ⟨rfl,H⟩
 refine ⟨rfl,?_⟩
 refine ⟨by omega,by omega,by omega,by omega,?_⟩
 replace H:=H.drew;generalize w.drew=w at H ⊢
 refine ⟨_,(H.b1.at0 rfl),?_⟩
 rw [cutW (b:=g) (o:=0) (l:=4) (q:=4) (by omega) rfl]
 refine call_j (put32 H (by rfl) hs (by omega) (by omega)) ?_
 clear H;rintro _ w ⟨rfl,H⟩
 refine ⟨rfl,?_⟩
 refine ⟨by omega,by omega,by omega,by omega,?_⟩
 rw [cutW (b:=g) (o:=0) (l:=8) (q:=8) (by omega) rfl]
 refine call_j (put32 H (by rfl) (by decide) (by omega) (by omega)) ?_
 clear H;rintro _ w ⟨rfl,H⟩
 refine ⟨rfl,?_⟩
 refine ⟨_,rfl,by omega,by omega,?_⟩
 refine sStW H (by rfl) (by omega) ?_
 clear H;intro w H
 refine ⟨_,rfl,by omega,by omega,?_⟩
 refine sStW H (by rfl) (by omega) ?_
 clear H;intro w H
 refine ⟨_,rfl,by omega,by omega,?_⟩
 refine sStW H (by rfl) (by omega) ?_
 clear H;intro w H
 refine ⟨_,rfl,by omega,by omega,?_⟩
 refine sStW H (by rfl) (by omega) ?_
 clear H;intro w H
 refine ⟨_,_,_,(H.b1.at0 rfl),?_⟩
 refine ⟨fun h=>by rw [decide_eq_true_eq] at h;omega,fun _=>?_⟩
 refine ⟨_,_,_,(H.b1.at0 rfl),?_⟩
 refine ⟨_,rfl,by omega,by omega,?_⟩
 rw [wu8,show ((L.length:Nat):Int) % 256=L.length by omega]
 refine sStW H (by rfl) (by omega) ?_
 clear H;intro w H
 refine ⟨_,(H.b1.at0 rfl),?_⟩
 refine (fun T=>⟨(Ieee.single.order v 1744830400 == some .gt || Ieee.single.order v 1744830400 == some .eq),w,run_geq (by rw [f32_f]),fun hb=>?_,fun _=>T⟩) ?_
 rotate_left
 ·have hk:v=1744830400:=by rw [hv] at hb ⊢;exact sgl_max h0 h1 hi hb
  rw [hk] at T
  exact T
 refine ⟨false,w,run_lss (by rw [f32_f,hv];exact sgl_pos h0 h1 hi),fun h=>absurd h (by decide),fun _=>?_⟩
 refine ⟨fun e v q w'=>∃j:Nat,v=sgl m j/\e=(i:Int) - j/\j<=i/\q=j/\(j=i\/17<=j+m.log2)/\w'=w,⟨i,i,hv,by omega,by omega,rfl,Or.inl rfl,rfl⟩,?_⟩
 rintro dd e v' q w' ⟨j,rfl,rfl,hji,rfl,hor,rfl⟩
 refine ⟨decide (18<=q+m.log2),w',run_geq (by rw [f32_f];exact sgl_big h0 h1 (by omega)),fun hb=>?_,fun hb=>?_⟩
 ·rw [decide_eq_true_eq] at hb
  have hl:m.log2<=17:=(norm_range (k:=23) h0 h1 (by omega)).1
  obtain ⟨j,rfl⟩:∃k,q=k+1:=⟨q - 1,by omega⟩
  refine ⟨_,w',run_float_arith w' .quo _ .f32 _ _ _ (sgl_half h0 h1 (by omega)),?_⟩
  exact ⟨j,by omega,j,rfl,by rw [wi64_of (by omega) (by omega)];omega,by omega,rfl,Or.inr (by omega),rfl⟩
 rw [decide_eq_false_iff_not] at hb
 obtain ⟨e2,e3⟩:=br_sgl h0 h1 hji (by omega) hor
 obtain ⟨M0,M1⟩:=small_of h0 q (by omega)
 refine ⟨fun h=>by rw [decide_eq_true_eq] at h;omega,fun _=>?_⟩
 refine ⟨_,w',run_convert_float_float w' _ _ .f32 .f64 _ _ (by rw [uF32];rfl) uF64 (dbl_of_sgl h0 h1 (by omega)),?_⟩
 rw [dbl_shift h0 q (by omega)]
 generalize hM:m*2 ^ q=M at M0 M1 e3 ⊢
 refine call_j (c220 M0 M1) ?_
 rintro _ w ⟨rfl,rfl⟩
 refine ⟨_,rfl,?_⟩
 refine ⟨_,w,run_convert_float_int w _ _ .f64 .u64 _ _ (by rw [uF64];rfl) (by kernel_rfl) (dbl_int M0 M1 .u64 (Or.inr rfl)),?_⟩
 refine ⟨_,rfl,by omega,by omega,?_⟩
 have e4:ior .u8 (IntKind.u8.wrap (ishl .i64 ((i:Int) - q) (2:Int))) (IntKind.u8.wrap (ishr .u64 (M:Int) (16:Int)))=brE (sgl m i:Int)*4+brM (sgl m i:Int) / 65536:=by
  rw [e2,e3,ishl_of 2 (by rfl) (by decide),ishr_of (b:=(16:Int)) 16 (by rfl) (by decide),wi64_of (by omega) (by omega),wu8,wu8,show ((i:Int) - q)*2 ^ 2 % 256=((i:Int) - q)*4 by omega,show (M:Int) / 2 ^ 16 % 256=(M:Int) / 65536 by omega]
  exact ior_add (by rfl) 2 ((i:Int) - q) (by omega) (by omega) (by omega) (by omega) (by simp only [IntKind.bits];omega)
 have e5:IntKind.u8.wrap (ishr .u64 (M:Int) (8:Int))=brM (sgl m i:Int) / 256 % 256:=by
  rw [e3,ishr_of (b:=(8:Int)) 8 (by rfl) (by decide),wu8]
  omega
 have e6:IntKind.u8.wrap (M:Int)=brM (sgl m i:Int) % 256:=by rw [e3,wu8]
 rw [e4,e5,e6]
 refine sStW H (by rfl) (by omega) ?_
 clear H;intro w H
 refine ⟨_,rfl,by omega,by omega,?_⟩
 refine sStW H (by rfl) (by omega) ?_
 clear H;intro w H
 refine ⟨_,rfl,by omega,by omega,?_⟩
 refine sStW H (by rfl) (by omega) ?_
 clear H;intro w H
 refine ⟨_,_,_,(H.b1.at0 rfl),?_⟩
 generalize hbE:brE (sgl m i:Int)*4+brM (sgl m i:Int) / 65536=B1 at H
 generalize hbM:brM (sgl m i:Int) / 256 % 256=B2 at H
 generalize hbL:brM (sgl m i:Int) % 256=B3 at H
 have eW:wrRemb s (sgl m i:Int) L=hdrB 15 206 ((4+L.length:Nat):Int)++(b32 s++b32 0++[82,69,77,66,(L.length:Int),B1,B2,B3])++L.flatMap b32:=by
  unfold wrRemb
  rw [hbE,hbM,hbL]
  simp only [List.append_assoc]
 rw [eW]
 clear eW e4 e5 e6
 obtain ⟨P,hP⟩:∃P,P=hdrB 15 206 ((4+L.length:Nat):Int)++(b32 s++b32 0++[82,69,77,66,(L.length:Int),B1,B2,B3]):=⟨_,rfl⟩
 have hPl:P.length=20:=by rw [hP];rfl
 rw [<-hP]
 refine ⟨fun n x q w=>∃j:Nat,n=((20+4*j:Nat):Int)/\x=(j:Int)/\j+q=L.length/\Sat F w (.blk g 5 (u8s (wz (P++(L.take j).flatMap b32) (N - 20 - 4*j)))::.blk b1 239 [.int .u32 s,.float .f32 v,.slice l L.length k]::ex) ro,⟨L.length,0,rfl,rfl,by omega,?_⟩,?_⟩
 ·rw [List.take_zero,List.flatMap_nil,List.append_nil,hP]
  exact H
 clear H hP;rintro dd n x q w ⟨j,rfl,rfl,hjq,H⟩
 have hBl:(P++(L.take j).flatMap b32).length=20+4*j:=by
  rw [List.length_append,fl32,List.length_take,hPl]
  omega
 refine ⟨fun hc=>?_,fun hc=>?_⟩
 ·rw [decide_eq_true_eq] at hc
  have hjl:j < L.length:=by omega
  have htk:L.take (j+1)=L.take j++[L[j]]:=by rw [List.take_add_one,List.getElem?_eq_getElem hjl];rfl
  have hRj:=hR L[j] (List.getElem_mem hjl)
  obtain ⟨bb,oo,hle,hcell⟩:=H.elt hl (by omega)
  have hc1:=hcell j (.int .u32 L[j]) (by rw [oi_get _ _ _ hjl];simp [List.getD,List.getElem?_eq_getElem hjl])
  refine ⟨_,hle,by omega,by omega,?_⟩
  refine ⟨_,(by rw [show (j:Int).toNat*1=j by omega,add_flat];exact hc1),?_⟩
  clear hcell hc1
  rw [wi64_of (n:=((20+4*j:Nat):Int)+4) (by omega) (by omega),show (((20+4*j:Nat):Int)+4).toNat=24+4*j by omega,show (((20+4*j:Nat):Int)).toNat=20+4*j by omega]
  refine ⟨by omega,by omega,by omega,by omega,?_⟩
  rw [cutW (b:=g) (o:=0) (l:=20+4*j) (q:=20+4*j) (by omega) (by omega)]
  refine call_j (put32 H hBl.symm hRj (by omega) (by omega)) ?_
  clear H;rintro _ w ⟨rfl,H⟩
  refine ⟨rfl,?_⟩
  refine ⟨q - 1,by omega,j+1,by omega,by rw [wi64_of (by omega) (by omega)];simp,by omega,?_⟩
  rw [htk,List.flatMap_append]
  simp only [List.flatMap_cons,List.flatMap_nil,List.append_nil]
  rw [List.append_assoc,show N - 20 - 4*j - 4=N - 20 - 4*(j+1) by omega] at H
  exact H
 ·rw [decide_eq_false_iff_not] at hc
  obtain rfl:j=L.length:=by omega
  rw [List.take_length,show N - 20 - 4*L.length=0 by omega] at H
  refine ⟨by rw [hN],H.u1.sub (List.sublist_cons_self _ _) (fun _ h=>h)⟩
theorem c215 {F:Fr} {w:World} {k:Nat} {ex:List Ex} {ro:List Ro} {s:Int} {L:List Int} {l:Option Addr} {m i:Nat} (H:Sat F w ex ro) (hl:Ro.deep [.row 1 (oi .u32 L)] [.slice l L.length k]∈ro) (hn:L.length<=255) (hs:u32R s) (hR:∀y∈L,u32R y)
  (h0:0 < m) (h1:m < 262144) (hi:i<=63) :
  Calls pg 215 #[.agg #[.int .u32 s,.float .f32 (sgl m i),.slice l L.length k]] w (MPost F ex ro (wrRemb s (sgl m i:Int) L)):=by
 apply of215
 refine sNew H ?_;clear H;intro b1 w _ H
 refine ⟨_,_,_,_,_,H.b0.ld,?_⟩
 refine call_j (c216 H (by omega)) ?_
 clear H;rintro _ w ⟨rfl,H⟩
 refine ⟨_,rfl,?_⟩
 obtain ⟨N,hN⟩:∃N,N=20+4*L.length:=⟨_,rfl⟩
 rw [<-hN]
 refine sMk H (e:=5) (z:=.int .u8 0) (bytes:=1) (by kernel_rfl) (by kernel_rfl) (by rfl) (by unfold maxLen;omega) (by omega) (n:=N) (by rfl) (by rfl) ?_
 clear H;intro g w _ H
 rw [u8s_z] at H
 replace H:Sat F w (.blk g 5 (u8s (wz [] N))::_) ro:=H
 refine ⟨_,_,_,_,_,H.b1.ld,?_⟩
 refine call_j (c218 H hl hn hN hs hR h0 h1 hi rfl) ?_
 clear H;rintro _ w ⟨rfl,H⟩
 refine ⟨_,_,rfl,?_⟩
 refine ⟨by simp [isIf],?_⟩
 refine fF ?_
 refine ⟨fun h=>by simp at h,fun _=>?_⟩
 have l9:(wrRemb s (sgl m i:Int) L).length=N:=by
  unfold wrRemb
  rw [List.length_append,List.length_append,fl32,hN]
  show 4+(16+_)=_
  omega
 rw [show wz (wrRemb s (sgl m i:Int) L) 0=wrRemb s (sgl m i:Int) L by simp [wz]] at H
 exact MPost.blk H (List.sublist_cons_self _ _) (fun _ h=>h) l9.symm (by unfold maxLen;omega)
def wrOne (p:Pk):List Int:=
 if p.kind=1 then wrSR p.sender p.ntp p.rtp p.packets p.octets p.reports p.ext else
 if p.kind=2 then wrRR p.sender p.reports p.ext else
 if p.kind=3 then wrSD p.chunks else
 if p.kind=4 then wrBye p.sources p.text else
 if p.kind=5 then wrApp p.sub p.sender p.text p.data else
 if p.kind=6 then wrFb 1 205 ((2+1*p.pairs.length:Nat):Int) p.sender p.media (p.pairs.flatMap wPar) else
 if p.kind=7 then wrTwo 5 205 p.sender p.media else
 if p.kind=8 then wrCc p.sender p.blocks p.time else
 if p.kind=9 then wrTwo 1 206 p.sender p.media else
 if p.kind=10 then wrFb 2 206 ((2+1*p.slices.length:Nat):Int) p.sender p.media (p.slices.flatMap wSli) else
 if p.kind=11 then wrFb 4 206 ((2+2*p.entries.length:Nat):Int) p.sender p.media (p.entries.flatMap wEnt) else
 if p.kind=12 then wrRemb p.sender p.bits p.sources else
 p.data
structure WrOk (p:Pk):Prop where
 lo:0<=p.kind
 hi:p.kind<=12
 k1:p.kind=1->u32R p.sender/\(0<=p.ntp/\p.ntp < 18446744073709551616)/\u32R p.rtp/\u32R p.packets/\u32R p.octets/\p.reports.length<=31/\p.ext.length % 4=0/\28+24*p.reports.length+p.ext.length<=262144/\∀y∈p.reports,RepR y
 k2:p.kind=2->u32R p.sender/\p.reports.length<=31/\p.ext.length % 4=0/\8+24*p.reports.length+p.ext.length<=262144/\∀y∈p.reports,RepR y
 k3:p.kind=3->p.chunks.length<=31/\(p.chunks.flatMap wChk).length<=262140/\∀y∈p.chunks,ChkR y
 k4:p.kind=4->p.sources.length<=31/\p.text.size<=255/\∀y∈p.sources,u32R y
 k5:p.kind=5->(0<=p.sub/\p.sub < 32)/\u32R p.sender/\p.text.size=4/\p.data.length % 4=0/\p.data.length<=65520
 k6:p.kind=6->u32R p.sender/\u32R p.media/\p.pairs.length<=253/\∀x∈p.pairs,(0<=x.1/\x.1 < 65536)/\0<=x.2/\x.2 < 65536
 k7:p.kind=7->u32R p.sender/\u32R p.media
 k8:p.kind=8->u32R p.sender/\u32R p.time/\p.blocks.length<=100000/\(p.blocks.flatMap wBlo).length<=262132/\∀y∈p.blocks,BloR y
 k9:p.kind=9->u32R p.sender/\u32R p.media
 k10:p.kind=10->u32R p.sender/\u32R p.media/\p.slices.length<=253/\∀x∈p.slices,(0<=x.1/\x.1 < 8192)/\(0<=x.2.1/\x.2.1 < 8192)/\0<=x.2.2/\x.2.2 < 64
 k11:p.kind=11->u32R p.sender/\u32R p.media/\p.entries.length<=30000/\∀x∈p.entries,0<=x.1/\x.1 < 4294967296
 k12:p.kind=12->u32R p.sender/\p.sources.length<=255/\(∀y∈p.sources,u32R y)/\∃m i:Nat,0 < m/\m < 262144/\i<=63/\p.bits=(sgl m i:Int)
theorem Ld1 {P:Program} {t:TypeId} {a:Addr} {v:Value} {w:World} (ht:scalarT P t=true) (hc:w.cell? a=some v):LdV P t a v w:=by
 simp [LdV,loadVar,run_isAgg_scalar ht,hc]
theorem MPost.sub {F:Fr} {ex:List Ex} {ro ro1:List Ro} {bs:List Int} {en:Ending} {w:World} (h:MPost F ex ro1 bs en w) (hr:∀r∈ro,r∈ro1):MPost F ex ro bs en w:=by
 obtain ⟨a,c,ro',h1,h2,h3,h4⟩:=h
 exact ⟨a,c,ro',h1,fun r h=>h2 r (hr r h),h3,h4⟩
theorem c136 {F:Fr} {w:World} {ex:List Ex} {ro:List Ro} {xs:List Int} {a:Option Addr} {c:Nat} (H:Sat F w ex ro) (hx:Ro.B xs a xs.length c∈ro):Calls pg 136 #[.slice a xs.length c] w (MPost F ex ro xs):=by
 apply of136
 exact ⟨_,_,_,rfl,fun _ h=>h,H,hx⟩
theorem im0 {F:Fr} {w:World} {ex:List Ex} {ro:List Ro} {p:Pk} {v:Value} (H:Sat F w ex ro) (hk:p.kind=0) (hp:Ro.deep [.ptr (rtcpD p)] [v]∈ro):Invk (.iface 242 v) "Marshal" #[] w (MPost F ex ro (wrOne p)):=by
 have hD:rtcpD p=[.row 1 (ob p.data)]:=by unfold rtcpD;simp [hk]
 have hw:wrOne p=p.data:=by unfold wrOne;simp [hk]
 rw [hD] at hp
 rw [hw]
 obtain ⟨b,vs,ro1,rfl,D0,hm,hd,hr,H⟩:=H.ptrC hp
 obtain ⟨v0,us0,rfl,d0,D1⟩:=D0.consInv
 obtain ⟨a0,n0,c0,rfl,e0⟩:=d0.rowInv
 rw [ob_length] at e0
 obtain rfl:n0=p.data.length:=by omega
 obtain rfl:=D1.nilInv
 refine inv_val (f:=136) (e:=129) (by kernel_rfl) (by kernel_rfl) (by kernel_rfl) (Ld1 (by kernel_rfl) (H.cell (hm 0 _ rfl) rfl)) (call_j (c136 H (hd 0 _ _ rfl rfl)) ?_)
 exact fun _ _ h=>h.sub hr
end Go.Proofs.YtkdialecadjedaaGreatDoor
