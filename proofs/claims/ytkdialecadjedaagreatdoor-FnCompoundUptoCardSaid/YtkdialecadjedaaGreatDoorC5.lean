/- A part of a proof, joined by a program out of smaller texts (conditions: those that each theorem names). -/
import Derived.Test.YtkdialecadjedaaGreatDoorC4
namespace Go.Proofs.YtkdialecadjedaaGreatDoor
set_option linter.unusedVariables false
set_option linter.unusedSimpArgs false
set_option linter.unusedSectionVars false
set_option maxRecDepth 100000
set_option maxHeartbeats 8000000
open Go IntKind
variable {P:Program} {w w' W:World} {n c b k m i j o g M sz bytes p1 p3:Nat} {t ty T e:TypeId} {a l:Option Addr} {v c0 c1:Value} {xs ys A:List Int} {cells vs:List Value} {r:Option Nat} {f:FuncId} {s x:Int} {G:Nat->Prop} {K:Option Addr->Nat->Nat->World->Prop} {Q:Value->Prop} {R:Ending->World->Prop} {F:Fr} {ex exs:List Ex} {ro ro':List Ro} {e0 e1 e2:Ex} {ds:List Dat} {d:Dat} {p:Pk} {L:List Pk}
theorem c47 (H:Sat F w ex ro) (hp:Ro.deep p.dat cells∈ro) (hs:p.size<=1100000):Calls pg 47 #[.agg cells.toArray] w (CvPost F ex ro p):=by
 obtain ⟨a7,a8,a9,a10,a13,a14,a15,a16,a18,a24,a25,c7,c8,c9,c10,c13,c14,c15,c16,c18,c24,c25,R,rfl,hr,H,m7,m8,m9,m10,m13,m14,m15,m16,m18,m24,m25⟩:=H.pkF hp
 unfold Pk.size at hs
 have hcl:=csz_len p.chunks
 have hcm:=csz_mem p.chunks
 have hbl:=bsz_len p.blocks
 have hbm:=bsz_mem p.blocks
 have hsl:=ssz_len p.statuses
 obtain ⟨Z,hZ⟩:∃Z,Z=pk0 0 0 0 false 0 0 0:=⟨_,rfl⟩
 apply of47
 refine sNew H ?_;clear H;intro b1 w _ H
 replace H:Sat F w (.blk b1 63 (pkC p a7 a8 a9 a10 a13 a14 a15 a16 a18 a24 a25 c7 c8 c9 c10 c13 c14 c15 c16 c18 c24 c25)::ex) R:=H
 refine sNew H ?_;clear H;intro b3 w _ H
 replace H:Sat F w (.blk b3 75 Z::.blk b1 63 (pkC p a7 a8 a9 a10 a13 a14 a15 a16 a18 a24 a25 c7 c8 c9 c10 c13 c14 c15 c16 c18 c24 c25)::ex) R:=by rw [hZ];exact H
 refine ⟨_,(H.b1.at0 rfl),?_⟩
 refine ⟨_,(H.b1.at0 rfl),?_⟩
 refine ⟨_,(H.b1.at0 rfl),?_⟩
 refine ⟨_,(H.b1.at0 rfl),?_⟩
 refine ⟨_,(H.b1.at0 rfl),?_⟩
 refine ⟨_,(H.b1.at0 rfl),?_⟩
 refine ⟨_,(H.b1.at0 rfl),?_⟩
 refine ⟨_,_,_,(H.b1.at0 rfl),?_⟩
 refine ⟨_,_,_,(H.b1.at0 rfl),?_⟩
 refine ⟨_,(H.b1.at0 rfl),?_⟩
 refine ⟨_,(H.b1.at0 rfl),?_⟩
 refine ⟨_,_,_,(H.b1.at0 rfl),?_⟩
 refine ⟨_,(H.b1.at0 rfl),?_⟩
 refine ⟨_,(H.b1.at0 rfl),?_⟩
 refine ⟨_,(H.b1.at0 rfl),?_⟩
 refine ⟨_,(H.b1.at0 rfl),?_⟩
 refine ⟨_,(H.b1.at0 rfl),?_⟩
 refine ⟨_,(H.b1.at0 rfl),?_⟩
 refine ⟨_,_,_,_,Ld (vs:=[.bool p.hp,.int .u8 p.hc,.int .u8 p.ht,.int .u16 p.hl]) (by exact add_flat _ _ _) H.b1 (by kernel_rfl) (by rfl) (by rfl),?_⟩
 refine sNew H ?_;clear H;intro b27 w _ H
 refine sSw0 H (h:=?_);clear H;intro w _ H
 replace H:Sat F w (.blk b27 75 (plC p a8 a10 a13 c8 c10 c13 N0 N0 N0 N0 N0 N0 N0 N0)::.blk b3 75 Z::.blk b1 63 (pkC p a7 a8 a9 a10 a13 a14 a15 a16 a18 a24 a25 c7 c8 c9 c10 c13 c14 c15 c16 c18 c24 c25)::ex) R:=H
 refine ⟨_,_,_,(H.b2.at0 rfl),?_⟩
 refine ⟨fun x q w=>∃(j:Nat) (o:Option Addr) (oc:Nat) (r:Option Nat),x=(j:Int)/\j+q=p.reports.length/\Sat F w (.own 166 7 o j oc r ((p.reports.take j).flatMap Rep.dat)::.blk b27 75 (plC p a8 a10 a13 c8 c10 c13 (.slice o j oc) N0 N0 N0 N0 N0 N0 N0)::.blk b3 75 Z::.blk b1 63 (pkC p a7 a8 a9 a10 a13 a14 a15 a16 a18 a24 a25 c7 c8 c9 c10 c13 c14 c15 c16 c18 c24 c25)::ex) R,⟨p.reports.length,0,none,0,none,rfl,by omega,H.nilOwn 166 7⟩,?_⟩
 clear H;rintro dd0 x q w ⟨j,o7,k7,r,rfl,hjq,H⟩
 refine ⟨fun hc=>?_,fun hc=>?_⟩
 ·rw [ah] at hc
  have hjl:j < p.reports.length:=by omega
  obtain ⟨pp,us,e,hus,hcell,H1⟩:=H.eltF Rep.dat_len' (by decide) m7 (j:=j) hjl
  have htk:p.reports.take (j+1)=p.reports.take j++[p.reports[j]]:=by rw [am,ai hjl];rfl
  clear H
  generalize p.reports[j]=D at H1 htk
  obtain ⟨d0,d1,d2,d3,d4,d5,d6⟩:=D
  refine ⟨pp,e,by omega,by omega,?_⟩
  obtain rfl:=H1.ones (us:=[.int .u32 d0,.int .u8 d1,.int .u32 d2,.int .u32 d3,.int .u32 d4,.int .u32 d5,.int .u32 d6]) ms
  refine ⟨_,_,_,_,_,_,_,LdC [.int .u32 d0,.int .u8 d1,.int .u32 d2,.int .u32 d3,.int .u32 d4,.int .u32 d5,.int .u32 d6] (by kernel_rfl) (by rw [show (j:Int).toNat*7=j*7 by omega];exact hcell),?_⟩
  have H:=H1
  clear H1 hcell
  refine sNew H ?_;clear H;intro b4 w _ H
  refine sSw0 H (h:=?_);clear H;intro w _ H
  refine ⟨_,_,_,(H.b2.at0 rfl),?_⟩
  refine ⟨_,_,_,_,_,_,_,H.b0.ld,?_⟩
  refine ⟨rfl,?_⟩
  refine sPush1 H (bytes:=28) (nds:=(Rep.dat (d0,d1,d2,d3,d4,d5,d6))) (hD:=(fun G h=>DeepL.ones [_,_,_,_,_,_,_])) (hK:=?_)
  clear H;intro o2 ol2 oc2 r2 w ex2 _ H
  refine sSt2 H (h:=?_);clear H;intro w _ H
  subst ex2
  refine ⟨q - 1,by omega,j+1,o2,oc2,r2,by rw [wi64_of (by omega) (by omega)];simp,by omega,?_⟩
  rw [htk,aj]
  simp only [fm1,fm2,fm3]
  exact H.sub (sc1) (fun r h=>mt h)
 rw [af] at hc
 obtain rfl:j=p.reports.length:=by omega
 rw [ao] at H
 replace H:=H.freeze
 clear hc hjq r q
 refine ⟨_,_,_,(H.b2.at0 rfl),?_⟩
 refine ⟨fun x q w=>∃(j:Nat) (o:Option Addr) (oc:Nat) (r:Option Nat),x=(j:Int)/\j+q=p.chunks.length/\Sat F w (.own 169 2 o j oc r ((p.chunks.take j).flatMap Chk.dat)::.blk b27 75 (plC p a8 a10 a13 c8 c10 c13 (.slice o7 p.reports.length k7) (.slice o j oc) N0 N0 N0 N0 N0 N0)::.blk b3 75 Z::.blk b1 63 (pkC p a7 a8 a9 a10 a13 a14 a15 a16 a18 a24 a25 c7 c8 c9 c10 c13 c14 c15 c16 c18 c24 c25)::ex) (.deep [.row 7 (p.reports.flatMap Rep.dat)] [.slice o7 p.reports.length k7]::R),⟨p.chunks.length,0,none,0,none,rfl,by omega,H.nilOwn 169 2⟩,?_⟩
 clear H;rintro dd1 x q w ⟨j,o9,k9,r,rfl,hjq,H⟩
 refine ⟨fun hc=>?_,fun hc=>?_⟩
 ·rw [ah] at hc
  have hjl:j < p.chunks.length:=by omega
  obtain ⟨pp,us,e,hus,hcell,H1⟩:=H.eltF Chk.dat_len' (by decide) (mt m9) (j:=j) hjl
  have htk:p.chunks.take (j+1)=p.chunks.take j++[p.chunks[j]]:=by rw [am,ai hjl];rfl
  have hDm:=hcm p.chunks[j] (ax hjl)
  clear H
  generalize p.chunks[j]=D at H1 htk hDm
  obtain ⟨d0,msz⟩:=D
  replace hDm:msz.length<=csz p.chunks:=hDm
  refine ⟨pp,e,by omega,by omega,?_⟩
  obtain ⟨x0,us0,rfl,H2⟩:=H1.uncons ms
  obtain ⟨x1,us1,rfl,H3⟩:=H2.uncons (mt ms)
  obtain rfl:us1=[]:=by simpa using hus
  obtain rfl:=H2.one1 ms
  obtain ⟨sa,sn,sc,rfl,hsl2⟩:=H3.rowS ms
  rw [flat_len Itm.dat_len] at hsl2
  obtain rfl:sn=msz.length:=by omega
  refine ⟨_,_,_,_,LdC [.int .u32 d0,.slice sa msz.length sc] (by kernel_rfl) (by rw [show (j:Int).toNat*2=j*2 by omega];exact hcell),?_⟩
  have H:Sat F w _ (.deep [.row 2 (msz.flatMap Itm.dat)] [.slice sa msz.length sc]::(.deep [.row 7 (p.reports.flatMap Rep.dat)] [.slice o7 p.reports.length k7]::R)):=H3.sub (ak _) (fun r h=>by
   rcases aI.1 h with rfl | h
   ·exact ms
   ·exact (mt (mt (mt (mt (mt h))))))
  clear hcell H1 H2 H3
  refine sNew H ?_;clear H;intro b13 w _ H
  refine sSw0 H (h:=?_);clear H;intro w _ H
  refine ⟨_,(H.b0.at0 rfl),?_⟩
  refine sNew H ?_;clear H;intro b18 w _ H
  refine sSw0 H (h:=?_);clear H;intro w _ H
  refine ⟨_,_,_,(H.b1.at0 rfl),?_⟩
  refine ⟨fun x m2 w=>∃(i:Nat) (o2:Option Addr) (oc2:Nat) (r2:Option Nat),x=(i:Int)/\i+m2=msz.length/\Sat F w (.own 170 2 o2 i oc2 r2 ((msz.take i).flatMap Itm.dat)::.blk b18 169 [.int .u32 d0,.slice o2 i oc2]::.blk b13 147 [.int .u32 d0,.slice sa msz.length sc]::.own 169 2 o9 j k9 r ((p.chunks.take j).flatMap Chk.dat)::.blk b27 75 (plC p a8 a10 a13 c8 c10 c13 (.slice o7 p.reports.length k7) (.slice o9 j k9) N0 N0 N0 N0 N0 N0)::.blk b3 75 Z::.blk b1 63 (pkC p a7 a8 a9 a10 a13 a14 a15 a16 a18 a24 a25 c7 c8 c9 c10 c13 c14 c15 c16 c18 c24 c25)::ex) (.deep [.row 2 (msz.flatMap Itm.dat)] [.slice sa msz.length sc]::(.deep [.row 7 (p.reports.flatMap Rep.dat)] [.slice o7 p.reports.length k7]::R)),⟨msz.length,0,none,0,none,rfl,by omega,H.nilOwn 170 2⟩,?_⟩
  clear H;rintro dd23 x m2 w ⟨i,o2,oc2,r2,rfl,him,H⟩
  refine ⟨fun hc=>?_,fun hc=>?_⟩
  ·rw [ah] at hc
   have hil:i < msz.length:=by omega
   obtain ⟨p2,us,eq2,hus2,hcell,H1⟩:=H.eltF Itm.dat_len (by decide) ms (j:=i) hil
   have htk2:msz.take (i+1)=msz.take i++[msz[i]]:=by rw [am,ai hil];rfl
   clear H
   generalize msz[i]=E at H1 htk2
   obtain ⟨e0,e1⟩:=E
   refine ⟨p2,eq2,by omega,by omega,?_⟩
   obtain rfl:=H1.ones (us:=[.int .u8 e0,.string e1]) ms
   refine ⟨_,_,LdC [.int .u8 e0,.string e1] (by kernel_rfl) (by rw [show (i:Int).toNat*2=i*2 by omega];exact hcell),?_⟩
   have H:=H1
   clear H1 hcell
   refine sNew H ?_;clear H;intro b33 w _ H
   refine sSw0 H (h:=?_);clear H;intro w _ H
   refine ⟨_,_,_,(H.b2.at0 rfl),?_⟩
   refine ⟨_,_,H.b0.ld,?_⟩
   refine ⟨rfl,?_⟩
   refine sPush1 H (bytes:=24) (nds:=(Itm.dat (e0,e1))) (hD:=(fun G h=>DeepL.ones [_,_])) (hK:=?_)
   clear H;intro o3 ol3 oc3 r3 w ex3 _ H
   refine sSt2 H (h:=?_);clear H;intro w _ H
   subst ex3
   refine ⟨m2 - 1,by omega,i+1,o3,oc3,r3,by rw [wi64_of (by omega) (by omega)];simp,by omega,?_⟩
   rw [htk2,aj]
   simp only [fm1,fm2,fm3]
   exact H.sub (sc1) (fun r h=>mt h)
  ·rw [af] at hc
   obtain rfl:i=msz.length:=by omega
   rw [ao] at H
   replace H:=H.freeze
   refine ⟨_,_,_,(H.b3.at0 rfl),?_⟩
   refine ⟨_,_,_,_,H.b0.ld,?_⟩
   refine ⟨rfl,?_⟩
   refine sPush2 H (bytes:=32) (nds:=(Chk.dat (d0,msz))) (hD:=(fun G h=>dc (.one _) (dc (h (.deep [_] [_]) ms).head dn))) (hK:=?_)
   clear H;intro o2 ol2 oc2 r2 w ex2 _ H
   refine sSt3 H (h:=?_);clear H;intro w _ H
   subst ex2
   refine ⟨q - 1,by omega,j+1,o2,oc2,r2,by rw [wi64_of (by omega) (by omega)];simp,by omega,?_⟩
   rw [htk,aj]
   simp only [fm1,fm2,fm3]
   exact H.sub ((sc1).trans (sc1)) (fun r h=>mt (mt h))
 rw [af] at hc
 obtain rfl:j=p.chunks.length:=by omega
 rw [ao] at H
 replace H:=H.freeze
 clear hc hjq r q
 refine ⟨_,_,_,(H.b2.at0 rfl),?_⟩
 refine ⟨fun x q w=>∃(j:Nat) (o:Option Addr) (oc:Nat) (r:Option Nat),x=(j:Int)/\j+q=p.pairs.length/\Sat F w (.own 171 2 o j oc r ((p.pairs.take j).flatMap Par.dat)::.blk b27 75 (plC p a8 a10 a13 c8 c10 c13 (.slice o7 p.reports.length k7) (.slice o9 p.chunks.length k9) (.slice o j oc) N0 N0 N0 N0 N0)::.blk b3 75 Z::.blk b1 63 (pkC p a7 a8 a9 a10 a13 a14 a15 a16 a18 a24 a25 c7 c8 c9 c10 c13 c14 c15 c16 c18 c24 c25)::ex) (.deep [.row 2 (p.chunks.flatMap Chk.dat)] [.slice o9 p.chunks.length k9]::.deep [.row 7 (p.reports.flatMap Rep.dat)] [.slice o7 p.reports.length k7]::R),⟨p.pairs.length,0,none,0,none,rfl,by omega,H.nilOwn 171 2⟩,?_⟩
 clear H;rintro dd2 x q w ⟨j,o14,k14,r,rfl,hjq,H⟩
 refine ⟨fun hc=>?_,fun hc=>?_⟩
 ·rw [ah] at hc
  have hjl:j < p.pairs.length:=by omega
  obtain ⟨pp,us,e,hus,hcell,H1⟩:=H.eltF Par.dat_lenK (by decide) (mt (mt m14)) (j:=j) hjl
  have htk:p.pairs.take (j+1)=p.pairs.take j++[p.pairs[j]]:=by rw [am,ai hjl];rfl
  clear H
  generalize p.pairs[j]=D at H1 htk
  obtain ⟨d0,d1⟩:=D
  refine ⟨pp,e,by omega,by omega,?_⟩
  obtain rfl:=H1.ones (us:=[.int .u16 d0,.int .u16 d1]) ms
  refine ⟨_,_,LdC [.int .u16 d0,.int .u16 d1] (by kernel_rfl) (by rw [show (j:Int).toNat*2=j*2 by omega];exact hcell),?_⟩
  have H:=H1
  clear H1 hcell
  refine sNew H ?_;clear H;intro b4 w _ H
  refine sSw0 H (h:=?_);clear H;intro w _ H
  refine ⟨_,_,_,(H.b2.at0 rfl),?_⟩
  refine ⟨_,_,H.b0.ld,?_⟩
  refine ⟨rfl,?_⟩
  refine sPush1 H (bytes:=4) (nds:=(Par.dat (d0,d1))) (hD:=(fun G h=>DeepL.ones [_,_])) (hK:=?_)
  clear H;intro o2 ol2 oc2 r2 w ex2 _ H
  refine sSt2 H (h:=?_);clear H;intro w _ H
  subst ex2
  refine ⟨q - 1,by omega,j+1,o2,oc2,r2,by rw [wi64_of (by omega) (by omega)];simp,by omega,?_⟩
  rw [htk,aj]
  simp only [fm1,fm2,fm3]
  exact H.sub (sc1) (fun r h=>mt h)
 rw [af] at hc
 obtain rfl:j=p.pairs.length:=by omega
 rw [ao] at H
 replace H:=H.freeze
 clear hc hjq r q
 refine ⟨_,_,_,(H.b2.at0 rfl),?_⟩
 refine ⟨fun x q w=>∃(j:Nat) (o:Option Addr) (oc:Nat) (r:Option Nat),x=(j:Int)/\j+q=p.slices.length/\Sat F w (.own 172 3 o j oc r ((p.slices.take j).flatMap Sli.dat)::.blk b27 75 (plC p a8 a10 a13 c8 c10 c13 (.slice o7 p.reports.length k7) (.slice o9 p.chunks.length k9) (.slice o14 p.pairs.length k14) (.slice o j oc) N0 N0 N0 N0)::.blk b3 75 Z::.blk b1 63 (pkC p a7 a8 a9 a10 a13 a14 a15 a16 a18 a24 a25 c7 c8 c9 c10 c13 c14 c15 c16 c18 c24 c25)::ex) (.deep [.row 2 (p.pairs.flatMap Par.dat)] [.slice o14 p.pairs.length k14]::.deep [.row 2 (p.chunks.flatMap Chk.dat)] [.slice o9 p.chunks.length k9]::.deep [.row 7 (p.reports.flatMap Rep.dat)] [.slice o7 p.reports.length k7]::R),⟨p.slices.length,0,none,0,none,rfl,by omega,H.nilOwn 172 3⟩,?_⟩
 clear H;rintro dd3 x q w ⟨j,o15,k15,r,rfl,hjq,H⟩
 refine ⟨fun hc=>?_,fun hc=>?_⟩
 ·rw [ah] at hc
  have hjl:j < p.slices.length:=by omega
  obtain ⟨pp,us,e,hus,hcell,H1⟩:=H.eltF Sli.dat_lenK (by decide) (mt (mt (mt m15))) (j:=j) hjl
  have htk:p.slices.take (j+1)=p.slices.take j++[p.slices[j]]:=by rw [am,ai hjl];rfl
  clear H
  generalize p.slices[j]=D at H1 htk
  obtain ⟨d0,d1,d2⟩:=D
  refine ⟨pp,e,by omega,by omega,?_⟩
  obtain rfl:=H1.ones (us:=[.int .u16 d0,.int .u16 d1,.int .u8 d2]) ms
  refine ⟨_,_,_,LdC [.int .u16 d0,.int .u16 d1,.int .u8 d2] (by kernel_rfl) (by rw [show (j:Int).toNat*3=j*3 by omega];exact hcell),?_⟩
  have H:=H1
  clear H1 hcell
  refine sNew H ?_;clear H;intro b4 w _ H
  refine sSw0 H (h:=?_);clear H;intro w _ H
  refine ⟨_,_,_,(H.b2.at0 rfl),?_⟩
  refine ⟨_,_,_,H.b0.ld,?_⟩
  refine ⟨rfl,?_⟩
  refine sPush1 H (bytes:=6) (nds:=(Sli.dat (d0,d1,d2))) (hD:=(fun G h=>DeepL.ones [_,_,_])) (hK:=?_)
  clear H;intro o2 ol2 oc2 r2 w ex2 _ H
  refine sSt2 H (h:=?_);clear H;intro w _ H
  subst ex2
  refine ⟨q - 1,by omega,j+1,o2,oc2,r2,by rw [wi64_of (by omega) (by omega)];simp,by omega,?_⟩
  rw [htk,aj]
  simp only [fm1,fm2,fm3]
  exact H.sub (sc1) (fun r h=>mt h)
 rw [af] at hc
 obtain rfl:j=p.slices.length:=by omega
 rw [ao] at H
 replace H:=H.freeze
 clear hc hjq r q
 refine ⟨_,_,_,(H.b2.at0 rfl),?_⟩
 refine ⟨fun x q w=>∃(j:Nat) (o:Option Addr) (oc:Nat) (r:Option Nat),x=(j:Int)/\j+q=p.entries.length/\Sat F w (.own 173 2 o j oc r ((p.entries.take j).flatMap Ent.dat)::.blk b27 75 (plC p a8 a10 a13 c8 c10 c13 (.slice o7 p.reports.length k7) (.slice o9 p.chunks.length k9) (.slice o14 p.pairs.length k14) (.slice o15 p.slices.length k15) (.slice o j oc) N0 N0 N0)::.blk b3 75 Z::.blk b1 63 (pkC p a7 a8 a9 a10 a13 a14 a15 a16 a18 a24 a25 c7 c8 c9 c10 c13 c14 c15 c16 c18 c24 c25)::ex) (.deep [.row 3 (p.slices.flatMap Sli.dat)] [.slice o15 p.slices.length k15]::.deep [.row 2 (p.pairs.flatMap Par.dat)] [.slice o14 p.pairs.length k14]::.deep [.row 2 (p.chunks.flatMap Chk.dat)] [.slice o9 p.chunks.length k9]::.deep [.row 7 (p.reports.flatMap Rep.dat)] [.slice o7 p.reports.length k7]::R),⟨p.entries.length,0,none,0,none,rfl,by omega,H.nilOwn 173 2⟩,?_⟩
 clear H;rintro dd4 x q w ⟨j,o16,k16,r,rfl,hjq,H⟩
 refine ⟨fun hc=>?_,fun hc=>?_⟩
 ·rw [ah] at hc
  have hjl:j < p.entries.length:=by omega
  obtain ⟨pp,us,e,hus,hcell,H1⟩:=H.eltF Ent.dat_lenK (by decide) (mt (mt (mt (mt m16)))) (j:=j) hjl
  have htk:p.entries.take (j+1)=p.entries.take j++[p.entries[j]]:=by rw [am,ai hjl];rfl
  clear H
  generalize p.entries[j]=D at H1 htk
  obtain ⟨d0,d1⟩:=D
  refine ⟨pp,e,by omega,by omega,?_⟩
  obtain rfl:=H1.ones (us:=[.int .u32 d0,.int .u8 d1]) ms
  refine ⟨_,_,LdC [.int .u32 d0,.int .u8 d1] (by kernel_rfl) (by rw [show (j:Int).toNat*2=j*2 by omega];exact hcell),?_⟩
  have H:=H1
  clear H1 hcell
  refine sNew H ?_;clear H;intro b4 w _ H
  refine sSw0 H (h:=?_);clear H;intro w _ H
  refine ⟨_,_,_,(H.b2.at0 rfl),?_⟩
  refine ⟨_,_,H.b0.ld,?_⟩
  refine ⟨rfl,?_⟩
  refine sPush1 H (bytes:=8) (nds:=(Ent.dat (d0,d1))) (hD:=(fun G h=>DeepL.ones [_,_])) (hK:=?_)
  clear H;intro o2 ol2 oc2 r2 w ex2 _ H
  refine sSt2 H (h:=?_);clear H;intro w _ H
  subst ex2
  refine ⟨q - 1,by omega,j+1,o2,oc2,r2,by rw [wi64_of (by omega) (by omega)];simp,by omega,?_⟩
  rw [htk,aj]
  simp only [fm1,fm2,fm3]
  exact H.sub (sc1) (fun r h=>mt h)
 rw [af] at hc
 obtain rfl:j=p.entries.length:=by omega
 rw [ao] at H
 replace H:=H.freeze
 clear hc hjq r q
 refine ⟨_,_,_,(H.b2.at0 rfl),?_⟩
 refine ⟨fun x q w=>∃(j:Nat) (o:Option Addr) (oc:Nat) (r:Option Nat),x=(j:Int)/\j+q=p.blocks.length/\Sat F w (.own 176 3 o j oc r ((p.blocks.take j).flatMap Blo.dat)::.blk b27 75 (plC p a8 a10 a13 c8 c10 c13 (.slice o7 p.reports.length k7) (.slice o9 p.chunks.length k9) (.slice o14 p.pairs.length k14) (.slice o15 p.slices.length k15) (.slice o16 p.entries.length k16) (.slice o j oc) N0 N0)::.blk b3 75 Z::.blk b1 63 (pkC p a7 a8 a9 a10 a13 a14 a15 a16 a18 a24 a25 c7 c8 c9 c10 c13 c14 c15 c16 c18 c24 c25)::ex) (.deep [.row 2 (p.entries.flatMap Ent.dat)] [.slice o16 p.entries.length k16]::.deep [.row 3 (p.slices.flatMap Sli.dat)] [.slice o15 p.slices.length k15]::.deep [.row 2 (p.pairs.flatMap Par.dat)] [.slice o14 p.pairs.length k14]::.deep [.row 2 (p.chunks.flatMap Chk.dat)] [.slice o9 p.chunks.length k9]::.deep [.row 7 (p.reports.flatMap Rep.dat)] [.slice o7 p.reports.length k7]::R),⟨p.blocks.length,0,none,0,none,rfl,by omega,H.nilOwn 176 3⟩,?_⟩
 clear H;rintro dd5 x q w ⟨j,o18,k18,r,rfl,hjq,H⟩
 refine ⟨fun hc=>?_,fun hc=>?_⟩
 ·rw [ah] at hc
  have hjl:j < p.blocks.length:=by omega
  obtain ⟨pp,us,e,hus,hcell,H1⟩:=H.eltF Blo.dat_len' (by decide) (mt (mt (mt (mt (mt m18))))) (j:=j) hjl
  have htk:p.blocks.take (j+1)=p.blocks.take j++[p.blocks[j]]:=by rw [am,ai hjl];rfl
  have hDm:=hbm p.blocks[j] (ax hjl)
  clear H
  generalize p.blocks[j]=D at H1 htk hDm
  obtain ⟨d0,d1,msz⟩:=D
  replace hDm:msz.length<=bsz p.blocks:=hDm
  refine ⟨pp,e,by omega,by omega,?_⟩
  obtain ⟨x0,us0,rfl,H2⟩:=H1.uncons ms
  obtain ⟨x1,us1,rfl,H3⟩:=H2.uncons (mt ms)
  obtain ⟨x2,us2,rfl,H4⟩:=H3.uncons (mt ms)
  obtain rfl:us2=[]:=by simpa using hus
  obtain rfl:=H2.one1 ms
  obtain rfl:=H3.one1 ms
  obtain ⟨sa,sn,sc,rfl,hsl2⟩:=H4.rowS ms
  rw [flat_len Met.dat_len'] at hsl2
  obtain rfl:sn=msz.length:=by omega
  refine ⟨_,_,_,_,_,LdC [.int .u32 d0,.int .u16 d1,.slice sa msz.length sc] (by kernel_rfl) (by rw [show (j:Int).toNat*3=j*3 by omega];exact hcell),?_⟩
  have H:Sat F w _ (.deep [.row 3 (msz.flatMap Met.dat)] [.slice sa msz.length sc]::(.deep [.row 2 (p.entries.flatMap Ent.dat)] [.slice o16 p.entries.length k16]::.deep [.row 3 (p.slices.flatMap Sli.dat)] [.slice o15 p.slices.length k15]::.deep [.row 2 (p.pairs.flatMap Par.dat)] [.slice o14 p.pairs.length k14]::.deep [.row 2 (p.chunks.flatMap Chk.dat)] [.slice o9 p.chunks.length k9]::.deep [.row 7 (p.reports.flatMap Rep.dat)] [.slice o7 p.reports.length k7]::R)):=H4.sub (ak _) (fun r h=>by
   rcases aI.1 h with rfl | h
   ·exact ms
   ·exact (mt (mt (mt (mt (mt (mt (mt h))))))))
  clear hcell H1 H2 H3 H4
  refine sNew H ?_;clear H;intro b13 w _ H
  refine sSw0 H (h:=?_);clear H;intro w _ H
  refine ⟨_,(H.b0.at0 rfl),?_⟩
  refine ⟨_,(H.b0.at0 rfl),?_⟩
  refine sNew H ?_;clear H;intro b18 w _ H
  refine sSw0 H (h:=?_);clear H;intro w _ H
  refine ⟨_,_,_,(H.b1.at0 rfl),?_⟩
  refine ⟨fun x m2 w=>∃(i:Nat) (o2:Option Addr) (oc2:Nat) (r2:Option Nat),x=(i:Int)/\i+m2=msz.length/\Sat F w (.own 177 3 o2 i oc2 r2 ((msz.take i).flatMap Met.dat)::.blk b18 176 [.int .u32 d0,.int .u16 d1,.slice o2 i oc2]::.blk b13 158 [.int .u32 d0,.int .u16 d1,.slice sa msz.length sc]::.own 176 3 o18 j k18 r ((p.blocks.take j).flatMap Blo.dat)::.blk b27 75 (plC p a8 a10 a13 c8 c10 c13 (.slice o7 p.reports.length k7) (.slice o9 p.chunks.length k9) (.slice o14 p.pairs.length k14) (.slice o15 p.slices.length k15) (.slice o16 p.entries.length k16) (.slice o18 j k18) N0 N0)::.blk b3 75 Z::.blk b1 63 (pkC p a7 a8 a9 a10 a13 a14 a15 a16 a18 a24 a25 c7 c8 c9 c10 c13 c14 c15 c16 c18 c24 c25)::ex) (.deep [.row 3 (msz.flatMap Met.dat)] [.slice sa msz.length sc]::(.deep [.row 2 (p.entries.flatMap Ent.dat)] [.slice o16 p.entries.length k16]::.deep [.row 3 (p.slices.flatMap Sli.dat)] [.slice o15 p.slices.length k15]::.deep [.row 2 (p.pairs.flatMap Par.dat)] [.slice o14 p.pairs.length k14]::.deep [.row 2 (p.chunks.flatMap Chk.dat)] [.slice o9 p.chunks.length k9]::.deep [.row 7 (p.reports.flatMap Rep.dat)] [.slice o7 p.reports.length k7]::R)),⟨msz.length,0,none,0,none,rfl,by omega,H.nilOwn 177 3⟩,?_⟩
  clear H;rintro dd23 x m2 w ⟨i,o2,oc2,r2,rfl,him,H⟩
  refine ⟨fun hc=>?_,fun hc=>?_⟩
  ·rw [ah] at hc
   have hil:i < msz.length:=by omega
   obtain ⟨p2,us,eq2,hus2,hcell,H1⟩:=H.eltF Met.dat_len' (by decide) ms (j:=i) hil
   have htk2:msz.take (i+1)=msz.take i++[msz[i]]:=by rw [am,ai hil];rfl
   clear H
   generalize msz[i]=E at H1 htk2
   obtain ⟨e0,e1,e2⟩:=E
   refine ⟨p2,eq2,by omega,by omega,?_⟩
   obtain rfl:=H1.ones (us:=[.bool e0,.int .u8 e1,.int .u16 e2]) ms
   refine ⟨_,_,_,LdC [.bool e0,.int .u8 e1,.int .u16 e2] (by kernel_rfl) (by rw [show (i:Int).toNat*3=i*3 by omega];exact hcell),?_⟩
   have H:=H1
   clear H1 hcell
   refine sNew H ?_;clear H;intro b33 w _ H
   refine sSw0 H (h:=?_);clear H;intro w _ H
   refine ⟨_,_,_,(H.b2.at0 rfl),?_⟩
   refine ⟨_,_,_,H.b0.ld,?_⟩
   refine ⟨rfl,?_⟩
   refine sPush1 H (bytes:=4) (nds:=(Met.dat (e0,e1,e2))) (hD:=(fun G h=>DeepL.ones [_,_,_])) (hK:=?_)
   clear H;intro o3 ol3 oc3 r3 w ex3 _ H
   refine sSt2 H (h:=?_);clear H;intro w _ H
   subst ex3
   refine ⟨m2 - 1,by omega,i+1,o3,oc3,r3,by rw [wi64_of (by omega) (by omega)];simp,by omega,?_⟩
   rw [htk2,aj]
   simp only [fm1,fm2,fm3]
   exact H.sub (sc1) (fun r h=>mt h)
  ·rw [af] at hc
   obtain rfl:i=msz.length:=by omega
   rw [ao] at H
   replace H:=H.freeze
   refine ⟨_,_,_,(H.b3.at0 rfl),?_⟩
   refine ⟨_,_,_,_,_,H.b0.ld,?_⟩
   refine ⟨rfl,?_⟩
   refine sPush2 H (bytes:=32) (nds:=(Blo.dat (d0,d1,msz))) (hD:=(fun G h=>dc (.one _) (dc (.one _) (dc (h (.deep [_] [_]) ms).head dn)))) (hK:=?_)
   clear H;intro o2 ol2 oc2 r2 w ex2 _ H
   refine sSt3 H (h:=?_);clear H;intro w _ H
   subst ex2
   refine ⟨q - 1,by omega,j+1,o2,oc2,r2,by rw [wi64_of (by omega) (by omega)];simp,by omega,?_⟩
   rw [htk,aj]
   simp only [fm1,fm2,fm3]
   exact H.sub ((sc1).trans (sc1)) (fun r h=>mt (mt h))
 rw [af] at hc
 obtain rfl:j=p.blocks.length:=by omega
 rw [ao] at H
 replace H:=H.freeze
 clear hc hjq r q
 refine ⟨_,_,_,(H.b2.at0 rfl),?_⟩
 refine ⟨fun x q w=>∃(j:Nat) (o:Option Addr) (oc:Nat) (r:Option Nat),x=(j:Int)/\j+q=p.statuses.length/\Sat F w (.own 178 5 o j oc r ((p.statuses.take j).flatMap Sta.dat)::.blk b27 75 (plC p a8 a10 a13 c8 c10 c13 (.slice o7 p.reports.length k7) (.slice o9 p.chunks.length k9) (.slice o14 p.pairs.length k14) (.slice o15 p.slices.length k15) (.slice o16 p.entries.length k16) (.slice o18 p.blocks.length k18) (.slice o j oc) N0)::.blk b3 75 Z::.blk b1 63 (pkC p a7 a8 a9 a10 a13 a14 a15 a16 a18 a24 a25 c7 c8 c9 c10 c13 c14 c15 c16 c18 c24 c25)::ex) (.deep [.row 3 (p.blocks.flatMap Blo.dat)] [.slice o18 p.blocks.length k18]::.deep [.row 2 (p.entries.flatMap Ent.dat)] [.slice o16 p.entries.length k16]::.deep [.row 3 (p.slices.flatMap Sli.dat)] [.slice o15 p.slices.length k15]::.deep [.row 2 (p.pairs.flatMap Par.dat)] [.slice o14 p.pairs.length k14]::.deep [.row 2 (p.chunks.flatMap Chk.dat)] [.slice o9 p.chunks.length k9]::.deep [.row 7 (p.reports.flatMap Rep.dat)] [.slice o7 p.reports.length k7]::R),⟨p.statuses.length,0,none,0,none,rfl,by omega,H.nilOwn 178 5⟩,?_⟩
 clear H;rintro dd6 x q w ⟨j,o24,k24,r,rfl,hjq,H⟩
 refine ⟨fun hc=>?_,fun hc=>?_⟩
 ·rw [ah] at hc
  have hjl:j < p.statuses.length:=by omega
  obtain ⟨pp,us,e,hus,hcell,H1⟩:=H.eltF Sta.dat_lenK (by decide) (mt (mt (mt (mt (mt (mt m24)))))) (j:=j) hjl
  have htk:p.statuses.take (j+1)=p.statuses.take j++[p.statuses[j]]:=by rw [am,ai hjl];rfl
  clear H
  generalize p.statuses[j]=D at H1 htk
  obtain ⟨V,d0,d1,d2,dl⟩:=D
  refine ⟨pp,e,by omega,by omega,?_⟩
  obtain ⟨la,lc,rfl,H2⟩:=H1.sta5 ms
  refine ⟨_,_,_,_,_,_,_,LdC [.bool V,.int .u16 d0,.int .u16 d1,.int .u16 d2,.slice la dl.length lc] (by kernel_rfl) (by rw [show (j:Int).toNat*5=j*5 by omega];exact hcell),?_⟩
  have H:=H2
  clear H1 H2 hcell
  refine sNew H ?_;clear H;intro b4 w _ H
  refine sSw0 H (h:=?_);clear H;intro w _ H
  refine ⟨_,_,_,(H.b2.at0 rfl),?_⟩
  refine ⟨_,_,_,_,_,_,_,H.b0.ld,?_⟩
  refine ⟨rfl,?_⟩
  refine sPush1 H (bytes:=32) (nds:=(Sta.dat (V,d0,d1,d2,dl))) (hD:=(fun G h=>dc (.one _) (dc (.one _) (dc (.one _) (dc (.one _) (dc (h (.deep [_] [_]) ms).head dn)))))) (hK:=?_)
  clear H;intro o2 ol2 oc2 r2 w ex2 _ H
  refine sSt2 H (h:=?_);clear H;intro w _ H
  subst ex2
  refine ⟨q - 1,by omega,j+1,o2,oc2,r2,by rw [wi64_of (by omega) (by omega)];simp,by omega,?_⟩
  rw [htk,aj]
  simp only [fm1,fm2,fm3]
  exact H.sub (sc1) (fun r h=>mt (mt h))
 rw [af] at hc
 obtain rfl:j=p.statuses.length:=by omega
 rw [ao] at H
 replace H:=H.freeze
 clear hc hjq r q
 refine ⟨_,_,_,(H.b2.at0 rfl),?_⟩
 refine ⟨fun x q w=>∃(j:Nat) (o:Option Addr) (oc:Nat) (r:Option Nat),x=(j:Int)/\j+q=p.deltas.length/\Sat F w (.own 179 2 o j oc r ((p.deltas.take j).flatMap Del.dat)::.blk b27 75 (plC p a8 a10 a13 c8 c10 c13 (.slice o7 p.reports.length k7) (.slice o9 p.chunks.length k9) (.slice o14 p.pairs.length k14) (.slice o15 p.slices.length k15) (.slice o16 p.entries.length k16) (.slice o18 p.blocks.length k18) (.slice o24 p.statuses.length k24) (.slice o j oc))::.blk b3 75 Z::.blk b1 63 (pkC p a7 a8 a9 a10 a13 a14 a15 a16 a18 a24 a25 c7 c8 c9 c10 c13 c14 c15 c16 c18 c24 c25)::ex) (.deep [.row 5 (p.statuses.flatMap Sta.dat)] [.slice o24 p.statuses.length k24]::.deep [.row 3 (p.blocks.flatMap Blo.dat)] [.slice o18 p.blocks.length k18]::.deep [.row 2 (p.entries.flatMap Ent.dat)] [.slice o16 p.entries.length k16]::.deep [.row 3 (p.slices.flatMap Sli.dat)] [.slice o15 p.slices.length k15]::.deep [.row 2 (p.pairs.flatMap Par.dat)] [.slice o14 p.pairs.length k14]::.deep [.row 2 (p.chunks.flatMap Chk.dat)] [.slice o9 p.chunks.length k9]::.deep [.row 7 (p.reports.flatMap Rep.dat)] [.slice o7 p.reports.length k7]::R),⟨p.deltas.length,0,none,0,none,rfl,by omega,H.nilOwn 179 2⟩,?_⟩
 clear H;rintro dd7 x q w ⟨j,o25,k25,r,rfl,hjq,H⟩
 refine ⟨fun hc=>?_,fun hc=>?_⟩
 ·rw [ah] at hc
  have hjl:j < p.deltas.length:=by omega
  obtain ⟨pp,us,e,hus,hcell,H1⟩:=H.eltF Del.dat_lenK (by decide) (mt (mt (mt (mt (mt (mt (mt m25))))))) (j:=j) hjl
  have htk:p.deltas.take (j+1)=p.deltas.take j++[p.deltas[j]]:=by rw [am,ai hjl];rfl
  clear H
  generalize p.deltas[j]=D at H1 htk
  obtain ⟨d0,d1⟩:=D
  refine ⟨pp,e,by omega,by omega,?_⟩
  obtain rfl:=H1.ones (us:=[.int .u16 d0,.int .i64 d1]) ms
  refine ⟨_,_,LdC [.int .u16 d0,.int .i64 d1] (by kernel_rfl) (by rw [show (j:Int).toNat*2=j*2 by omega];exact hcell),?_⟩
  have H:=H1
  clear H1 hcell
  refine sNew H ?_;clear H;intro b4 w _ H
  refine sSw0 H (h:=?_);clear H;intro w _ H
  refine ⟨_,_,_,(H.b2.at0 rfl),?_⟩
  refine ⟨_,_,H.b0.ld,?_⟩
  refine ⟨rfl,?_⟩
  refine sPush1 H (bytes:=16) (nds:=(Del.dat (d0,d1))) (hD:=(fun G h=>DeepL.ones [_,_])) (hK:=?_)
  clear H;intro o2 ol2 oc2 r2 w ex2 _ H
  refine sSt2 H (h:=?_);clear H;intro w _ H
  subst ex2
  refine ⟨q - 1,by omega,j+1,o2,oc2,r2,by rw [wi64_of (by omega) (by omega)];simp,by omega,?_⟩
  rw [htk,aj]
  simp only [fm1,fm2,fm3]
  exact H.sub (sc1) (fun r h=>mt h)
 rw [af] at hc
 obtain rfl:j=p.deltas.length:=by omega
 rw [ao] at H
 replace H:=H.freeze
 clear hc hjq r q
 refine ⟨_,Ld0 rfl H.b0 (by kernel_rfl),?_⟩
 rw [hZ] at H
 refine sSw1 H (h:=?_);clear H;intro w _ H
 refine ⟨_,Ld0 rfl H.b1 (by kernel_rfl),?_⟩
 exact ⟨_,_,rfl,fun r h=>mt (mt (mt (mt (mt (mt (mt (mt (mt (hr r h))))))))),(H.addD (ds:=p.dat) (fun G h=>dc (.one _) (dc (.one _) (dc (.one _) (dc (.one _) (dc (.one _) (dc (.one _) (dc (.one _) (dc (h (.deep [_] [_]) (mt (mt (mt (mt (mt (mt (mt ms)))))))).head (dc (h (.deep [_] [_]) (mt (mt (mt (mt (mt (mt (mt (mt m8))))))))).head (dc (h (.deep [_] [_]) (mt (mt (mt (mt (mt (mt ms))))))).head (dc (h (.deep [_] [_]) (mt (mt (mt (mt (mt (mt (mt (mt m10))))))))).head (dc (.one _) (dc (.one _) (dc (h (.deep [_] [_]) (mt (mt (mt (mt (mt (mt (mt (mt m13))))))))).head (dc (h (.deep [_] [_]) (mt (mt (mt (mt (mt ms)))))).head (dc (h (.deep [_] [_]) (mt (mt (mt (mt ms))))).head (dc (h (.deep [_] [_]) (mt (mt (mt ms)))).head (dc (.one _) (dc (h (.deep [_] [_]) (mt (mt ms))).head (dc (.one _) (dc (.one _) (dc (.one _) (dc (.one _) (dc (.one _) (dc (h (.deep [_] [_]) (mt ms)).head (dc (h (.deep [_] [_]) ms).head (dc (.one _) (dc (.one _) (dc (.one _) (dc (.one _) dn))))))))))))))))))))))))))))))).sub sl1 (fun _ h=>h),ms⟩
def YN (F:Fr) (ex:List Ex) (ro:List Ro) (en:Ending) (w':World):Prop:=∃b,en=.returned (.bool b)/\Sat F w' ex ro
theorem YN.mk {b:Bool} (H:Sat F w exs ro') (hs:ex.Sublist exs) (hr:∀r∈ro,r∈ro'):YN F ex ro (.returned (.bool b)) w:=⟨b,rfl,H.sub hs hr⟩
theorem c119 {t:Int} {s:ByteArray} (H:Sat F w ex ro):Calls pg 119 #[.agg #[.int .u8 t,.string s]] w (YN F ex ro):=by
 apply of119
 refine sNew H ?_;clear H;intro b1 w _ H
 refine ⟨_,(H.b0.at0 rfl),?_⟩
 exact ⟨fun _=>YN.mk H sl1 (fun _ h=>h),fun _=>YN.mk H sl1 (fun _ h=>h)⟩
theorem c118 {L:List Itm} (H:Sat F w ex ro) (hl:Ro.deep [.row 2 (L.flatMap Itm.dat)] [.slice l L.length c]∈ro) (hn:L.length<=2000000):Calls pg 118 #[.slice l L.length c] w (YN F ex ro):=by
 apply of118
 refine ⟨fun _=>YN.mk H (by repeat (exact ak _)) (fun _ h=>h),fun _=>?_⟩
 refine ⟨fun x m w=>∃j:Nat,x=(j:Int)/\j+m=L.length/\Sat F w ex ro,⟨L.length,0,rfl,by omega,H⟩,?_⟩
 clear H;rintro dd2 x m w ⟨j,rfl,hjm,H⟩
 refine ⟨fun hc=>?_,fun _=>YN.mk H (by repeat (exact ak _)) (fun _ h=>h)⟩
 rw [ah] at hc
 have hjl:j < L.length:=by omega
 obtain ⟨p,us,e,hus,hcell,H1⟩:=H.eltF Itm.dat_len (by decide) hl (j:=j) hjl
 clear H
 generalize L[j]=D at H1
 obtain ⟨d0,d1⟩:=D
 refine ⟨p,e,by omega,by omega,?_⟩
 obtain rfl:=H1.ones (us:=[.int .u8 d0,.string d1]) ms
 refine ⟨_,_,LdC [.int .u8 d0,.string d1] (by kernel_rfl) (by rw [show (j:Int).toNat*2=j*2 by omega];exact hcell),?_⟩
 have H:=H1.sub (ak _) (fun r h=>mt h)
 clear H1 hcell
 refine sNew H ?_;clear H;intro b4 w _ H
 refine sSw0 H (h:=?_);clear H;intro w _ H
 refine ⟨_,_,H.b0.ld,?_⟩
 refine call_j (c119 H) ?_
 clear H;rintro _ w ⟨b,rfl,H⟩
 refine ⟨_,rfl,fun _=>YN.mk H sl1 (fun _ h=>h),fun _=>?_⟩
 exact ⟨m - 1,by omega,j+1,by rw [wi64_of (by omega) (by omega)];simp,by omega,H.dr⟩
theorem c108 {L:List Itm} (H:Sat F w ex ro) (hl:Ro.deep [.row 2 (L.flatMap Itm.dat)] [.slice l L.length c]∈ro) (hn:L.length<=2000000):Calls pg 108 #[.agg #[.int .u32 s,.slice l L.length c]] w (YN F ex ro):=by
 apply of108
 refine sNew H ?_;clear H;intro b1 w _ H
 refine ⟨_,_,_,(H.b0.at0 rfl),?_⟩
 refine call_j (c118 H hl hn) ?_
 clear H;rintro _ w ⟨b,rfl,H⟩
 exact ⟨_,rfl,fun _=>YN.mk H sl1 (fun _ h=>h),fun _=>YN.mk H sl1 (fun _ h=>h)⟩
theorem c84 {L:List Chk} (H:Sat F w ex ro) (hl:Ro.deep [.row 2 (L.flatMap Chk.dat)] [.slice l L.length c]∈ro) (hn:L.length<=2000000) (hn2:∀y∈L,y.2.length<=2000000):Calls pg 84 #[.slice l L.length c] w (YN F ex ro):=by
 apply of84
 refine ⟨fun _=>YN.mk H (by repeat (exact ak _)) (fun _ h=>h),fun _=>?_⟩
 refine ⟨fun x m w=>∃j:Nat,x=(j:Int)/\j+m=L.length/\Sat F w ex ro,⟨L.length,0,rfl,by omega,H⟩,?_⟩
 clear H;rintro dd2 x m w ⟨j,rfl,hjm,H⟩
 refine ⟨fun hc=>?_,fun _=>YN.mk H (by repeat (exact ak _)) (fun _ h=>h)⟩
 rw [ah] at hc
 have hjl:j < L.length:=by omega
 obtain ⟨p,us,e,hus,hcell,H1⟩:=H.eltF Chk.dat_len' (by decide) hl (j:=j) hjl
 have hDm:=hn2 L[j] (ax hjl)
 clear H
 generalize L[j]=D at H1 hDm
 obtain ⟨d0,msz⟩:=D
 replace hDm:msz.length<=2000000:=hDm
 refine ⟨p,e,by omega,by omega,?_⟩
 obtain ⟨x0,us0,rfl,H2⟩:=H1.uncons ms
 obtain ⟨x1,us1,rfl,H3⟩:=H2.uncons (mt ms)
 obtain rfl:us1=[]:=by simpa using hus
 obtain rfl:=H2.one1 ms
 obtain ⟨sa,sn,sc,rfl,hsl⟩:=H3.rowS ms
 rw [flat_len Itm.dat_len] at hsl
 obtain rfl:sn=msz.length:=by omega
 refine ⟨_,_,_,_,LdC [.int .u32 d0,.slice sa msz.length sc] (by kernel_rfl) (by rw [show (j:Int).toNat*2=j*2 by omega];exact hcell),?_⟩
 have H:Sat F w _ (.deep [.row 2 (msz.flatMap Itm.dat)] [.slice sa msz.length sc]::ro):=H3.sub (ak _) (fun r h=>by
  rcases aI.1 h with rfl | h
  ·exact ms
  ·simp [h])
 clear H1 H2 H3 hcell
 refine sNew H ?_;clear H;intro b4 w _ H
 refine sSw0 H (h:=?_);clear H;intro w _ H
 refine ⟨_,_,_,_,H.b0.ld,?_⟩
 refine call_j (c108 H ms hDm) ?_
 clear H;rintro _ w ⟨b,rfl,H⟩
 refine ⟨_,rfl,fun _=>YN.mk H sl1 (fun _ h=>mt h),fun _=>?_⟩
 exact ⟨m - 1,by omega,j+1,by rw [wi64_of (by omega) (by omega)];simp,by omega,H.dq (fun _ h=>mt h)⟩
theorem c109 {b:Int} (H:Sat F w ex ro):Calls pg 109 #[.agg #[.int .u32 s,.int .u16 b,.slice l n c]] w (YN F ex ro):=by
 apply of109
 refine sNew H ?_;clear H;intro b1 w _ H
 refine ⟨_,_,_,(H.b0.at0 rfl),?_⟩
 exact ⟨fun _=>YN.mk H sl1 (fun _ h=>h),fun _=>YN.mk H sl1 (fun _ h=>h)⟩
theorem c110 {V:Bool} {a b d:Int} (H:Sat F w ex ro):Calls pg 110 #[.agg #[.bool V,.int .u16 a,.int .u16 b,.int .u16 d,.slice l n c]] w (YN F ex ro):=by
 apply of110
 refine sNew H ?_;clear H;intro b1 w _ H
 refine ⟨_,_,_,(H.b0.at0 rfl),?_⟩
 exact ⟨fun _=>YN.mk H sl1 (fun _ h=>h),fun _=>YN.mk H sl1 (fun _ h=>h)⟩
theorem c85 {L:List Blo} (H:Sat F w ex ro) (hl:Ro.deep [.row 3 (L.flatMap Blo.dat)] [.slice l L.length c]∈ro) (hn:L.length<=2000000):Calls pg 85 #[.slice l L.length c] w (YN F ex ro):=by
 apply of85
 refine ⟨fun _=>YN.mk H (by repeat (exact ak _)) (fun _ h=>h),fun _=>?_⟩
 refine ⟨fun x m w=>∃j:Nat,x=(j:Int)/\j+m=L.length/\Sat F w ex ro,⟨L.length,0,rfl,by omega,H⟩,?_⟩
 clear H;rintro dd2 x m w ⟨j,rfl,hjm,H⟩
 refine ⟨fun hc=>?_,fun _=>YN.mk H (by repeat (exact ak _)) (fun _ h=>h)⟩
 rw [ah] at hc
 have hjl:j < L.length:=by omega
 obtain ⟨p,us,e,hus,hcell,H1⟩:=H.eltF Blo.dat_len' (by decide) hl (j:=j) hjl
 generalize L[j]=D at H1
 obtain ⟨d0,d1,msz⟩:=D
 refine ⟨p,e,by omega,by omega,?_⟩
 obtain ⟨x0,us0,rfl,H2⟩:=H1.uncons ms
 obtain ⟨x1,us1,rfl,H3⟩:=H2.uncons (mt ms)
 obtain ⟨x2,us2,rfl,H4⟩:=H3.uncons (mt ms)
 obtain rfl:us2=[]:=by simpa using hus
 obtain rfl:=H2.one1 ms
 obtain rfl:=H3.one1 ms
 obtain ⟨sa,sn,sc,rfl,hsl⟩:=H4.rowS ms
 clear H1 H2 H3 H4
 refine ⟨_,_,_,_,_,LdC [.int .u32 d0,.int .u16 d1,.slice sa sn sc] (by kernel_rfl) (by rw [show (j:Int).toNat*3=j*3 by omega];exact hcell),?_⟩
 clear hcell
 refine sNew H ?_;clear H;intro b4 w _ H
 refine sSw0 H (h:=?_);clear H;intro w _ H
 refine ⟨_,_,_,_,_,H.b0.ld,?_⟩
 refine call_j (c109 H) ?_
 clear H;rintro _ w ⟨b,rfl,H⟩
 refine ⟨_,rfl,fun _=>YN.mk H sl1 (fun _ h=>h),fun _=>?_⟩
 exact ⟨m - 1,by omega,j+1,by rw [wi64_of (by omega) (by omega)];simp,by omega,H.dr⟩
theorem c86 {L:List Sta} (H:Sat F w ex ro) (hl:Ro.deep [.row 5 (L.flatMap Sta.dat)] [.slice l L.length c]∈ro) (hn:L.length<=2000000):Calls pg 86 #[.slice l L.length c] w (YN F ex ro):=by
 apply of86
 refine ⟨fun _=>YN.mk H (by repeat (exact ak _)) (fun _ h=>h),fun _=>?_⟩
 refine ⟨fun x m w=>∃j:Nat,x=(j:Int)/\j+m=L.length/\Sat F w ex ro,⟨L.length,0,rfl,by omega,H⟩,?_⟩
 clear H;rintro dd2 x m w ⟨j,rfl,hjm,H⟩
 refine ⟨fun hc=>?_,fun _=>YN.mk H (by repeat (exact ak _)) (fun _ h=>h)⟩
 rw [ah] at hc
 have hjl:j < L.length:=by omega
 obtain ⟨p,us,e,hus,hcell,H1⟩:=H.eltF Sta.dat_lenK (by decide) hl (j:=j) hjl
 generalize L[j]=D at H1
 obtain ⟨V,d0,d1,d2,dl⟩:=D
 refine ⟨p,e,by omega,by omega,?_⟩
 obtain ⟨la,lc,rfl,H2⟩:=H1.sta5 ms
 clear H1 H2
 refine ⟨_,_,_,_,_,_,_,LdC [.bool V,.int .u16 d0,.int .u16 d1,.int .u16 d2,.slice la dl.length lc] (by kernel_rfl) (by rw [show (j:Int).toNat*5=j*5 by omega];exact hcell),?_⟩
 clear hcell
 refine sNew H ?_;clear H;intro b4 w _ H
 refine sSw0 H (h:=?_);clear H;intro w _ H
 refine ⟨_,_,_,_,_,_,_,H.b0.ld,?_⟩
 refine call_j (c110 H) ?_
 clear H;rintro _ w ⟨b,rfl,H⟩
 refine ⟨_,rfl,fun _=>YN.mk H sl1 (fun _ h=>h),fun _=>?_⟩
 exact ⟨m - 1,by omega,j+1,by rw [wi64_of (by omega) (by omega)];simp,by omega,H.dr⟩
theorem c42 (H:Sat F w ex ro) (hp:Ro.deep p.dat cells∈ro) (hs:p.size<=1100000):Calls pg 42 #[.agg cells.toArray] w (YN F ex ro):=by
 obtain ⟨a7,a8,a9,a10,a13,a14,a15,a16,a18,a24,a25,c7,c8,c9,c10,c13,c14,c15,c16,c18,c24,c25,R,rfl,hr,H,m7,m8,m9,m10,m13,m14,m15,m16,m18,m24,m25⟩:=H.pkF hp
 unfold Pk.size at hs
 have hcl:=csz_len p.chunks
 have hcm:=csz_mem p.chunks
 have hbl:=bsz_len p.blocks
 have hsl:=ssz_len p.statuses
 apply of42
 refine sNew H ?_;clear H;intro b1 w _ H
 replace H:Sat F w (.blk b1 63 (pkC p a7 a8 a9 a10 a13 a14 a15 a16 a18 a24 a25 c7 c8 c9 c10 c13 c14 c15 c16 c18 c24 c25)::ex) R:=H
 refine ⟨_,_,_,(H.b0.at0 rfl),?_⟩
 refine ⟨fun _=>YN.mk H sl1 hr,fun _=>?_⟩
 refine ⟨_,_,_,(H.b0.at0 rfl),?_⟩
 refine ⟨fun _=>YN.mk H sl1 hr,fun _=>?_⟩
 refine ⟨_,_,_,(H.b0.at0 rfl),?_⟩
 refine call_j (c84 H m9 (by omega) (fun y hy=>by have:=hcm y hy;omega)) ?_
 clear H;rintro _ w ⟨b,rfl,H⟩
 refine ⟨_,rfl,fun _=>YN.mk H sl1 hr,fun _=>?_⟩
 refine ⟨_,_,_,(H.b0.at0 rfl),?_⟩
 refine ⟨fun _=>YN.mk H sl1 hr,fun _=>?_⟩
 refine ⟨_,(H.b0.at0 rfl),?_⟩
 refine ⟨fun _=>YN.mk H sl1 hr,fun _=>?_⟩
 refine ⟨_,_,_,(H.b0.at0 rfl),?_⟩
 refine ⟨fun _=>YN.mk H sl1 hr,fun _=>?_⟩
 refine ⟨_,_,_,(H.b0.at0 rfl),?_⟩
 refine ⟨fun _=>YN.mk H sl1 hr,fun _=>?_⟩
 refine ⟨_,_,_,(H.b0.at0 rfl),?_⟩
 refine ⟨fun _=>YN.mk H sl1 hr,fun _=>?_⟩
 refine ⟨_,_,_,(H.b0.at0 rfl),?_⟩
 refine ⟨fun _=>YN.mk H sl1 hr,fun _=>?_⟩
 refine ⟨_,_,_,(H.b0.at0 rfl),?_⟩
 refine call_j (c85 H m18 (by omega)) ?_
 clear H;rintro _ w ⟨b,rfl,H⟩
 refine ⟨_,rfl,fun _=>YN.mk H sl1 hr,fun _=>?_⟩
 refine ⟨_,_,_,(H.b0.at0 rfl),?_⟩
 refine call_j (c86 H m24 (by omega)) ?_
 clear H;rintro _ w ⟨b,rfl,H⟩
 refine ⟨_,rfl,fun _=>YN.mk H sl1 hr,fun _=>?_⟩
 refine ⟨_,_,_,(H.b0.at0 rfl),?_⟩
 exact ⟨fun _=>YN.mk H sl1 hr,fun _=>YN.mk H sl1 hr⟩
theorem c16 (H:Sat F w ex ro) (hl:Ro.deep [.row 30 (L.flatMap Pk.dat)] [.slice l L.length c]∈ro) (hn:L.length<=2000000) (hs:∀p∈L,p.size<=1100000):Calls pg 16 #[.slice l L.length c] w (YN F ex ro):=by
 apply of16
 refine ⟨fun _=>YN.mk H (by repeat (exact ak _)) (fun _ h=>h),fun _=>?_⟩
 refine ⟨fun x m w=>∃j:Nat,x=(j:Int)/\j+m=L.length/\Sat F w ex ro,⟨L.length,0,rfl,by omega,H⟩,?_⟩
 clear H;rintro dd2 x m w ⟨j,rfl,hjm,H⟩
 refine ⟨fun hc=>?_,fun _=>YN.mk H (by repeat (exact ak _)) (fun _ h=>h)⟩
 rw [ah] at hc
 have hjl:j < L.length:=by omega
 obtain ⟨p,us,e,hus,hcell,H1⟩:=H.eltF Pk.dat_lenN (by decide) hl (j:=j) hjl
 have hsj:=hs L[j] (ax hjl)
 clear H
 generalize L[j]=D at H1 hsj
 obtain ⟨a7,a8,a9,a10,a13,a14,a15,a16,a18,a24,a25,c7,c8,c9,c10,c13,c14,c15,c16,c18,c24,c25,R,rfl,hr,H,_⟩:=H1.pkF ms
 clear H1
 refine ⟨p,e,by omega,by omega,?_⟩
 refine ⟨_,LdC (pkC D a7 a8 a9 a10 a13 a14 a15 a16 a18 a24 a25 c7 c8 c9 c10 c13 c14 c15 c16 c18 c24 c25) (by kernel_rfl) (by rw [show (j:Int).toNat*30=j*30 by omega];exact hcell),?_⟩
 clear hcell
 refine sNew H ?_;clear H;intro b4 w _ H
 refine sSw0 H (h:=?_);clear H;intro w _ H
 refine ⟨_,H.b0.ld,?_⟩
 refine call_j (c42 H (hr _ ms) hsj) ?_
 clear H;rintro _ w ⟨b,rfl,H⟩
 refine ⟨_,rfl,fun _=>YN.mk H sl1 (fun r h=>hr r (mt h)),fun _=>?_⟩
 exact ⟨m - 1,by omega,j+1,by rw [wi64_of (by omega) (by omega)];simp,by omega,H.dq (fun r h=>hr r (mt h))⟩
def cnI:List Itm->Option ByteArray
 | []=>none
 | i::r=>if i.1=1 then some i.2 else cnI r
def cnC:List Chk->Option ByteArray
 | []=>none
 | y::r=>match cnI y.2 with
  | some s=>some s
  | none=>cnC r
def cnV (o:Option ByteArray):Value:=.tuple #[.string (o.getD (ByteArray.mk #[])),.bool o.isSome]
theorem c69 (H:Sat F w ex ro) (hp:Ro.deep p.dat cells∈ro) (hs:p.size<=1100000):Calls pg 69 #[.agg cells.toArray] w fun en w'=>en=.returned (cnV (cnC p.chunks))/\Sat F w' ex ro:=by
 obtain ⟨a7,a8,a9,a10,a13,a14,a15,a16,a18,a24,a25,c7,c8,c9,c10,c13,c14,c15,c16,c18,c24,c25,R,rfl,hr,H,m7,m8,m9,m10,m13,m14,m15,m16,m18,m24,m25⟩:=H.pkF hp
 unfold Pk.size at hs
 have hcl:=csz_len p.chunks
 have hcm:=csz_mem p.chunks
 apply of69
 refine sNew H ?_;clear H;intro b1 w _ H
 replace H:Sat F w (.blk b1 63 (pkC p a7 a8 a9 a10 a13 a14 a15 a16 a18 a24 a25 c7 c8 c9 c10 c13 c14 c15 c16 c18 c24 c25)::ex) R:=H
 refine ⟨_,_,_,(H.b0.at0 rfl),?_⟩
 obtain ⟨ex1,hex⟩:∃ex1,ex1=(Ex.blk b1 63 (pkC p a7 a8 a9 a10 a13 a14 a15 a16 a18 a24 a25 c7 c8 c9 c10 c13 c14 c15 c16 c18 c24 c25)::ex):=⟨_,rfl⟩
 have hsub:ex.Sublist ex1:=hex▸sc1
 rw [<-hex] at H
 clear hex hp m7 m8 m10 m13 m14 m15 m16 m18 m24 m25
 refine ⟨fun x m w=>∃j:Nat,x=(j:Int)/\j+m=p.chunks.length/\cnC p.chunks=cnC (p.chunks.drop j)/\Sat F w ex1 R,⟨p.chunks.length,0,rfl,by omega,rfl,H⟩,?_⟩
 clear H;rintro dd2 x m w ⟨j,rfl,hjm,hcn,H⟩
 refine ⟨fun hc=>?_,fun hc=>?_⟩
 rotate_left
 ·rw [af] at hc
  have hn:cnC p.chunks=none:=by rw [hcn,bF (by omega)];rfl
  rw [hn]
  exact ⟨rfl,H.sub hsub hr⟩
 rw [ah] at hc
 have hjl:j < p.chunks.length:=by omega
 obtain ⟨q,us,e,hus,hcell,H1⟩:=H.eltF Chk.dat_len' (by decide) m9 (j:=j) hjl
 have hDm:=hcm p.chunks[j] (ax hjl)
 rw [bw hjl] at hcn
 clear H
 generalize p.chunks[j]=D at H1 hDm hcn
 obtain ⟨d0,mz⟩:=D
 replace hDm:mz.length<=2000000:=by have:mz.length<=csz p.chunks:=hDm;omega
 refine ⟨q,e,by omega,by omega,?_⟩
 obtain ⟨x0,us0,rfl,H2⟩:=H1.uncons ms
 obtain ⟨x1,us1,rfl,H3⟩:=H2.uncons (mt ms)
 obtain rfl:us1=[]:=by simpa using hus
 obtain rfl:=H2.one1 ms
 obtain ⟨sa,sn,sc,rfl,hsl⟩:=H3.rowS ms
 rw [flat_len Itm.dat_len] at hsl
 obtain rfl:sn=mz.length:=by omega
 refine ⟨_,_,_,_,LdC [.int .u32 d0,.slice sa mz.length sc] (by kernel_rfl) (by rw [show (j:Int).toNat*2=j*2 by omega];exact hcell),?_⟩
 have H:Sat F w _ (.deep [.row 2 (mz.flatMap Itm.dat)] [.slice sa mz.length sc]::R):=H3.sub (ak _) (fun r h=>by
  rcases aI.1 h with rfl | h
  ·exact ms
  ·simp [h])
 clear H1 H2 H3 hcell
 refine sNew H ?_;clear H;intro b4 w _ H
 refine sSw0 H (h:=?_);clear H;intro w _ H
 refine ⟨_,_,_,(H.b0.at0 rfl),?_⟩
 refine ⟨fun x n w=>∃i:Nat,x=(i:Int)/\i+n=mz.length/\cnI mz=cnI (mz.drop i)/\Sat F w (.blk b4 147 [.int .u32 d0,.slice sa mz.length sc]::ex1) (.deep [.row 2 (mz.flatMap Itm.dat)] [.slice sa mz.length sc]::R),⟨mz.length,0,rfl,by omega,rfl,H⟩,?_⟩
 clear H;rintro dd3 x n w ⟨i,rfl,him,hin,H⟩
 refine ⟨fun hc=>?_,fun hc=>?_⟩
 rotate_left
 ·rw [af] at hc
  have hn:cnI mz=none:=by rw [hin,bF (by omega)];rfl
  refine ⟨m - 1,by omega,j+1,by rw [wi64_of (by omega) (by omega)];simp,by omega,?_,H.dq (fun _ h=>mt h)⟩
  rw [hcn]
  simp only [cnC,hn]
 rw [ah] at hc
 have hil:i < mz.length:=by omega
 obtain ⟨q2,us,e2,hus,hcell,H1⟩:=H.eltF Itm.dat_len (by decide) ms (j:=i) hil
 rw [bw hil] at hin
 clear H
 generalize mz[i]=D at H1 hin
 obtain ⟨t,s⟩:=D
 refine ⟨q2,e2,by omega,by omega,?_⟩
 obtain rfl:=H1.ones (us:=[.int .u8 t,.string s]) ms
 refine ⟨_,_,LdC [.int .u8 t,.string s] (by kernel_rfl) (by rw [show (i:Int).toNat*2=i*2 by omega];exact hcell),?_⟩
 have H:=H1.sub (ak _) (fun r h=>mt h)
 clear H1 hcell
 refine sNew H ?_;clear H;intro b5 w _ H
 refine sSw0 H (h:=?_);clear H;intro w _ H
 refine ⟨_,(H.b0.at0 rfl),?_⟩
 refine ⟨fun ht=>?_,fun ht=>?_⟩
 ·have ht:t=1:=by simpa using ht
  refine ⟨_,(H.b0.at0 rfl),?_⟩
  have hc1:cnC p.chunks=some s:=by rw [hcn];simp only [cnC,hin,cnI,ht,if_true]
  rw [hc1]
  exact ⟨rfl,H.sub (by exact (hsub.trans (sc1)).trans (sc1)) (fun r h=>mt (hr r h))⟩
 ·have ht:t≠1:=by simpa using ht
  exact ⟨n - 1,by omega,i+1,by rw [wi64_of (by omega) (by omega)];simp,by omega,by rw [hin];simp only [cnI,ht,bO],H.dr⟩
theorem Sat.ne2 {u:TypeId} {l m:List Value} (H:Sat F w (.blk b t l::ex) ro) (h:Ex.blk c u m∈ex):some c≠some b:=by
 intro e
 injection e with e
 subst e
 have hnd:=H.nd
 have:foots (.blk c t l::ex)=c::foots ex:=rfl
 rw [this,List.nodup_cons] at hnd
 exact hnd.1 (mem_foots (show c∈Ex.foot (.blk c u m) by simp [Ex.foot]) h)
theorem Sat.regB {l:List Value} (H:Sat F w (.blk b t l::ex) ro) :
  ∃F2 ex2,Sat F2 w (.blk b t l::ex2) ro/\(∀{x w' ro'},Sat F2 w' (x::ex2) ro'->w.grownBy w' (some b)/\Sat F w' (x::ex) ro')/\(∀{b t cells},Ex.blk b t cells∈ex->Ex.blk b t cells∈ex2):=by
 obtain ⟨ex2,S,back,hmem⟩:=Sat.still3 (E0:=[.blk b t l]) H (some b) (by intro c hc;simp [foots,Ex.foot] at hc;rw [hc])
 exact ⟨_,ex2,S,fun {x} _ _ h=>back [x] _ _ h,fun h=>hmem _ _ _ h⟩
def zC:List Value:=pk0 0 0 0 false 0 0 0
theorem c87 (H:Sat F w ex ro) (hp:Ro.deep p.dat cells∈ro) (lo:0<=p.kind) (hi:p.kind<=12):Calls pg 87 #[.agg cells.toArray] w (PlPost F ex ro p):=by
 obtain ⟨a7,a8,a9,a10,a13,a14,a15,a16,a18,a24,a25,c7,c8,c9,c10,c13,c14,c15,c16,c18,c24,c25,R,rfl,hr,H,m7,m8,m9,m10,m13,m14,m15,m16,m18,m24,m25⟩:=H.pkF hp
 apply of87
 refine sNew H ?_;clear H;intro b1 w _ H
 replace H:Sat F w (.blk b1 63 (pkC p a7 a8 a9 a10 a13 a14 a15 a16 a18 a24 a25 c7 c8 c9 c10 c13 c14 c15 c16 c18 c24 c25)::ex) R:=H
 refine sNew H ?_;clear H;intro b3 w _ H
 replace H:Sat F w (.blk b3 63 zC::.blk b1 63 (pkC p a7 a8 a9 a10 a13 a14 a15 a16 a18 a24 a25 c7 c8 c9 c10 c13 c14 c15 c16 c18 c24 c25)::ex) R:=H
 refine ⟨_,(H.b1.at0 rfl),?_⟩
 refine ⟨_,(H.b1.at0 rfl),?_⟩
 refine sNew H ?_;clear H;intro b7 w _ H
 refine sSw0 H (h:=?_);clear H;intro w _ H
 replace H:Sat F w (.blk b7 63 (pk0 p.kind p.sender 0 false 0 0 0)::.blk b3 63 zC::.blk b1 63 (pkC p a7 a8 a9 a10 a13 a14 a15 a16 a18 a24 a25 c7 c8 c9 c10 c13 c14 c15 c16 c18 c24 c25)::ex) R:=H
 refine ⟨fun _ w=>∃cs,Sat F w (.blk b7 63 cs::.blk b3 63 zC::.blk b1 63 (pkC p a7 a8 a9 a10 a13 a14 a15 a16 a18 a24 a25 c7 c8 c9 c10 c13 c14 c15 c16 c18 c24 c25)::ex) (.deep (trim p).dat cs::R)/\cs.length=30/\cs.all Value.oneCell'=true,?_,?_⟩
 ·refine ⟨_,(H.b2.at0 rfl),?_⟩
  have hkk:p.kind=0\/p.kind=1\/p.kind=2\/p.kind=3\/p.kind=4\/p.kind=5\/p.kind=6\/p.kind=7\/p.kind=8\/p.kind=9\/p.kind=10\/p.kind=11\/p.kind=12:=by omega
  rcases hkk with hk | hk | hk | hk | hk | hk | hk | hk | hk | hk | hk | hk | hk
  ·have ht:trim p={ data:=p.data }:=by unfold trim;simp [hk]
   rw [hk]
   refine fT ?_
   refine ⟨_,_,_,(H.b2.at0 rfl),?_⟩
   refine sSw1 H (h:=?_);clear H;intro w _ H
   refine ⟨_,H.b1.ld,?_⟩
   refine PlPost.mk (cells:=pk0 0 0 0 false 0 0 0 |>.set 13 (.slice a13 p.data.length c13)) H sl1 hr (fun G h=>?_)
   rw [ht]
   repeat (first | exact DeepL.nil _ _ | refine dc (Deep.emp _ _) ?_ | refine dc (Deep.one _) ?_ | refine dc (h (.deep [_] [_]) (by assumption)).head ?_)
  ·have ht:trim p={ kind:=1,sender:=p.sender,ntp:=p.ntp,rtp:=p.rtp,packets:=p.packets,octets:=p.octets,reports:=p.reports,ext:=p.ext }:=by unfold trim;simp [hk]
   rw [hk] at H ⊢
   refine fF ?_
   refine fT ?_
   refine ⟨some b7,?_⟩
   replace H:=H.drew
   generalize w.drew=w at H ⊢
   obtain ⟨F2,ex2,S,back,hm⟩:=H.regB
   have n1:=S.ne2 (hm (mt ms))
   refine ⟨n1,H.b2.row,_,(H.b2.at0 rfl),?_⟩
   refine ⟨n1,H.b2.row,_,(H.b2.at0 rfl),?_⟩
   refine ⟨n1,H.b2.row,_,(H.b2.at0 rfl),?_⟩
   refine ⟨n1,H.b2.row,_,(H.b2.at0 rfl),?_⟩
   refine ⟨n1,H.b2.row,_,_,_,(H.b2.at0 rfl),?_⟩
   refine ⟨n1,H.b2.row,_,_,_,(H.b2.at0 rfl),?_⟩
   clear H;have H:=S;clear S
   refine sSt0 H (h:=?_);clear H;intro w _ H
   refine ⟨(back H).1,?_⟩
   refine sSt0 H (h:=?_);clear H;intro w _ H
   refine ⟨(back H).1,?_⟩
   refine sSt0 H (h:=?_);clear H;intro w _ H
   refine ⟨(back H).1,?_⟩
   refine sSt0 H (h:=?_);clear H;intro w _ H
   refine ⟨(back H).1,?_⟩
   refine sSt0 H (h:=?_);clear H;intro w _ H
   refine ⟨(back H).1,?_⟩
   refine sSt0 H (h:=?_);clear H;intro w _ H
   refine ⟨_,(back H).2.addD (fun G h=>?_),rfl,rfl⟩
   rw [ht]
   repeat (first | exact DeepL.nil _ _ | refine dc (Deep.emp _ _) ?_ | refine dc (Deep.one _) ?_ | refine dc (h (.deep [_] [_]) (by assumption)).head ?_)
  ·have ht:trim p={ kind:=2,sender:=p.sender,reports:=p.reports,ext:=p.ext }:=by unfold trim;simp [hk]
   rw [hk] at H ⊢
   refine fF ?_
   refine fF ?_
   refine fT ?_
   refine ⟨some b7,?_⟩
   replace H:=H.drew
   generalize w.drew=w at H ⊢
   obtain ⟨F2,ex2,S,back,hm⟩:=H.regB
   have n1:=S.ne2 (hm (mt ms))
   refine ⟨n1,H.b2.row,_,_,_,(H.b2.at0 rfl),?_⟩
   refine ⟨n1,H.b2.row,_,_,_,(H.b2.at0 rfl),?_⟩
   clear H;have H:=S;clear S
   refine sSt0 H (h:=?_);clear H;intro w _ H
   refine ⟨(back H).1,?_⟩
   refine sSt0 H (h:=?_);clear H;intro w _ H
   refine ⟨_,(back H).2.addD (fun G h=>?_),rfl,rfl⟩
   rw [ht]
   repeat (first | exact DeepL.nil _ _ | refine dc (Deep.emp _ _) ?_ | refine dc (Deep.one _) ?_ | refine dc (h (.deep [_] [_]) (by assumption)).head ?_)
  ·have ht:trim p={ kind:=3,chunks:=p.chunks }:=by unfold trim;simp [hk]
   rw [hk] at H ⊢
   refine fF ?_
   refine fF ?_
   refine fF ?_
   refine fT ?_
   refine ⟨some b7,?_⟩
   replace H:=H.drew
   generalize w.drew=w at H ⊢
   obtain ⟨F2,ex2,S,back,hm⟩:=H.regB
   have n1:=S.ne2 (hm (mt ms))
   refine ⟨n1,H.b2.row,_,_,_,(H.b2.at0 rfl),?_⟩
   clear H;have H:=S;clear S
   refine sSt0 H (h:=?_);clear H;intro w _ H
   refine ⟨(back H).1,?_⟩
   refine sSt0 H (h:=?_);clear H;intro w _ H
   refine ⟨_,(back H).2.addD (fun G h=>?_),rfl,rfl⟩
   rw [ht]
   repeat (first | exact DeepL.nil _ _ | refine dc (Deep.emp _ _) ?_ | refine dc (Deep.one _) ?_ | refine dc (h (.deep [_] [_]) (by assumption)).head ?_)
  ·have ht:trim p={ kind:=4,sources:=p.sources,text:=p.text }:=by unfold trim;simp [hk]
   rw [hk] at H ⊢
   refine fF ?_
   refine fF ?_
   refine fF ?_
   refine fF ?_
   refine fT ?_
   refine ⟨some b7,?_⟩
   replace H:=H.drew
   generalize w.drew=w at H ⊢
   obtain ⟨F2,ex2,S,back,hm⟩:=H.regB
   have n1:=S.ne2 (hm (mt ms))
   refine ⟨n1,H.b2.row,_,_,_,(H.b2.at0 rfl),?_⟩
   refine ⟨n1,H.b2.row,_,(H.b2.at0 rfl),?_⟩
   clear H;have H:=S;clear S
   refine sSt0 H (h:=?_);clear H;intro w _ H
   refine ⟨(back H).1,?_⟩
   refine sSt0 H (h:=?_);clear H;intro w _ H
   refine ⟨(back H).1,?_⟩
   refine sSt0 H (h:=?_);clear H;intro w _ H
   refine ⟨_,(back H).2.addD (fun G h=>?_),rfl,rfl⟩
   rw [ht]
   repeat (first | exact DeepL.nil _ _ | refine dc (Deep.emp _ _) ?_ | refine dc (Deep.one _) ?_ | refine dc (h (.deep [_] [_]) (by assumption)).head ?_)
  ·have ht:trim p={ kind:=5,sender:=p.sender,text:=p.text,sub:=p.sub,data:=p.data }:=by unfold trim;simp [hk]
   rw [hk] at H ⊢
   refine fF ?_
   refine fF ?_
   refine fF ?_
   refine fF ?_
   refine fF ?_
   refine fT ?_
   refine ⟨some b7,?_⟩
   replace H:=H.drew
   generalize w.drew=w at H ⊢
   obtain ⟨F2,ex2,S,back,hm⟩:=H.regB
   have n1:=S.ne2 (hm (mt ms))
   refine ⟨n1,H.b2.row,_,(H.b2.at0 rfl),?_⟩
   refine ⟨n1,H.b2.row,_,(H.b2.at0 rfl),?_⟩
   refine ⟨n1,H.b2.row,_,_,_,(H.b2.at0 rfl),?_⟩
   clear H;have H:=S;clear S
   refine sSt0 H (h:=?_);clear H;intro w _ H
   refine ⟨(back H).1,?_⟩
   refine sSt0 H (h:=?_);clear H;intro w _ H
   refine ⟨(back H).1,?_⟩
   refine sSt0 H (h:=?_);clear H;intro w _ H
   refine ⟨_,(back H).2.addD (fun G h=>?_),rfl,rfl⟩
   rw [ht]
   repeat (first | exact DeepL.nil _ _ | refine dc (Deep.emp _ _) ?_ | refine dc (Deep.one _) ?_ | refine dc (h (.deep [_] [_]) (by assumption)).head ?_)
  ·have ht:trim p={ kind:=6,sender:=p.sender,media:=p.media,pairs:=p.pairs }:=by unfold trim;simp [hk]
   rw [hk] at H ⊢
   refine fF ?_
   refine fF ?_
   refine fF ?_
   refine fF ?_
   refine fF ?_
   refine fF ?_
   refine fT ?_
   refine ⟨some b7,?_⟩
   replace H:=H.drew
   generalize w.drew=w at H ⊢
   obtain ⟨F2,ex2,S,back,hm⟩:=H.regB
   have n1:=S.ne2 (hm (mt ms))
   refine ⟨n1,H.b2.row,_,(H.b2.at0 rfl),?_⟩
   refine ⟨n1,H.b2.row,_,_,_,(H.b2.at0 rfl),?_⟩
   clear H;have H:=S;clear S
   refine sSt0 H (h:=?_);clear H;intro w _ H
   refine ⟨(back H).1,?_⟩
   refine sSt0 H (h:=?_);clear H;intro w _ H
   refine ⟨_,(back H).2.addD (fun G h=>?_),rfl,rfl⟩
   rw [ht]
   repeat (first | exact DeepL.nil _ _ | refine dc (Deep.emp _ _) ?_ | refine dc (Deep.one _) ?_ | refine dc (h (.deep [_] [_]) (by assumption)).head ?_)
  ·have ht:trim p={ kind:=7,sender:=p.sender,media:=p.media }:=by unfold trim;simp [hk]
   rw [hk] at H ⊢
   refine fF ?_
   refine fF ?_
   refine fF ?_
   refine fF ?_
   refine fF ?_
   refine fF ?_
   refine fF ?_
   refine ⟨fun b _ w=>b=true/\Sat F w (.blk b7 63 (pk0 7 p.sender 0 false 0 0 0)::.blk b3 63 zC::.blk b1 63 (pkC p a7 a8 a9 a10 a13 a14 a15 a16 a18 a24 a25 c7 c8 c9 c10 c13 c14 c15 c16 c18 c24 c25)::ex) R,⟨fun hc=>⟨(by decide),H⟩,fun hc=>⟨(by exact absurd hc (by decide)),H⟩⟩,?_⟩
   clear H;rintro ddj bj w ⟨rfl,H⟩
   refine fT ?_
   refine ⟨_,(H.b2.at0 rfl),?_⟩
   refine sSt0 H (h:=?_);clear H;intro w _ H
   refine ⟨_,H.addD (fun G h=>?_),rfl,rfl⟩
   rw [ht]
   repeat (first | exact DeepL.nil _ _ | refine dc (Deep.emp _ _) ?_ | refine dc (Deep.one _) ?_)
  ·have ht:trim p={ kind:=8,sender:=p.sender,blocks:=p.blocks,time:=p.time }:=by unfold trim;simp [hk]
   rw [hk] at H ⊢
   refine fF ?_
   refine fF ?_
   refine fF ?_
   refine fF ?_
   refine fF ?_
   refine fF ?_
   refine fF ?_
   refine ⟨fun b _ w=>b=false/\Sat F w (.blk b7 63 (pk0 8 p.sender 0 false 0 0 0)::.blk b3 63 zC::.blk b1 63 (pkC p a7 a8 a9 a10 a13 a14 a15 a16 a18 a24 a25 c7 c8 c9 c10 c13 c14 c15 c16 c18 c24 c25)::ex) R,⟨fun hc=>⟨(by decide),H⟩,fun hc=>⟨(by decide),H⟩⟩,?_⟩
   clear H;rintro ddj bj w ⟨rfl,H⟩
   refine fF ?_
   refine fF ?_
   refine fF ?_
   refine fF ?_
   refine fT ?_
   refine ⟨some b7,?_⟩
   replace H:=H.drew
   generalize w.drew=w at H ⊢
   obtain ⟨F2,ex2,S,back,hm⟩:=H.regB
   have n1:=S.ne2 (hm (mt ms))
   refine ⟨n1,H.b2.row,_,_,_,(H.b2.at0 rfl),?_⟩
   refine ⟨n1,H.b2.row,_,(H.b2.at0 rfl),?_⟩
   clear H;have H:=S;clear S
   refine sSt0 H (h:=?_);clear H;intro w _ H
   refine ⟨(back H).1,?_⟩
   refine sSt0 H (h:=?_);clear H;intro w _ H
   refine ⟨_,(back H).2.addD (fun G h=>?_),rfl,rfl⟩
   rw [ht]
   repeat (first | exact DeepL.nil _ _ | refine dc (Deep.emp _ _) ?_ | refine dc (Deep.one _) ?_ | refine dc (h (.deep [_] [_]) (by assumption)).head ?_)
  ·have ht:trim p={ kind:=9,sender:=p.sender,media:=p.media }:=by unfold trim;simp [hk]
   rw [hk] at H ⊢
   refine fF ?_
   refine fF ?_
   refine fF ?_
   refine fF ?_
   refine fF ?_
   refine fF ?_
   refine fF ?_
   refine ⟨fun b _ w=>b=true/\Sat F w (.blk b7 63 (pk0 9 p.sender 0 false 0 0 0)::.blk b3 63 zC::.blk b1 63 (pkC p a7 a8 a9 a10 a13 a14 a15 a16 a18 a24 a25 c7 c8 c9 c10 c13 c14 c15 c16 c18 c24 c25)::ex) R,⟨fun hc=>⟨(by exact absurd hc (by decide)),H⟩,fun hc=>⟨(by decide),H⟩⟩,?_⟩
   clear H;rintro ddj bj w ⟨rfl,H⟩
   refine fT ?_
   refine ⟨_,(H.b2.at0 rfl),?_⟩
   refine sSt0 H (h:=?_);clear H;intro w _ H
   refine ⟨_,H.addD (fun G h=>?_),rfl,rfl⟩
   rw [ht]
   repeat (first | exact DeepL.nil _ _ | refine dc (Deep.emp _ _) ?_ | refine dc (Deep.one _) ?_)
  ·have ht:trim p={ kind:=10,sender:=p.sender,media:=p.media,slices:=p.slices }:=by unfold trim;simp [hk]
   rw [hk] at H ⊢
   refine fF ?_
   refine fF ?_
   refine fF ?_
   refine fF ?_
   refine fF ?_
   refine fF ?_
   refine fF ?_
   refine ⟨fun b _ w=>b=false/\Sat F w (.blk b7 63 (pk0 10 p.sender 0 false 0 0 0)::.blk b3 63 zC::.blk b1 63 (pkC p a7 a8 a9 a10 a13 a14 a15 a16 a18 a24 a25 c7 c8 c9 c10 c13 c14 c15 c16 c18 c24 c25)::ex) R,⟨fun hc=>⟨(by decide),H⟩,fun hc=>⟨(by decide),H⟩⟩,?_⟩
   clear H;rintro ddj bj w ⟨rfl,H⟩
   refine fF ?_
   refine fT ?_
   refine ⟨some b7,?_⟩
   replace H:=H.drew
   generalize w.drew=w at H ⊢
   obtain ⟨F2,ex2,S,back,hm⟩:=H.regB
   have n1:=S.ne2 (hm (mt ms))
   refine ⟨n1,H.b2.row,_,(H.b2.at0 rfl),?_⟩
   refine ⟨n1,H.b2.row,_,_,_,(H.b2.at0 rfl),?_⟩
   clear H;have H:=S;clear S
   refine sSt0 H (h:=?_);clear H;intro w _ H
   refine ⟨(back H).1,?_⟩
   refine sSt0 H (h:=?_);clear H;intro w _ H
   refine ⟨_,(back H).2.addD (fun G h=>?_),rfl,rfl⟩
   rw [ht]
   repeat (first | exact DeepL.nil _ _ | refine dc (Deep.emp _ _) ?_ | refine dc (Deep.one _) ?_ | refine dc (h (.deep [_] [_]) (by assumption)).head ?_)
  ·have ht:trim p={ kind:=11,sender:=p.sender,media:=p.media,entries:=p.entries }:=by unfold trim;simp [hk]
   rw [hk] at H ⊢
   refine fF ?_
   refine fF ?_
   refine fF ?_
   refine fF ?_
   refine fF ?_
   refine fF ?_
   refine fF ?_
   refine ⟨fun b _ w=>b=false/\Sat F w (.blk b7 63 (pk0 11 p.sender 0 false 0 0 0)::.blk b3 63 zC::.blk b1 63 (pkC p a7 a8 a9 a10 a13 a14 a15 a16 a18 a24 a25 c7 c8 c9 c10 c13 c14 c15 c16 c18 c24 c25)::ex) R,⟨fun hc=>⟨(by decide),H⟩,fun hc=>⟨(by decide),H⟩⟩,?_⟩
   clear H;rintro ddj bj w ⟨rfl,H⟩
   refine fF ?_
   refine fF ?_
   refine fT ?_
   refine ⟨some b7,?_⟩
   replace H:=H.drew
   generalize w.drew=w at H ⊢
   obtain ⟨F2,ex2,S,back,hm⟩:=H.regB
   have n1:=S.ne2 (hm (mt ms))
   refine ⟨n1,H.b2.row,_,(H.b2.at0 rfl),?_⟩
   refine ⟨n1,H.b2.row,_,_,_,(H.b2.at0 rfl),?_⟩
   clear H;have H:=S;clear S
   refine sSt0 H (h:=?_);clear H;intro w _ H
   refine ⟨(back H).1,?_⟩
   refine sSt0 H (h:=?_);clear H;intro w _ H
   refine ⟨_,(back H).2.addD (fun G h=>?_),rfl,rfl⟩
   rw [ht]
   repeat (first | exact DeepL.nil _ _ | refine dc (Deep.emp _ _) ?_ | refine dc (Deep.one _) ?_ | refine dc (h (.deep [_] [_]) (by assumption)).head ?_)
  ·have ht:trim p={ kind:=12,sender:=p.sender,bits:=p.bits,sources:=p.sources }:=by unfold trim;simp [hk]
   rw [hk] at H ⊢
   refine fF ?_
   refine fF ?_
   refine fF ?_
   refine fF ?_
   refine fF ?_
   refine fF ?_
   refine fF ?_
   refine ⟨fun b _ w=>b=false/\Sat F w (.blk b7 63 (pk0 12 p.sender 0 false 0 0 0)::.blk b3 63 zC::.blk b1 63 (pkC p a7 a8 a9 a10 a13 a14 a15 a16 a18 a24 a25 c7 c8 c9 c10 c13 c14 c15 c16 c18 c24 c25)::ex) R,⟨fun hc=>⟨(by decide),H⟩,fun hc=>⟨(by decide),H⟩⟩,?_⟩
   clear H;rintro ddj bj w ⟨rfl,H⟩
   refine fF ?_
   refine fF ?_
   refine fF ?_
   refine fT ?_
   refine ⟨some b7,?_⟩
   replace H:=H.drew
   generalize w.drew=w at H ⊢
   obtain ⟨F2,ex2,S,back,hm⟩:=H.regB
   have n1:=S.ne2 (hm (mt ms))
   refine ⟨n1,H.b2.row,_,(H.b2.at0 rfl),?_⟩
   refine ⟨n1,H.b2.row,_,_,_,(H.b2.at0 rfl),?_⟩
   clear H;have H:=S;clear S
   refine sSt0 H (h:=?_);clear H;intro w _ H
   refine ⟨(back H).1,?_⟩
   refine sSt0 H (h:=?_);clear H;intro w _ H
   refine ⟨_,(back H).2.addD (fun G h=>?_),rfl,rfl⟩
   rw [ht]
   repeat (first | exact DeepL.nil _ _ | refine dc (Deep.emp _ _) ?_ | refine dc (Deep.one _) ?_ | refine dc (h (.deep [_] [_]) (by assumption)).head ?_)
 ·clear H;rintro dd w ⟨cs,H,hl,h1⟩
  refine ⟨_,Ld0 rfl H.b0 (by rw [hl];kernel_rfl),?_⟩
  replace H:=H.r1
  refine sSw0 H rfl (by rw [hl];kernel_rfl) (by rw [hl];rfl) h1 ?_
  clear H;intro w _ H
  refine ⟨_,Ld0 rfl H.b0 (by rw [hl];kernel_rfl),?_⟩
  exact PlPost.mk H sl1 (fun r h=>mt (hr r h)) (fun G h=>h (.deep _ _) ms)
theorem n16_b (v:Int) (r:List Int):n16 (b16 v++r)=v:=by
 show v / 256*256+v % 256=v
 omega
theorem n32_b (v:Int) (r:List Int):n32 (b32 v++r)=v:=by
 show (v / 16777216*256+v / 65536 % 256)*65536+(v / 256 % 256*256+v % 256)=v
 omega
theorem n64_b (v:Int) (r:List Int):n64 (b64 v++r)=v:=by
 have e:b64 v++r=b32 (v / 4294967296)++(b32 (v % 4294967296)++r):=by unfold b64;rw [an]
 rw [e]
 show n32 (b32 (v / 4294967296)++(b32 (v % 4294967296)++r))*4294967296+n32 (b32 (v % 4294967296)++r)=v
 rw [n32_b,n32_b];omega
theorem drop_b (r:List Int) (h:A.length=n):(A++r).drop n=r:=List.drop_left' h
theorem rep1_w (x:Rep) (r:List Int):rep1 (wRep x++r)=x:=by
 obtain ⟨a,b,c,d,e,f,g⟩:=x
 simp only [wRep,an]
 show (n32 (b32 a++_),b,c / 65536*65536+c / 256 % 256*256+c % 256,n32 (b32 d++_),n32 (b32 e++_),n32 (b32 f++_),n32 (b32 g++_))=_
 rw [n32_b,n32_b,n32_b,n32_b,n32_b,show c / 65536*65536+c / 256 % 256*256+c % 256=c by omega]
theorem reps_w:∀(L:List Rep) (r:List Int),reps L.length (L.flatMap wRep++r)=L
 | [],_=>rfl
 | x::l,r=>by
  rw [av,an]
  show rep1 _::reps l.length ((wRep x++(l.flatMap wRep++r)).drop 24)=_
  rw [rep1_w,drop_b _ (wRep_len x),reps_w l r]
theorem words_w:∀(L:List Int) (r:List Int),words L.length (L.flatMap b32++r)=L
 | [],_=>rfl
 | x::l,r=>by
  rw [av,an]
  show n32 _::words l.length ((b32 x++(l.flatMap b32++r)).drop 4)=_
  rw [n32_b,drop_b _ (b32_len x),words_w l r]
theorem pairsL_w:∀(L:List Par) (r:List Int),pairsL L.length (L.flatMap wPar++r)=L
 | [],_=>rfl
 | x::l,r=>by
  rw [av,an]
  obtain ⟨a,b⟩:=x
  show (n16 (b16 a++_),n16 (b16 b++_))::pairsL l.length ((wPar (a,b)++(l.flatMap wPar++r)).drop 4)=_
  rw [n16_b,n16_b,drop_b _ (wPar_len _),pairsL_w l r]
theorem sliceL_w:∀(L:List Sli) (r:List Int),(∀x∈L,(0<=x.1/\x.1 < 8192)/\(0<=x.2.1/\x.2.1 < 8192)/\0<=x.2.2/\x.2.2 < 64)->sliceL L.length (L.flatMap wSli++r)=L
 | [],_,_=>rfl
 | x::l,r,h=>by
  have ih:=sliceL_w l r fun y hy=>h y (mt hy)
  have hx:=h x ms
  rw [av,an]
  obtain ⟨a,b,c⟩:=x
  show (n32 (b32 (a*524288+b*64+c)++_) / 524288,n32 (b32 (a*524288+b*64+c)++_) / 64 % 8192,n32 (b32 (a*524288+b*64+c)++_) % 64)::sliceL l.length ((wSli (a,b,c)++(l.flatMap wSli++r)).drop 4)=_
  simp only at hx
  rw [n32_b,drop_b _ (wSli_len _),ih,show (a*524288+b*64+c) / 524288=a by omega,show (a*524288+b*64+c) / 64 % 8192=b by omega,show (a*524288+b*64+c) % 64=c by omega]
theorem entryL_w:∀(L:List Ent),entryL L.length (L.flatMap wEnt)=some L
 | []=>rfl
 | x::l=>by
  obtain ⟨a,b⟩:=x
  rw [av]
  show (if (0:Int)*65536+0*256+0≠0 then none else (entryL l.length ((wEnt (a,b)++l.flatMap wEnt).drop 8)).map fun r=>(n32 (b32 a++_),b)::r)=_
  rw [ap (by decide),drop_b _ (wEnt_len _),entryL_w l,n32_b]
  rfl
theorem met1_w {m:Met} (h:MetR m):met1 (metN m)=m:=by
 obtain ⟨a,b,c⟩:=m
 obtain ⟨hb,hc⟩:(0<=b/\b < 4)/\0<=c/\c < 8192:=h
 unfold met1 metN
 cases a with
 | false=>
  simp only [be,bO]
  rw [show ((0:Int)*32768+b*8192+c) / 32768=0 by omega,show ((0:Int)*32768+b*8192+c) / 8192 % 4=b by omega,show ((0:Int)*32768+b*8192+c) % 8192=c by omega]
  rfl
 | true=>
  simp only [if_true]
  rw [show ((1:Int)*32768+b*8192+c) / 32768=1 by omega,show ((1:Int)*32768+b*8192+c) / 8192 % 4=b by omega,show ((1:Int)*32768+b*8192+c) % 8192=c by omega]
  rfl
theorem metN_f {m:Met} (h:MetR m) (hf:MetF m):¬(metN m / 32768≠1/\metN m≠0):=by
 obtain ⟨a,b,c⟩:=m
 obtain ⟨hb,hc⟩:(0<=b/\b < 4)/\0<=c/\c < 8192:=h
 unfold metN
 rcases hf with rfl | ⟨h1,h2⟩
 ·simp only [if_true];omega
 ·simp only at h1 h2
  subst h1;subst h2
  cases a<;>decide
theorem metsL_w:∀(L:List Met) (r:List Int),(∀m∈L,MetR m)->(∀m∈L,MetF m)->metsL L.length (L.flatMap wMet++r)=some L
 | [],_,_,_=>rfl
 | x::l,r,h,hf=>by
  have ih:=metsL_w l r (fun y hy=>h y (mt hy)) (fun y hy=>hf y (mt hy))
  rw [av,an]
  show (if n16 (b16 (metN x)++_) / 32768≠1/\n16 (b16 (metN x)++_)≠0 then none else (metsL l.length ((wMet x++(l.flatMap wMet++r)).drop 2)).map fun q=>met1 (n16 (b16 (metN x)++_))::q)=_
  rw [n16_b,ap (metN_f (h x ms) (hf x ms)),drop_b _ (wMet_len x),ih,met1_w (h x ms)]
  rfl
theorem blocksL_w:∀(L:List Blo) (f:Nat) (ys:List Int),L.length < f->(∀y∈L,BloR y)->(∀y∈L,∀m∈y.2.2,MetF m)->ys.length=4->blocksL f (L.flatMap wBlo++ys)=some (L,ys)
 | [],f+1,ys,_,_,_,hy=>by
  unfold blocksL
  rw [aG (by rw [aD,bI];omega)];rfl
 | x::l,f+1,ys,hf,h,hm,hy=>by
  have ih:=blocksL_w l f ys (by rw [aA] at hf;omega) (fun y hy=>h y (mt hy)) (fun y hy=>hm y (mt hy)) hy
  have hx:=h x ms
  have hmx:=hm x ms
  have hlen:=wBlo_len x
  obtain ⟨a,b,msz⟩:=x
  obtain ⟨ha,hb,hn,hM⟩:u32R a/\(0<=b/\b < 65536)/\msz.length<=16384/\∀m∈msz,MetR m:=hx
  simp only at hmx hlen
  rw [av,an]
  obtain ⟨R,hR⟩:∃R,R=l.flatMap wBlo++ys:=⟨_,rfl⟩
  rw [<-hR] at ih ⊢
  have hRl:4<=R.length:=by rw [hR,ae];omega
  have e1:wBlo (a,b,msz)++R=b32 a++(b16 b++(b16 (msz.length:Int)++(msz.flatMap wMet++(List.replicate (2*(msz.length % 2)) 0++R)))):=by
   simp only [wBlo,an]
  have e2:(wBlo (a,b,msz)++R).length=bLen msz.length+R.length:=by rw [ae,hlen]
  have e3:n16 ((wBlo (a,b,msz)++R).drop 6)=(msz.length:Int):=by rw [e1];exact n16_b _ _
  have e4:(wBlo (a,b,msz)++R).drop 8=msz.flatMap wMet++(List.replicate (2*(msz.length % 2)) 0++R):=by rw [e1];rfl
  have e5:(wBlo (a,b,msz)++R).drop (8+2*msz.length)=List.replicate (2*(msz.length % 2)) 0++R:=by
   rw [<-aJ,e4]
   exact drop_b _ (flat_bd wMet_len msz)
  have e6:(wBlo (a,b,msz)++R).drop (8+2*(msz.length+msz.length % 2))=R:=drop_b _ hlen
  have e7:n32 (wBlo (a,b,msz)++R)=a:=by rw [e1];exact n32_b _ _
  have e8:n16 ((wBlo (a,b,msz)++R).drop 4)=b:=by rw [e1];exact n16_b _ _
  unfold blocksL
  simp only [e3,e7,e8,au]
  rw [e2,ap (by unfold bLen;omega),ap (by unfold bLen;omega),ap (by unfold bLen;omega),e4,metsL_w msz _ hM hmx]
  simp only
  rw [e5,ap,e6,ih]
  ·rfl
  ·rintro ⟨h1,h2⟩
   rw [h1] at h2
   exact h2 rfl
theorem items_w:∀(l:List Itm) (pre r:List Int) (f:Nat),l.length < f->(∀i∈l,ItmR i)->items (pre++(l.flatMap wItm++(0::r))) f pre.length=some (l,pre.length+itLen l+1)
 | [],pre,r,f+1,_,_=>by
  have h0:(pre++([].flatMap wItm++(0::r))).getD pre.length 0=0:=by rw [List.getD,bU (aN _)];simp
  unfold items
  rw [ap (by simp),aG h0]
  rfl
 | x::l,pre,r,f+1,hf,h=>by
  obtain ⟨ht,hs⟩:=h x ms
  obtain ⟨t,s⟩:=x
  simp only at ht hs
  have hl:=sbs_len s
  have ih:=items_w l (pre++([t,(s.size:Int)]++sbs s)) r f (by rw [aA] at hf;omega) (fun i hi=>h i (mt hi))
  have e1:pre++(((t,s)::l).flatMap wItm++(0::r))=(pre++([t,(s.size:Int)]++sbs s))++(l.flatMap wItm++(0::r)):=by
   simp only [av,wItm,an]
  have e2:(pre++([t,(s.size:Int)]++sbs s)).length=pre.length+2+s.size:=by
   simp only [ae,aA,ay,hl];omega
  rw [e2] at ih
  rw [e1]
  obtain ⟨X,hX⟩:∃X,X=(pre++([t,(s.size:Int)]++sbs s))++(l.flatMap wItm++(0::r)):=⟨_,rfl⟩
  have e3:X=pre++(t::(s.size:Int)::(sbs s++(l.flatMap wItm++(0::r)))):=by rw [hX];simp
  have g0:X.getD pre.length 0=t:=by rw [e3,List.getD,bU (aN _)];simp
  have g1:X.getD (pre.length+1) 0=(s.size:Int):=by rw [e3,List.getD,bU (by omega),show pre.length+1 - pre.length=1 by omega];simp
  have hXl:pre.length+2+s.size < X.length:=by rw [hX,ae,e2,ae,aA];omega
  have g2:(X.drop (pre.length+2)).take s.size=sbs s:=by
   rw [e3,List.drop_append,show pre.length+2 - pre.length=2 by omega,List.drop_eq_nil_of_le (by omega),bI]
   show (sbs s++_).take s.size=_
   rw [ce hl]
  rw [<-hX] at ih ⊢
  unfold items
  rw [g0,g1,au,ap (by omega),ap ht,ap (by omega),ap (by omega),ih,g2,strOf_sbs]
  simp only [aU,itLen,aX,bP]
  congr 2
  omega
theorem zeros_w (r:List Int):∀(k f:Nat) (pre:List Int),pad4 pre.length=k->k<=f->zeros (pre++(List.replicate k 0++r)) f pre.length=some (pre.length+k)
 | 0,f,pre,h,_=>by
  have h4:pre.length % 4=0:=by unfold pad4 at h;omega
  cases f<;>(unfold zeros;rw [aG h4];rfl)
 | k+1,f+1,pre,h,hf=>by
  have h4:¬pre.length % 4=0:=by unfold pad4 at h;omega
  have ih:=zeros_w r k f (pre++[0]) (by rw [ae];unfold pad4 at h ⊢;simp only [aA,ay];omega) (by omega)
  have e1:pre++(List.replicate (k+1) 0++r)=(pre++[0])++(List.replicate k 0++r):=by rw [List.replicate_succ];simp
  have g0:(pre++(List.replicate (k+1) 0++r)).getD pre.length 0=0:=by rw [List.getD,bU (aN _),List.replicate_succ];simp
  unfold zeros
  rw [ap h4,ap (by rw [ae,ae,bi];omega),aG g0,e1]
  rw [ae] at ih
  rw [show pre.length+1=pre.length+[(0:Int)].length from rfl,ih]
  simp only [aA,ay]
  congr 1
  omega
theorem chks_w:∀(L:List Chk),(∀y∈L,ChkR y)->chks L.length (L.flatMap wChk)=some L
 | [],_=>rfl
 | x::l,h=>by
  have ih:=chks_w l fun y hy=>h y (mt hy)
  obtain ⟨_,hI⟩:=h x ms
  have hlen:=wChk_len x
  obtain ⟨s,is⟩:=x
  simp only at hI hlen
  have hil:=itLen_le is
  rw [av]
  obtain ⟨R,hR⟩:∃R,R=l.flatMap wChk:=⟨_,rfl⟩
  rw [<-hR] at ih ⊢
  have hp:(b32 s++is.flatMap wItm++[0]).length=4+itLen is+1:=by
   simp only [ae,b32_len,wItm_it,aA,ay]
  have e0:wChk (s,is)=(b32 s++is.flatMap wItm++[0])++List.replicate (pad4 (4+itLen is+1)) 0:=by
   simp only [wChk,hp]
  have e1:wChk (s,is)++R=b32 s++(is.flatMap wItm++(0::(List.replicate (pad4 (4+itLen is+1)) 0++R))):=by rw [e0];simp
  have e2:wChk (s,is)++R=(b32 s++is.flatMap wItm++[0])++(List.replicate (pad4 (4+itLen is+1)) 0++R):=by rw [e0,an]
  have hX:(wChk (s,is)++R).length=up4 (4+itLen is+1)+R.length:=by rw [ae,hlen]
  have h1:items (wChk (s,is)++R) (wChk (s,is)++R).length 4=some (is,4+itLen is+1):=by
   have:=items_w is (b32 s) (List.replicate (pad4 (4+itLen is+1)) 0++R) (wChk (s,is)++R).length (by rw [hX];unfold up4;omega) hI
   rw [<-e1,b32_len] at this
   exact this
  have h2:zeros (wChk (s,is)++R) 3 (4+itLen is+1)=some (4+itLen is+1+pad4 (4+itLen is+1)):=by
   have:=zeros_w R (pad4 (4+itLen is+1)) 3 (b32 s++is.flatMap wItm++[0]) (by rw [hp]) (by unfold pad4;omega)
   rw [<-e2,hp] at this
   exact this
  have h3:(wChk (s,is)++R).drop (4+itLen is+1+pad4 (4+itLen is+1))=R:=drop_b _ (by rw [hlen];unfold up4 pad4;omega)
  have h4:n32 (wChk (s,is)++R)=s:=by rw [e1];exact n32_b _ _
  show chks (l.length+1) _=_
  unfold chks
  rw [ap (by rw [hX];unfold up4;omega),h1]
  simp only
  rw [h2]
  simp only
  rw [h3,ih,h4]
  rfl
theorem bye_w (L:List Int) (s:ByteArray) (hs:s.size<=255):rdBye L.length (L.flatMap b32++wBye s)=some { kind:=4,sources:=L,text:=s }:=by
 unfold rdBye
 rw [ap (by rw [ae,fl32];omega),drop_b _ (fl32 L),words_w]
 simp only
 have hl:=sbs_len s
 unfold wBye
 by_cases h0:s.size=0
 ·have hse:s=⟨#[]⟩:=by rw [<-strOf_sbs s,aF (hl.trans h0)];rfl
  rw [aG h0,aG (show ([]:List Int).length=0 from rfl),hse]
 ·rw [ap h0]
  have e1:[(s.size:Int)]++sbs s++List.replicate (pad4 (1+s.size)) 0=(s.size:Int)::(sbs s++List.replicate (pad4 (1+s.size)) 0):=rfl
  have hY:((s.size:Int)::(sbs s++List.replicate (pad4 (1+s.size)) 0)).length=1+s.size+pad4 (1+s.size):=by
   simp only [aA,ae,hl,bi];omega
  rw [e1]
  have hp:pad4 (1+s.size)<=3:=by unfold pad4;omega
  have e2:((s.size:Int)::(sbs s++List.replicate (pad4 (1+s.size)) 0)).drop (1+s.size)=List.replicate (pad4 (1+s.size)) 0:=by
   rw [show 1+s.size=s.size+1 by omega]
   show (sbs s++_).drop s.size=_
   exact drop_b _ hl
  have e3:((s.size:Int)::(sbs s++List.replicate (pad4 (1+s.size)) 0)).getD 0 0=(s.size:Int):=rfl
  rw [ap (by rw [hY];omega),e3,au,ap (by rw [hY];omega),ap (by rw [hY];omega),ap (by omega),e2,aG (by simp)]
  rw [show 1+s.size - 1=s.size by omega]
  show some ({ kind:=4,sources:=L,text:=strOfNums ((sbs s++List.replicate (pad4 (1+s.size)) 0).take s.size) }:Pk)=_
  rw [ce hl,strOf_sbs]
theorem br_back (h0:0 < m) (h1:m < 262144) (hi:i<=63):∃M E:Nat,brM (sgl m i:Int)=(M:Int)/\brE (sgl m i:Int)=(E:Int)/\0 < M/\M < 262144/\sgl M E=sgl m i:=by
 have hl:=(norm_range (k:=23) h0 h1 (by omega)).1
 obtain ⟨k,hk1,hk2,hk3⟩:∃k:Nat,k<=i/\k+m.log2<=17/\(k=i\/17<=k+m.log2):=⟨min i (17 - m.log2),by omega,by omega,by omega⟩
 obtain ⟨h2,h3⟩:=br_sgl (j:=k) h0 h1 hk1 hk2 hk3
 have h4:=small_of h0 k (by omega)
 refine ⟨_,i - k,h3,by rw [h2];omega,h4.1,h4.2,?_⟩
 unfold sgl
 rw [log2_shift h0,show i - k+(m.log2+k)+126=i+m.log2+126 by omega,Nat.mul_assoc,<-bS,show k+(23 - (m.log2+k))=23 - m.log2 by omega]
theorem remb_w {b:Int} {L:List Int} (hL:L.length<=255) (hb:∃m i:Nat,0 < m/\m < 262144/\i<=63/\b=(sgl m i:Int)) :
  rdRemb s 0 ([82,69,77,66,(L.length:Int),brE b*4+brM b / 65536,brM b / 256 % 256,brM b % 256]++L.flatMap b32)=some { kind:=12,sender:=s,bits:=b,sources:=L }:=by
 obtain ⟨m,i,h0,h1,hi,rfl⟩:=hb
 obtain ⟨M,E,hM,hE,hM0,hM1,hsg⟩:=br_back h0 h1 hi
 rw [hM,hE]
 have hl:([82,69,77,66,(L.length:Int),(E:Int)*4+(M:Int) / 65536,(M:Int) / 256 % 256,(M:Int) % 256]++L.flatMap b32).length=8+4*L.length:=by
  rw [ae,fl32];rfl
 have h5:n24 (([82,69,77,66,(L.length:Int),(E:Int)*4+(M:Int) / 65536,(M:Int) / 256 % 256,(M:Int) % 256]++L.flatMap b32).drop 5)=(E:Int)*262144+M:=by
  show ((E:Int)*4+(M:Int) / 65536)*65536+(M:Int) / 256 % 256*256+(M:Int) % 256=_
  omega
 have h6:([82,69,77,66,(L.length:Int),(E:Int)*4+(M:Int) / 65536,(M:Int) / 256 % 256,(M:Int) % 256]++L.flatMap b32).getD 4 0=(L.length:Int):=rfl
 have h7:([82,69,77,66,(L.length:Int),(E:Int)*4+(M:Int) / 65536,(M:Int) / 256 % 256,(M:Int) % 256]++L.flatMap b32).drop 8=L.flatMap b32:=rfl
 unfold rdRemb
 rw [hl,h5,h6,h7,au,show ((E:Int)*262144+M) % 262144=M by omega,show ((E:Int)*262144+M) / 262144=E by omega]
 rw [ap (by omega),ap (by decide),ap (by intro h;exact h rfl),ap (by omega),ap (by omega),au,au,hsg]
 have:=words_w L []
 rw [aE] at this
 rw [this]
/-! ### Headers -/
theorem hC_w {c t n:Int} (B:List Int) (hc:0<=c/\c < 32):hC (hdrB c t n++B)=c:=by
 show (128+c) % 32=c
 omega
theorem hT_w {c t n:Int} (B:List Int):hT (hdrB c t n++B)=t:=rfl
theorem hL_w {c t n:Int} (B:List Int):hL (hdrB c t n++B)=n:=n16_b n B
theorem hP_w {c t n:Int} (B:List Int) (hc:0<=c/\c < 32):hP (hdrB c t n++B)=false:=by
 show ((128+c) / 32 % 2 == 1)=false
 rw [show (128+c) / 32 % 2=0 by omega];rfl
theorem hOk_w {c t n:Int} (B:List Int) (hc:0<=c/\c < 32):hdrOk (hdrB c t n++B)=true:=by
 unfold hdrOk
 have h1:(hdrB c t n++B).getD 0 0 / 64=2:=by
  show (128+c) / 64=2
  omega
 rw [h1,decide_eq_true (show 4<=(hdrB c t n++B).length by rw [ae];exact Nat.le_add_right _ _)]
 rfl
theorem go_w {c t n:Int} {B:List Int} (hc:0<=c/\c < 32) (hn:4*n=(B.length:Int)) (hk:kindOf t c≠0) (h:rdBody (hdrB c t n++B)=some p):go (hdrB c t n++B)=some p:=by
 have e:rdOne (hdrB c t n++B)=(0,p):=by
  unfold rdOne
  rw [hOk_w B hc,hL_w,hT_w,hC_w B hc,hP_w B hc,ap (by decide),ap,ap hk,ap (by decide),h]
  ·rfl
  ·rw [ae]
   show ¬4*(n+1)≠((4+B.length:Nat):Int)
   omega
 unfold go
 rw [e]
 rfl
theorem body_w {c t n:Int} {B:List Int} (hc:0<=c/\c < 32) {k:Int} (hk:kindOf t c=k) (h6:6<=k) (h8:8<=B.length):rdBody (hdrB c t n++B)=rdFb k false c t n B:=by
 unfold rdBody
 simp only [hT_w,hC_w B hc,hP_w B hc,hL_w,hk,show (hdrB c t n++B).drop 4=B from rfl]
 rw [ap (by omega),ap (by omega),ap (by omega),ap (by omega),ap (by omega),ap (by omega)]
theorem fb_s (s m:Int) (r:List Int):n32 (b32 s++(b32 m++r))=s/\n32 ((b32 s++(b32 m++r)).drop 4)=m/\(b32 s++(b32 m++r)).drop 8=r:=⟨n32_b _ _,n32_b m r,rfl⟩
theorem go_wr (h:WrOk p) (hx:WrX p) (hr:p.kind=0->RawOk p.data):go (wrOne p)=some (trim p):=by
 have lo:=h.lo
 have hi:=h.hi
 have hkk:p.kind=0\/p.kind=1\/p.kind=2\/p.kind=3\/p.kind=4\/p.kind=5\/p.kind=6\/p.kind=7\/p.kind=8\/p.kind=9\/p.kind=10\/p.kind=11\/p.kind=12:=by omega
 rcases hkk with hk | hk | hk | hk | hk | hk | hk | hk | hk | hk | hk | hk | hk
 ·obtain ⟨h1,h2,h3,h4⟩:=hr hk
  rw [wr_0 hk,show trim p={ data:=p.data } by unfold trim;simp [hk]]
  have e:rdOne p.data=(0,{ data:=p.data }):=by
   unfold rdOne
   rw [h1,ap (by decide),ap (by omega),aG h2,ap h3]
  unfold go
  rw [e]
  rfl
 ·obtain ⟨_,_,_,_,_,hn,h4,hl,_⟩:=h.k1 hk
  have hB:b32 p.sender++b64 p.ntp++b32 p.rtp++b32 p.packets++b32 p.octets++p.reports.flatMap wRep++p.ext=b32 p.sender++(b64 p.ntp++(b32 p.rtp++(b32 p.packets++(b32 p.octets++(p.reports.flatMap wRep++p.ext))))):=by simp only [an]
  have hx:(b32 p.sender++(b64 p.ntp++(b32 p.rtp++(b32 p.packets++(b32 p.octets++(p.reports.flatMap wRep++p.ext)))))).length=24+24*p.reports.length+p.ext.length:=by
   simp only [ae,b32_len,b64_len,wRep_fl];omega
  rw [wr_1 hk,show trim p={ kind:=1,sender:=p.sender,ntp:=p.ntp,rtp:=p.rtp,packets:=p.packets,octets:=p.octets,reports:=p.reports,ext:=p.ext } by unfold trim;simp [hk]]
  unfold wrSR
  rw [hB]
  refine go_w (by omega) (by rw [hx];omega) (by show (1:Int)≠0;decide) ?_
  obtain ⟨B,hBe⟩:∃B,B=b32 p.sender++(b64 p.ntp++(b32 p.rtp++(b32 p.packets++(b32 p.octets++(p.reports.flatMap wRep++p.ext))))):=⟨_,rfl⟩
  have f1:n32 B=p.sender:=by rw [hBe];exact n32_b _ _
  have f2:n64 (B.drop 4)=p.ntp:=by rw [hBe];exact n64_b p.ntp _
  have f3:n32 (B.drop 12)=p.rtp:=by rw [hBe];exact n32_b p.rtp _
  have f4:n32 (B.drop 16)=p.packets:=by rw [hBe];exact n32_b p.packets _
  have f5:n32 (B.drop 20)=p.octets:=by rw [hBe];exact n32_b p.octets _
  have f6:B.drop 24=p.reports.flatMap wRep++p.ext:=by rw [hBe];rfl
  rw [<-hBe] at hx ⊢
  unfold rdBody
  simp only [hT_w,hC_w B (show 0<=(p.reports.length:Int)/\(p.reports.length:Int) < 32 by omega),show kindOf 200 (p.reports.length:Int)=1 from rfl,show ∀c t n,(hdrB c t n++B).drop 4=B from fun _ _ _=>rfl,au]
  rw [aG (by trivial),ap (by omega),f1,f2,f3,f4,f5,f6,reps_w,drop_b _ (wRep_fl _)]
 ·obtain ⟨_,hn,h4,hl,_⟩:=h.k2 hk
  have hx:(b32 p.sender++p.reports.flatMap wRep++p.ext).length=4+24*p.reports.length+p.ext.length:=by
   simp only [ae,b32_len,wRep_fl]
  rw [wr_2 hk,show trim p={ kind:=2,sender:=p.sender,reports:=p.reports,ext:=p.ext } by unfold trim;simp [hk]]
  unfold wrRR
  refine go_w (by omega) (by rw [hx];omega) (by show (2:Int)≠0;decide) ?_
  obtain ⟨B,hBe⟩:∃B,B=b32 p.sender++p.reports.flatMap wRep++p.ext:=⟨_,rfl⟩
  have hB2:B=b32 p.sender++(p.reports.flatMap wRep++p.ext):=by rw [hBe,an]
  have f1:n32 B=p.sender:=by rw [hB2];exact n32_b _ _
  have f6:B.drop 4=p.reports.flatMap wRep++p.ext:=by rw [hB2];rfl
  rw [<-hBe] at hx ⊢
  unfold rdBody
  simp only [hT_w,hC_w B (show 0<=(p.reports.length:Int)/\(p.reports.length:Int) < 32 by omega),show kindOf 201 (p.reports.length:Int)=2 from rfl,show ∀c t n,(hdrB c t n++B).drop 4=B from fun _ _ _=>rfl,au]
  rw [ap (by decide),aG (by trivial),ap (by omega),f1,f6,reps_w,drop_b _ (wRep_fl _)]
 ·obtain ⟨hn,hl,hR⟩:=h.k3 hk
  rw [wr_3 hk,show trim p={ kind:=3,chunks:=p.chunks } by unfold trim;simp [hk]]
  unfold wrSD
  have h4:=wChk_4 p.chunks
  refine go_w (by omega) (by omega) (by show (3:Int)≠0;decide) ?_
  unfold rdBody
  simp only [hT_w,hC_w (p.chunks.flatMap wChk) (show 0<=(p.chunks.length:Int)/\(p.chunks.length:Int) < 32 by omega),show kindOf 202 (p.chunks.length:Int)=3 from rfl,show ∀c t n,(hdrB c t n++p.chunks.flatMap wChk).drop 4=p.chunks.flatMap wChk from fun _ _ _=>rfl,au]
  rw [ap (by decide),ap (by decide),aG (by trivial),chks_w _ hR]
  rfl
 ·obtain ⟨hn,ht,hR⟩:=h.k4 hk
  rw [wr_4 hk,show trim p={ kind:=4,sources:=p.sources,text:=p.text } by unfold trim;simp [hk]]
  unfold wrBye
  have hw:=wBye_len p.text
  refine go_w (by omega) ?_ (by show (4:Int)≠0;decide) ?_
  ·rw [ae,fl32,hw]
   split
   ·omega
   ·unfold pad4;omega
  unfold rdBody
  simp only [hT_w,hC_w (p.sources.flatMap b32++wBye p.text) (show 0<=(p.sources.length:Int)/\(p.sources.length:Int) < 32 by omega),show kindOf 203 (p.sources.length:Int)=4 from rfl,show ∀c t n,(hdrB c t n++(p.sources.flatMap b32++wBye p.text)).drop 4=p.sources.flatMap b32++wBye p.text from fun _ _ _=>rfl,au]
  rw [ap (by decide),ap (by decide),ap (by decide),aG (by trivial),bye_w _ _ ht]
 ·obtain ⟨hs,_,ht,h4,hd⟩:=h.k5 hk
  rw [wr_5 hk,show trim p={ kind:=5,sender:=p.sender,text:=p.text,sub:=p.sub,data:=p.data } by unfold trim;simp [hk]]
  unfold wrApp
  have hx:(b32 p.sender++sbs p.text++p.data).length=8+p.data.length:=by
   simp only [ae,b32_len,sbs_len,ht]
  refine go_w hs (by rw [hx];omega) (by show (5:Int)≠0;decide) ?_
  obtain ⟨B,hBe⟩:∃B,B=b32 p.sender++sbs p.text++p.data:=⟨_,rfl⟩
  have hB2:B=b32 p.sender++(sbs p.text++p.data):=by rw [hBe,an]
  have f1:n32 B=p.sender:=by rw [hB2];exact n32_b _ _
  have f2:(B.drop 4).take 4=sbs p.text:=by rw [hB2];exact ce (by rw [sbs_len,ht])
  have f3:B.drop 8=p.data:=by rw [hBe];exact drop_b _ (by rw [ae,b32_len,sbs_len,ht])
  rw [<-hBe] at hx ⊢
  unfold rdBody
  simp only [hT_w,hC_w B hs,show kindOf 204 p.sub=5 from rfl,show ∀c t n,(hdrB c t n++B).drop 4=B from fun _ _ _=>rfl]
  rw [ap (by decide),ap (by decide),ap (by decide),ap (by decide),aG (by trivial),ap (by omega),f1,f2,f3,strOf_sbs]
 ·obtain ⟨_,_,hn,_⟩:=h.k6 hk
  have hne:=hx.1 hk
  rw [wr_6 hk,show trim p={ kind:=6,sender:=p.sender,media:=p.media,pairs:=p.pairs } by unfold trim;simp [hk]]
  unfold wrFb
  rw [an]
  obtain ⟨g1,g2,g3⟩:=fb_s p.sender p.media (p.pairs.flatMap wPar)
  have hx:(b32 p.sender++(b32 p.media++p.pairs.flatMap wPar)).length=8+4*p.pairs.length:=by
   simp only [ae,b32_len,flat_bd wPar_len];omega
  refine go_w (by decide) (by rw [hx];omega) (by decide) ?_
  rw [body_w (k:=6) (by decide) rfl (by decide) (by omega)]
  unfold rdFb
  simp only [g1,g2,g3]
  have hq:(p.pairs.flatMap wPar).length / 4=p.pairs.length:=by rw [flat_bd wPar_len];omega
  have hw:=pairsL_w p.pairs []
  rw [aE] at hw
  have:p.pairs.length≠0:=fun e=>hne (aF e)
  rw [ap (by decide),aG (by trivial),hq,ap this,hw]
 ·rw [wr_7 hk,show trim p={ kind:=p.kind,sender:=p.sender,media:=p.media } by unfold trim;simp [hk],hk]
  unfold wrTwo
  have e:b32 p.sender++b32 p.media=b32 p.sender++(b32 p.media++[]):=by rw [aE]
  rw [e]
  obtain ⟨g1,g2,g3⟩:=fb_s p.sender p.media []
  refine go_w (by decide) rfl (by decide) ?_
  rw [body_w (k:=7) (by decide) rfl (by decide) (by show 8<=8;decide)]
  unfold rdFb
  simp only [g1,g2,g3]
  rfl
 ·obtain ⟨_,_,hbl,hl,hR⟩:=h.k8 hk
  obtain ⟨hne,hmf⟩:=hx.2.1 hk
  rw [wr_8 hk,show trim p={ kind:=8,sender:=p.sender,blocks:=p.blocks,time:=p.time } by unfold trim;simp [hk]]
  unfold wrCc
  have h4:=wBlo_4 p.blocks
  rw [an]
  have hx:(b32 p.sender++(p.blocks.flatMap wBlo++b32 p.time)).length=8+(p.blocks.flatMap wBlo).length:=by
   simp only [ae,b32_len];omega
  refine go_w (by decide) (by rw [hx];omega) (by decide) ?_
  rw [body_w (k:=8) (by decide) rfl (by decide) (by omega)]
  have hlb:p.blocks.length<=(p.blocks.flatMap wBlo).length:=by have:=wBlo_ge p.blocks;omega
  unfold rdFb
  simp only [n32_b,show (b32 p.sender++(p.blocks.flatMap wBlo++b32 p.time)).drop 4=p.blocks.flatMap wBlo++b32 p.time from rfl]
  rw [ap (by decide),ap (by decide),ap (by decide),ap (by decide),ap (by decide),aG (by trivial)]
  unfold rdCc
  rw [blocksL_w p.blocks _ (b32 p.time) (by rw [ae,b32_len];omega) hR hmf (b32_len _)]
  simp only
  have e:=n32_b p.time []
  rw [aE] at e
  rw [aG ⟨b32_len _,hne⟩,e]
 ·rw [wr_9 hk,show trim p={ kind:=p.kind,sender:=p.sender,media:=p.media } by unfold trim;simp [hk],hk]
  unfold wrTwo
  have e:b32 p.sender++b32 p.media=b32 p.sender++(b32 p.media++[]):=by rw [aE]
  rw [e]
  obtain ⟨g1,g2,g3⟩:=fb_s p.sender p.media []
  refine go_w (by decide) rfl (by decide) ?_
  rw [body_w (k:=9) (by decide) rfl (by decide) (by show 8<=8;decide)]
  unfold rdFb
  simp only [g1,g2,g3]
  rfl
 ·obtain ⟨_,_,hn,hR⟩:=h.k10 hk
  have hne:=hx.2.2.1 hk
  rw [wr_10 hk,show trim p={ kind:=10,sender:=p.sender,media:=p.media,slices:=p.slices } by unfold trim;simp [hk]]
  unfold wrFb
  rw [an]
  obtain ⟨g1,g2,g3⟩:=fb_s p.sender p.media (p.slices.flatMap wSli)
  have hx:(b32 p.sender++(b32 p.media++p.slices.flatMap wSli)).length=8+4*p.slices.length:=by
   simp only [ae,b32_len,flat_bd wSli_len];omega
  refine go_w (by decide) (by rw [hx];omega) (by decide) ?_
  rw [body_w (k:=10) (by decide) rfl (by decide) (by omega)]
  unfold rdFb
  simp only [g1,g2,g3]
  have hq:(p.slices.flatMap wSli).length / 4=p.slices.length:=by rw [flat_bd wSli_len];omega
  have hw:=sliceL_w p.slices [] hR
  rw [aE] at hw
  have:p.slices.length≠0:=fun e=>hne (aF e)
  rw [ap (by decide),ap (by decide),aG (by trivial),hq,ap this,hw]
 ·obtain ⟨_,_,hn,_⟩:=h.k11 hk
  have hne:=hx.2.2.2 hk
  rw [wr_11 hk,show trim p={ kind:=11,sender:=p.sender,media:=p.media,entries:=p.entries } by unfold trim;simp [hk]]
  unfold wrFb
  rw [an]
  obtain ⟨g1,g2,g3⟩:=fb_s p.sender p.media (p.entries.flatMap wEnt)
  have hx:(b32 p.sender++(b32 p.media++p.entries.flatMap wEnt)).length=8+8*p.entries.length:=by
   simp only [ae,b32_len,flat_bd wEnt_len];omega
  refine go_w (by decide) (by rw [hx];omega) (by decide) ?_
  rw [body_w (k:=11) (by decide) rfl (by decide) (by omega)]
  unfold rdFb
  simp only [g1,g2,g3]
  have hq:(p.entries.flatMap wEnt).length / 8=p.entries.length:=by rw [flat_bd wEnt_len];omega
  rw [ap (by decide),ap (by decide),ap (by decide),aG (by trivial),hq,entryL_w]
  simp only
  rw [ap hne]
 ·obtain ⟨_,hn,_,hb⟩:=h.k12 hk
  rw [wr_12 hk,show trim p={ kind:=12,sender:=p.sender,bits:=p.bits,sources:=p.sources } by unfold trim;simp [hk]]
  unfold wrRemb
  have hw:=remb_w (s:=p.sender) hn hb
  generalize brE p.bits*4+brM p.bits / 65536=e1 at hw ⊢
  generalize brM p.bits / 256 % 256=e2 at hw ⊢
  generalize brM p.bits % 256=e3 at hw ⊢
  rw [an,an]
  obtain ⟨g1,g2,g3⟩:=fb_s p.sender 0 ([82,69,77,66,(p.sources.length:Int),e1,e2,e3]++p.sources.flatMap b32)
  have hx:(b32 p.sender++(b32 0++([82,69,77,66,(p.sources.length:Int),e1,e2,e3]++p.sources.flatMap b32))).length=16+4*p.sources.length:=by
   rw [ae,ae,ae,b32_len,b32_len,fl32]
   show 4+(4+(8+_))=_
   omega
  refine go_w (by decide) (by rw [hx];omega) (by decide) ?_
  rw [body_w (k:=12) (by decide) rfl (by decide) (by omega)]
  unfold rdFb
  simp only [g1,g2,g3]
  rw [ap (by decide),ap (by decide),ap (by decide),ap (by decide),aG (by trivial),hw]
/-! ### Datagrams -/
theorem go_whole (h:go xs=some p):hdrOk xs=true/\4*(hL xs+1)=(xs.length:Int):=by
 unfold go at h
 split at h
 ·rename_i h0
  have hok:hdrOk xs=true:=by
   cases hh:hdrOk xs with
   | true=>rfl
   | false=>unfold rdOne at h0;rw [aG hh] at h0;exact absurd h0 (by decide)
  refine ⟨hok,?_⟩
  by_cases hl:4*(hL xs+1)=(xs.length:Int)
  ·exact hl
  ·unfold rdOne at h0;rw [ap (by rw [hok];decide),aG hl] at h0;exact absurd h0 (by decide)
 ·cases h
theorem hdr_app (R:List Int) (h:hdrOk xs=true):4<=xs.length/\hdrOk (xs++R)=true/\hL (xs++R)=hL xs:=by
 have h4:4<=xs.length:=by
  simp only [hdrOk,aM,ah] at h
  exact h.1
 match xs,h4 with
 | a::b::c::d::r,h4=>
  refine ⟨h4,?_,rfl⟩
  simp only [hdrOk,aM,ah] at h ⊢
  exact ⟨by rw [ae];omega,h.2⟩
theorem gl_wr:∀(L:List Pk) (f:Nat),(∀p∈L,WrOk p/\WrX p/\(p.kind=0->RawOk p.data))->(L.flatMap wrOne).length<=f->okSplit f (L.flatMap wrOne)=true/\gl f (L.flatMap wrOne)=some (L.map trim)
 | [],f,_,_=>by
  cases f<;>exact ⟨rfl,rfl⟩
 | p::l,f,h,hf=>by
  obtain ⟨h1,h2,h3⟩:=h p ms
  have hg:=go_wr h1 h2 h3
  obtain ⟨hok,hlen⟩:=go_whole hg
  rw [av] at hf ⊢
  obtain ⟨h4,hok2,hL2⟩:=hdr_app (l.flatMap wrOne) hok
  rw [ae] at hf
  cases f with
  | zero=>omega
  | succ f=>
   obtain ⟨i1,i2⟩:=gl_wr l f (fun q hq=>h q (mt hq)) (by omega)
   have hN:hN (wrOne p++l.flatMap wrOne)=(wrOne p).length:=by unfold Go.Proofs.YtkdialecadjedaaGreatDoor.hN;rw [hL2];omega
   have hfit:hFit (wrOne p++l.flatMap wrOne):=⟨hok2,by rw [hL2,ae];omega⟩
   have hne:¬wrOne p++l.flatMap wrOne=[]:=fun e=>by
    have:=congrArg List.length e
    rw [ae,ay] at this
    omega
   constructor
   ·unfold okSplit
    rw [ap hne,aG hfit,hN,drop_b _ rfl,i1]
   ·unfold gl
    rw [ap hne,aG hfit,hN,drop_b _ rfl,ce rfl,hg]
    simp only
    rw [i2]
    rfl
structure LgOk (p:Pk) (X:List Int):Prop where
 lo:0<=p.kind
 hi:p.kind<=12
 wx:WrX p
 ok:WrOk p
 eq:X=wrOne p
 raw:p.kind=0->RawOk p.data
 len:X.length<=131072
def LgPost (F:Fr) (ex:List Ex) (ro:List Ro) (p:Pk) (en:Ending) (w':World):Prop:=
 ∃cells a X c ok ro',en=.returned (.tuple #[.agg cells.toArray,.slice a X.length c,.bool ok])/\(∀r∈ro,r∈ro')/\Sat F w' ex ro'/\cells.length=30/\cells.all Value.oneCell'=true/\(ok=true->Ro.deep (trim p).dat cells∈ro'/\Ro.B X a X.length c∈ro'/\LgOk p X)
theorem c43 (H:Sat F w ex ro) (hp:Ro.deep p.dat cells∈ro) (hF:0<=p.kind->p.kind<=13->FoOk p):Calls pg 43 #[.agg cells.toArray] w (LgPost F ex ro p):=by
 have hp0:=hp
 obtain ⟨a7,a8,a9,a10,a13,a14,a15,a16,a18,a24,a25,c7,c8,c9,c10,c13,c14,c15,c16,c18,c24,c25,R,rfl,hr,H,_⟩:=H.pkF hp
 apply of43
 refine sNew H ?_;clear H;intro b1 w _ H
 replace H:Sat F w (.blk b1 63 (pkC p a7 a8 a9 a10 a13 a14 a15 a16 a18 a24 a25 c7 c8 c9 c10 c13 c14 c15 c16 c18 c24 c25)::ex) R:=H
 refine sNew H ?_;clear H;intro b3 w _ H
 replace H:Sat F w (.blk b3 63 zC::.blk b1 63 (pkC p a7 a8 a9 a10 a13 a14 a15 a16 a18 a24 a25 c7 c8 c9 c10 c13 c14 c15 c16 c18 c24 c25)::ex) R:=H
 refine ⟨_,H.b1.ld,?_⟩
 refine call_j (c48 H (hr _ hp0) hF) ?_
 clear H;rintro _ w ⟨a,c,X,ok,R2,rfl,hr2,H,hm,hok⟩
 refine ⟨_,_,_,_,rfl,?_⟩
 refine ⟨fun _=>?_,fun h1=>⟨fun _=>?_,fun h2=>?_⟩⟩
 ·refine ⟨_,H.b1.ld,?_⟩
  refine sSw0 H (h:=?_);clear H;intro w _ H
  refine ⟨_,H.b0.ld,?_⟩
  exact ⟨_,none,[],0,false,R2,rfl,fun r h=>hr2 r (hr r h),H.dr,rfl,rfl,fun h=>by cases h⟩
 ·refine ⟨_,H.b1.ld,?_⟩
  refine sSw0 H (h:=?_);clear H;intro w _ H
  refine ⟨_,H.b0.ld,?_⟩
  exact ⟨_,none,[],0,false,R2,rfl,fun r h=>hr2 r (hr r h),H.dr,rfl,rfl,fun h=>by cases h⟩
 ·have h1:ok=true:=by simpa using h1
  rw [af] at h2
  obtain ⟨⟨lo,hi⟩,hx,_,hraw,hwr⟩:=hok h1
  obtain ⟨hw,hX⟩:=hwr (by omega)
  refine ⟨_,H.b1.ld,?_⟩
  refine call_j (c87 H (hr2 _ (hr _ hp0)) lo hi) ?_
  clear H;rintro _ w ⟨cells2,R3,rfl,hr3,H,hm3⟩
  obtain ⟨e7,e8,e9,e10,e13,e14,e15,e16,e18,e24,e25,f7,f8,f9,f10,f13,f14,f15,f16,f18,f24,f25,R4,rfl,hr4,H,_⟩:=H.pkF hm3
  refine ⟨_,rfl,?_⟩
  refine sSw0 H (h:=?_);clear H;intro w _ H
  refine ⟨_,H.b0.ld,?_⟩
  exact ⟨_,a,X,c,true,R4,rfl,fun r h=>hr4 r (hr3 r (hr2 r (hr r h))),H.dr,rfl,rfl,fun _=>⟨hr4 _ hm3,hr4 _ (hr3 _ hm),lo,hi,hx,hw,hX,hraw,by omega⟩⟩
def LsPost (F:Fr) (ex:List Ex) (ro:List Ro) (L:List Pk) (en:Ending) (w':World):Prop:=
 (∃o n oc a k c,en=.returned (.tuple #[.slice o n oc,.slice a k c,.bool false])/\Sat F w' ex ro) \/
 ∃o oc a k c ro',en=.returned (.tuple #[.slice o L.length oc,.slice a k c,.bool true])/\(∀r∈ro,r∈ro')/\Sat F w' ex ro'/\Ro.deep [.row 30 ((L.map trim).flatMap Pk.dat)] [.slice o L.length oc]∈ro'/\L≠[]/\(∀p∈L,LgOk p (wrOne p))/\(L.flatMap wrOne).length<=262144
theorem c17 (H:Sat F w ex ro) (hl:Ro.deep [.row 30 (L.flatMap Pk.dat)] [.slice l L.length c]∈ro) (hn:L.length<=2000000) (hF:∀p∈L,0<=p.kind->p.kind<=13->FoOk p):Calls pg 17 #[.slice l L.length c] w (LsPost F ex ro L):=by
 apply of17
 refine ⟨fun o ol oc a al ac x m w=>∃(j:Nat) (r ra:Option Nat) (X:List Int),x=(j:Int)/\j+m=L.length/\ol=j/\al=X.length/\X=(L.take j).flatMap wrOne/\X.length<=262144/\(∀p∈L.take j,LgOk p (wrOne p))/\Sat F w (.own 63 30 o ol oc r (((L.take j).map trim).flatMap Pk.dat)::.own 5 1 a al ac ra (ob X)::ex) ro,
  ⟨L.length,0,none,none,[],rfl,by omega,rfl,rfl,by simp,by decide,by simp,(H.nilOwn 5 1).nilOwn 63 30⟩,?_⟩
 clear H;rintro dd2 o ol oc a al ac x m w ⟨j,r,ra,X,rfl,hjm,rfl,rfl,hX,hXl,hall,H⟩
 refine ⟨fun hc=>?_,fun hc=>?_⟩
 ·rw [ah] at hc
  have hjl:ol < L.length:=by omega
  obtain ⟨pp,us,e,hus,hcell,H1⟩:=H.eltF Pk.dat_lenN (by decide) hl (j:=ol) hjl
  have htk:L.take (ol+1)=L.take ol++[L[ol]]:=by rw [am,ai hjl];rfl
  have hFj:=hF L[ol] (ax hjl)
  clear H
  generalize L[ol]=D at H1 htk hFj
  obtain ⟨a7,a8,a9,a10,a13,a14,a15,a16,a18,a24,a25,c7,c8,c9,c10,c13,c14,c15,c16,c18,c24,c25,R,rfl,hr,H,_⟩:=H1.pkF ms
  clear H1
  refine ⟨pp,e,by omega,by omega,?_⟩
  refine ⟨_,LdC (pkC D a7 a8 a9 a10 a13 a14 a15 a16 a18 a24 a25 c7 c8 c9 c10 c13 c14 c15 c16 c18 c24 c25) (by kernel_rfl) (by rw [show (ol:Int).toNat*30=ol*30 by omega];exact hcell),?_⟩
  clear hcell
  refine sNew H ?_;clear H;intro b11 w _ H
  refine sSw0 H (h:=?_);clear H;intro w _ H
  refine ⟨_,H.b0.ld,?_⟩
  refine call_j (c43 H (hr _ ms) hFj) ?_
  clear H;rintro _ w ⟨cells,a2,Y,k2,ok,R2,rfl,hr2,H,hl30,h1c,hok⟩
  refine ⟨_,_,_,_,_,rfl,?_⟩
  refine sNew H ?_;clear H;intro b20 w _ H
  refine sSw0 H rfl (by rw [hl30];kernel_rfl) (by rw [hl30];rfl) h1c ?_
  clear H;intro w _ H
  have hr3:∀r∈ro,r∈R2:=fun r h=>hr2 r (hr r (mt h))
  refine ⟨fun _=>Or.inl ⟨none,0,0,none,0,0,rfl,H.dq hr3⟩,fun h1=>?_⟩
  have h1:ok=true:=by simpa using h1
  refine ⟨fun _=>Or.inl ⟨none,0,0,none,0,0,rfl,H.dq hr3⟩,fun h2=>?_⟩
  rw [af] at h2
  obtain ⟨hd,hb,hlg⟩:=hok h1
  have hYl:=hlg.len
  refine ⟨_,Ld0 rfl H.b0 (by rw [hl30];kernel_rfl),?_⟩
  refine ⟨by simpa [Value.cells] using hl30,?_⟩
  refine sPush2 H (bytes:=360) (by kernel_rfl) (trim D).dat (by simpa [Value.cells] using hl30) (fun G h=>h (.deep _ _) hd) (by simpa [Value.cells] using h1c) (by unfold maxLen;omega) (by omega) ?_
  clear H;intro o2 ol2 oc2 r2 w eo2 _ H
  replace H:=H.r3
  refine sAppV H hb (by omega) ?_
  clear H;intro a3 n3 k3 r3 w hn3 _ H
  subst eo2
  have hn3':n3=(X++Y).length:=by rw [ae];exact hn3
  refine ⟨m - 1,by omega,ol+1,r2,r3,X++Y,by rw [wi64_of (by omega) (by omega)];simp,by omega,rfl,hn3',?_,?_,?_,?_⟩
  ·rw [htk,aj,<-hX,hlg.eq]
   simp only [fm1,fm2,fm3]
  ·rw [ae];omega
  ·rw [htk]
   intro y hy
   rcases aV.1 hy with hy | hy
   ·exact hall y hy
   ·rw [aQ.1 hy];rw [<-hlg.eq];exact hlg
  ·rw [htk,bM,aj]
   simp only [aX,List.map_nil,av,aD,aE]
   exact (H.u3.r2).sub sl2 hr3
 ·rw [af] at hc
  obtain rfl:ol=L.length:=by omega
  rw [ao] at hX hall H
  subst hX
  by_cases h0:L=[]
  ·refine Or.inl ⟨o,L.length,oc,a,(L.flatMap wrOne).length,ac,?_,H.dr⟩
   rw [h0];rfl
  ·have hp:decide (((L.length:Nat):Int) > (0:Int))=true:=by
    rw [ah]
    have:L.length≠0:=fun e=>h0 (aF e)
    omega
   rw [hp]
   exact Or.inr ⟨o,oc,a,(L.flatMap wrOne).length,ac,_,rfl,fun r h=>mt h,H.freeze.sub sl1 (fun _ h=>h),ms,h0,hall,hXl⟩
theorem c15 (H:Sat F w ex ro) (hl:Ro.deep [.row 30 (L.flatMap Pk.dat)] [.slice l L.length c]∈ro) (hn:L.length<=2000000) (hs:∀p∈L,p.size<=1100000) :
  Calls pg 15 #[.slice l L.length c] w fun en w'=>∃o oc,en=.returned (.slice o L.length oc)/\Sat F w' ex (.deep [.row 30 (L.flatMap Pk.dat)] [.slice o L.length oc]::ro):=by
 apply of15
 refine ⟨fun o ol oc x m w=>∃(j:Nat) (r:Option Nat),x=(j:Int)/\j+m=L.length/\ol=j/\Sat F w (.own 63 30 o ol oc r ((L.take j).flatMap Pk.dat)::ex) ro,⟨L.length,0,none,rfl,by omega,rfl,H.nilOwn 63 30⟩,?_⟩
 clear H;rintro dd2 o ol oc x m w ⟨j,r,rfl,hjm,rfl,H⟩
 refine ⟨fun hc=>?_,fun hc=>?_⟩
 ·rw [ah] at hc
  have hjl:ol < L.length:=by omega
  obtain ⟨pp,us,e,hus,hcell,H1⟩:=H.eltF Pk.dat_lenN (by decide) hl (j:=ol) hjl
  have htk:L.take (ol+1)=L.take ol++[L[ol]]:=by rw [am,ai hjl];rfl
  have hsj:=hs L[ol] (ax hjl)
  clear H
  generalize L[ol]=D at H1 htk hsj
  obtain ⟨a7,a8,a9,a10,a13,a14,a15,a16,a18,a24,a25,c7,c8,c9,c10,c13,c14,c15,c16,c18,c24,c25,R,rfl,hr,H,_⟩:=H1.pkF ms
  clear H1
  refine ⟨pp,e,by omega,by omega,?_⟩
  refine ⟨_,LdC (pkC D a7 a8 a9 a10 a13 a14 a15 a16 a18 a24 a25 c7 c8 c9 c10 c13 c14 c15 c16 c18 c24 c25) (by kernel_rfl) (by rw [show (ol:Int).toNat*30=ol*30 by omega];exact hcell),?_⟩
  clear hcell
  refine sNew H ?_;clear H;intro b11 w _ H
  refine sSw0 H (h:=?_);clear H;intro w _ H
  refine ⟨_,H.b0.ld,?_⟩
  refine call_j (c41 H (hr _ ms) hsj) ?_
  clear H;rintro _ w ⟨cells,R2,rfl,hr2,H,hd⟩
  obtain ⟨e7,e8,e9,e10,e13,e14,e15,e16,e18,e24,e25,f7,f8,f9,f10,f13,f14,f15,f16,f18,f24,f25,R4,rfl,hr4,H,_⟩:=H.pkF hd
  refine ⟨_,rfl,?_⟩
  refine ⟨rfl,?_⟩
  refine sPush1 H (bytes:=360) (nds:=D.dat) (hD:=(fun G h=>h (.deep _ _) (hr4 _ hd))) (hK:=?_)
  clear H;intro o2 ol2 oc2 r2 w eo2 _ H
  subst eo2
  refine ⟨m - 1,by omega,ol+1,r2,by rw [wi64_of (by omega) (by omega)];simp,by omega,rfl,?_⟩
  rw [htk,aj]
  simp only [fm1,fm2,fm3]
  exact H.dq (fun r h=>hr4 r (hr2 r (hr r (mt h))))
 ·rw [af] at hc
  obtain rfl:ol=L.length:=by omega
  rw [ao] at H
  exact ⟨o,oc,rfl,H.freeze⟩
theorem c19 (H:Sat F w ex ro) (hl:Ro.deep [.row 30 (L.flatMap Pk.dat)] [.slice l L.length c]∈ro) (hn:L.length<=2000000) (hs:∀p∈L,p.size<=1100000) :
  Calls pg 19 #[.slice l L.length c] w fun en w'=>∃o oc,en=.returned (.slice o L.length oc)/\Sat F w' ex (.deep [.row 30 (L.flatMap Pk.dat)] [.slice o L.length oc]::ro):=by
 apply of19
 refine ⟨fun o ol oc x m w=>∃(j:Nat) (r:Option Nat),x=(j:Int)/\j+m=L.length/\ol=j/\Sat F w (.own 75 30 o ol oc r ((L.take j).flatMap Pk.dat)::ex) ro,⟨L.length,0,none,rfl,by omega,rfl,H.nilOwn 75 30⟩,?_⟩
 clear H;rintro dd2 o ol oc x m w ⟨j,r,rfl,hjm,rfl,H⟩
 refine ⟨fun hc=>?_,fun hc=>?_⟩
 ·rw [ah] at hc
  have hjl:ol < L.length:=by omega
  obtain ⟨pp,us,e,hus,hcell,H1⟩:=H.eltF Pk.dat_lenN (by decide) hl (j:=ol) hjl
  have htk:L.take (ol+1)=L.take ol++[L[ol]]:=by rw [am,ai hjl];rfl
  have hsj:=hs L[ol] (ax hjl)
  clear H
  generalize L[ol]=D at H1 htk hsj
  obtain ⟨a7,a8,a9,a10,a13,a14,a15,a16,a18,a24,a25,c7,c8,c9,c10,c13,c14,c15,c16,c18,c24,c25,R,rfl,hr,H,_⟩:=H1.pkF ms
  clear H1
  refine ⟨pp,e,by omega,by omega,?_⟩
  refine ⟨_,LdC (pkC D a7 a8 a9 a10 a13 a14 a15 a16 a18 a24 a25 c7 c8 c9 c10 c13 c14 c15 c16 c18 c24 c25) (by kernel_rfl) (by rw [show (ol:Int).toNat*30=ol*30 by omega];exact hcell),?_⟩
  clear hcell
  refine sNew H ?_;clear H;intro b11 w _ H
  refine sSw0 H (h:=?_);clear H;intro w _ H
  refine ⟨_,H.b0.ld,?_⟩
  refine call_j (c47 H (hr _ ms) hsj) ?_
  clear H;rintro _ w ⟨cells,R2,rfl,hr2,H,hd⟩
  obtain ⟨e7,e8,e9,e10,e13,e14,e15,e16,e18,e24,e25,f7,f8,f9,f10,f13,f14,f15,f16,f18,f24,f25,R4,rfl,hr4,H,_⟩:=H.pkF hd
  refine ⟨_,rfl,?_⟩
  refine ⟨rfl,?_⟩
  refine sPush1 H (bytes:=360) (nds:=D.dat) (hD:=(fun G h=>h (.deep _ _) (hr4 _ hd))) (hK:=?_)
  clear H;intro o2 ol2 oc2 r2 w eo2 _ H
  subst eo2
  refine ⟨m - 1,by omega,ol+1,r2,by rw [wi64_of (by omega) (by omega)];simp,by omega,rfl,?_⟩
  rw [htk,aj]
  simp only [fm1,fm2,fm3]
  exact H.dq (fun r h=>hr4 r (hr2 r (hr r (mt h))))
 ·rw [af] at hc
  obtain rfl:ol=L.length:=by omega
  rw [ao] at H
  exact ⟨o,oc,rfl,H.freeze⟩
theorem add_add (p:Addr) (a b:Nat):(p.add a).add b=p.add (a+b):=by
 unfold Addr.add
 by_cases ha:a=0
 ·subst ha;simp
 ·by_cases hb:b=0
  ·subst hb;simp [ha]
  ·simp [ha,hb,Nat.add_assoc]
theorem cutA1 {p:Addr} (h:1 < c):cutA (some p) 1 c k=some (p.add k):=by
 unfold cutA
 rw [ap (by omega)]
 simp
def cmT:List Pk->Option (Option ByteArray)
 | []=>none
 | p::r=>if p.kind=2 then cmT r else if p.kind=3 then some (cnC p.chunks) else none
def vldT:List Pk->Bool
 | []=>false
 | p::r=>if p.kind=2 then vldT r else decide (p.kind=3) && (cnC p.chunks).isSome
def vld:List Pk->Bool
 | []=>false
 | p::r=>(decide (p.kind=1) || decide (p.kind=2)) && vldT r
def nmd (p:Pk):Bool:=decide (p.kind=3) && (cnC p.chunks).isSome
theorem vldT_any:∀L:List Pk,vldT L=true->L.any nmd=true
 | [],h=>by cases h
 | p::r,h=>by
  unfold vldT at h
  simp only [List.any_cons,cg]
  split at h
  ·exact .inr (vldT_any r h)
  ·exact .inl h
theorem vldT_cm:∀{L:List Pk} {o:Option ByteArray},cmT L=some o->vldT L=o.isSome
 | [],_,h=>by cases h
 | p::r,o,h=>by
  unfold cmT at h
  unfold vldT
  split
  ·rename_i h2
   rw [aG h2] at h
   exact vldT_cm h
  ·rename_i h2
   rw [ap h2] at h
   split at h
   ·rename_i h3
    cases h
    simp [h3]
   ·cases h
def CmPost (F:Fr) (ex:List Ex) (ro:List Ro) (L:List Pk) (en:Ending) (w':World):Prop:=
 ∃s v u,en=.returned (.tuple #[.string s,.bool v,.bool u])/\Sat F w' ex ro/\(u=true->v=vld L/\(v=true->cmT L.tail=some (some s)))
theorem CmPost.no (H:Sat F w exs ro') (hs:ex.Sublist exs) (hr:∀r∈ro,r∈ro') (h:vld L=false):CmPost F ex ro L (.returned (.tuple #[.string (ByteArray.mk #[]),.bool false,.bool true])) w:=
 ⟨_,_,_,rfl,H.sub hs hr,fun _=>⟨h.symm,fun e=>by cases e⟩⟩
theorem CmPost.un (H:Sat F w exs ro') (hs:ex.Sublist exs) (hr:∀r∈ro,r∈ro'):CmPost F ex ro L (.returned (.tuple #[.string (ByteArray.mk #[]),.bool false,.bool false])) w:=
 ⟨_,_,_,rfl,H.sub hs hr,fun e=>by cases e⟩
theorem c29 {F : Fr} {w : World} {ex : List Ex} {ro : List Ro} {L : List Pk} {l : Option Addr} {c : Nat} (H : Sat F w ex ro) (hl : Ro.deep [.row 30 (L.flatMap Pk.dat)] [.slice l L.length c] ∈ ro) (hn : L.length ≤ 2000000) (hs : ∀ p ∈ L, p.size ≤ 1100000) : Calls pg 29 #[.slice l L.length c] w (CmPost F ex ro L) := by
  have hcap : L.length ≤ c := by
    have := (H.deep1 hl).len
    rw [flat_len Pk.dat_lenN] at this
    omega
  apply of29
  refine ⟨fun _ w => Sat F w ex ro ∧ ∃ P0 T, L = P0 :: T ∧ (P0.kind = 1 ∨ P0.kind = 2), ⟨fun h0 => ?_, fun h0 => ?_⟩, ?_⟩
  · have h0 : L.length = 0 := by simpa using h0
    have : L = [] := List.eq_nil_of_length_eq_zero h0
    subst this
    exact CmPost.no H (List.Sublist.refl _) (fun _ h => h) rfl
  · have h0 : 0 < L.length := by have : L.length ≠ 0 := by simpa using h0
                                 omega
    obtain ⟨q0, us, e0, hus, hcell0, H1⟩ := H.eltF Pk.dat_lenN (by decide) hl (j := 0) h0
    obtain ⟨P0, hP0⟩ : ∃ P0, P0 = L[0] := ⟨_, rfl⟩
    rw [← hP0] at H1
    obtain ⟨a7, a8, a9, a10, a13, a14, a15, a16, a18, a24, a25, c7, c8, c9, c10, c13, c14, c15, c16, c18, c24, c25, R, rfl, hr, H1, _⟩ := H1.pkF List.mem_cons_self
    clear H1
    have hk0 : w.cell? ((q0.add ((0 : Int).toNat * 30)).add 0) = some (.int .i64 P0.kind) := hcell0 0 _ rfl
    have hLT : ∃ T, L = P0 :: T := ⟨L.tail, by subst hP0; cases L with | nil => simp at h0 | cons x r => rfl⟩
    obtain ⟨T, hLT⟩ := hLT
    refine ⟨q0, e0, by omega, by omega, _, hk0, fun hk1 => ⟨q0, e0, by omega, by omega, _, hk0, fun hk2 => ?_, fun hk2 => ⟨H, P0, T, hLT, .inr (by simpa using hk2)⟩⟩, fun hk1 => ⟨H, P0, T, hLT, .inl (by simpa using hk1)⟩⟩
    refine CmPost.no H (List.Sublist.refl _) (fun _ h => h) ?_
    have hk1 : P0.kind ≠ 1 := by simpa using hk1
    have hk2 : P0.kind ≠ 2 := by simpa using hk2
    rw [hLT]; simp [vld, hk1, hk2]
  clear H; rintro dd w ⟨H, P0, T, hLT, hk0⟩
  refine ⟨fun b x m w => ∃ j : Nat, x = (j : Int) ∧ j + m = L.length ∧ b = (L.take j).any nmd ∧ Sat F w ex ro, ⟨L.length, 0, rfl, by omega, by simp, H⟩, ?_⟩
  clear H; rintro dd2 b x m w ⟨j, rfl, hjm, hb, H⟩
  refine ⟨fun hc => ?_, fun hc => ?_⟩
  · rw [decide_eq_true_eq] at hc
    have hjl : j < L.length := by omega
    obtain ⟨p, us, e, hus, hcell, H1⟩ := H.eltF Pk.dat_lenN (by decide) hl (j := j) hjl
    have hsj := hs L[j] (List.getElem_mem hjl)
    have hb2 : (L.take (j + 1)).any nmd = (b || nmd L[j]) := by
      rw [List.take_add_one, List.getElem?_eq_getElem hjl, Option.toList_some, List.any_append, ← hb]
      simp
    clear H
    generalize L[j] = D at H1 hsj hb2
    obtain ⟨a7, a8, a9, a10, a13, a14, a15, a16, a18, a24, a25, c7, c8, c9, c10, c13, c14, c15, c16, c18, c24, c25, R, rfl, hr, H, _⟩ := H1.pkF List.mem_cons_self
    clear H1
    refine ⟨p, e, by omega, by omega, ?_⟩
    refine ⟨_, LdC (pkC D a7 a8 a9 a10 a13 a14 a15 a16 a18 a24 a25 c7 c8 c9 c10 c13 c14 c15 c16 c18 c24 c25) (by kernel_rfl) (by rw [show (j : Int).toNat * 30 = j * 30 by omega]; exact hcell), ?_⟩
    clear hcell
    refine sNew H ?_; clear H; intro b4 w _ H
    refine sSw0 H rfl (by kernel_rfl) (by rfl) (by rfl) ?_; clear H; intro w _ H
    replace H : Sat F w (.blk b4 63 (pkC D a7 a8 a9 a10 a13 a14 a15 a16 a18 a24 a25 c7 c8 c9 c10 c13 c14 c15 c16 c18 c24 c25) :: ex) R := H
    refine ⟨_, (by exact Ce (by exact add_flat _ _ _) H.b0 rfl), ?_⟩
    refine ⟨fun h3 => ?_, fun h3 => ?_⟩
    · have h3 : D.kind = 3 := by simpa using h3
      refine ⟨_, (by exact Ld0 rfl H.b0 (by kernel_rfl)), ?_⟩
      refine call_j (c69 H (hr _ List.mem_cons_self) hsj) ?_
      clear H; rintro _ w ⟨rfl, H⟩
      have hnm : nmd D = (cnC D.chunks).isSome := by simp [nmd, h3]
      rw [hnm] at hb2
      refine ⟨_, _, rfl, fun ht => ?_, fun ht => ?_⟩
      · exact ⟨m - 1, by omega, j + 1, by rw [wi64_of (by omega) (by omega)]; simp, by omega, by rw [hb2, ht]; rfl, H.sub (by repeat (first | exact List.Sublist.refl _ | apply List.Sublist.cons)) (fun r h => hr r (List.mem_cons_of_mem _ h))⟩
      · exact ⟨m - 1, by omega, j + 1, by rw [wi64_of (by omega) (by omega)]; simp, by omega, by rw [hb2, ht]; rfl, H.sub (by repeat (first | exact List.Sublist.refl _ | apply List.Sublist.cons)) (fun r h => hr r (List.mem_cons_of_mem _ h))⟩
    · have h3 : D.kind ≠ 3 := by simpa using h3
      have hnm : nmd D = false := by simp [nmd, h3]
      exact ⟨m - 1, by omega, j + 1, by rw [wi64_of (by omega) (by omega)]; simp, by omega, by rw [hb2, hnm]; simp, H.sub (by repeat (first | exact List.Sublist.refl _ | apply List.Sublist.cons)) (fun r h => hr r (List.mem_cons_of_mem _ h))⟩
  rw [decide_eq_false_iff_not] at hc
  rw [List.take_of_length_le (by omega)] at hb
  refine ⟨fun hn0 => ?_, fun _ => ?_⟩
  · refine CmPost.no H (List.Sublist.refl _) (fun _ h => h) ?_
    have hn0 : b = false := by simpa using hn0
    rw [hn0, hLT] at hb
    rw [hLT]
    cases hv : vldT T with
    | false => simp [vld, hv]
    | true =>
      have := vldT_any T hv
      simp [this] at hb
  have hT : L.length = T.length + 1 := by rw [hLT]; rfl
  refine ⟨by omega, by omega, fun x m w => ∃ j : Nat, x = (j : Int) ∧ j + m = T.length ∧ cmT T = cmT (T.drop j) ∧ Sat F w ex ro, ⟨T.length, 0, rfl, by omega, rfl, H⟩, ?_⟩
  clear H; rintro dd3 x m w ⟨j, rfl, hjm, hcm, H⟩
  refine ⟨fun hc => ?_, fun hc => CmPost.un H (List.Sublist.refl _) (fun _ h => h)⟩
  rw [decide_eq_true_eq] at hc
  have hjl : j < T.length := by omega
  have hjL : j + 1 < L.length := by omega
  obtain ⟨p, us, e, hus, hcell, H1⟩ := H.eltF Pk.dat_lenN (by decide) hl (j := j + 1) hjL
  have hsj := hs L[j + 1] (List.getElem_mem hjL)
  rw [List.drop_eq_getElem_cons hjl] at hcm
  have hLj : L[j + 1] = T[j] := by subst hLT; rfl
  rw [hLj] at H1 hsj
  clear H hLj
  generalize T[j] = D at H1 hsj hcm
  obtain ⟨a7, a8, a9, a10, a13, a14, a15, a16, a18, a24, a25, c7, c8, c9, c10, c13, c14, c15, c16, c18, c24, c25, R, rfl, hr, H, _⟩ := H1.pkF List.mem_cons_self
  clear H1
  refine ⟨p.add 30, by rw [e]; exact cutA1 (by omega), by omega, by omega, ?_⟩
  refine ⟨_, LdC (pkC D a7 a8 a9 a10 a13 a14 a15 a16 a18 a24 a25 c7 c8 c9 c10 c13 c14 c15 c16 c18 c24 c25) (by kernel_rfl) (by rw [add_add, show 30 + (j : Int).toNat * 30 = (j + 1) * 30 by omega]; exact hcell), ?_⟩
  clear hcell
  refine sNew H ?_; clear H; intro b4 w _ H
  refine sSw0 H rfl (by kernel_rfl) (by rfl) (by rfl) ?_; clear H; intro w _ H
  replace H : Sat F w (.blk b4 63 (pkC D a7 a8 a9 a10 a13 a14 a15 a16 a18 a24 a25 c7 c8 c9 c10 c13 c14 c15 c16 c18 c24 c25) :: ex) R := H
  refine ⟨_, (by exact Ce (by exact add_flat _ _ _) H.b0 rfl), ?_⟩
  refine ⟨fun h2 => ?_, fun h2 => ?_⟩
  · have h2 : D.kind = 2 := by simpa using h2
    exact ⟨m - 1, by omega, j + 1, by rw [wi64_of (by omega) (by omega)]; simp, by omega, by rw [hcm, cmT, if_pos h2], H.sub (by repeat (first | exact List.Sublist.refl _ | apply List.Sublist.cons)) (fun r h => hr r (List.mem_cons_of_mem _ h))⟩
  have h2 : D.kind ≠ 2 := by simpa using h2
  refine ⟨_, (by exact Ce (by exact add_flat _ _ _) H.b0 rfl), ?_⟩
  refine ⟨fun _ => CmPost.un H (by repeat (first | exact List.Sublist.refl _ | apply List.Sublist.cons)) (fun r h => hr r (List.mem_cons_of_mem _ h)), fun h3 => ?_⟩
  have h3 : D.kind = 3 := by simpa using h3
  refine ⟨_, (by exact Ld0 rfl H.b0 (by kernel_rfl)), ?_⟩
  refine call_j (c69 H (hr _ List.mem_cons_self) hsj) ?_
  clear H; rintro _ w ⟨rfl, H⟩
  rw [cmT, if_neg h2, if_pos h3] at hcm
  refine ⟨_, _, rfl, _, _, _, rfl, H.sub (by repeat (first | exact List.Sublist.refl _ | apply List.Sublist.cons)) (fun r h => hr r (List.mem_cons_of_mem _ h)), fun hu => ?_⟩
  have hv := vldT_cm hcm
  refine ⟨?_, fun hu => ?_⟩
  · rw [hu, hLT]
    rcases hk0 with h | h <;> simp [vld, h, hv, hu]
  · rw [hLT]
    show cmT T = _
    rw [hcm]
    cases ho : cnC D.chunks with
    | none => rw [ho] at hu; cases hu
    | some s => rfl
theorem map_fl {α β:Type} (f:α->β):∀l:List α,l.map f=l.flatMap fun x=>[f x]
 | []=>rfl
 | x::r=>by rw [aX,av,<-map_fl f r];rfl
theorem Sat.pkE (H:Sat F w ex ro) (hl:Ro.deep [.row 1 (L.map pkI)] [.slice a n c]∈ro) (hj:j < L.length) :
  ∃q b R,a=some q/\w.cell? (q.add (j*1))=some (.iface (tyK L[j].kind) (.pointer (some ⟨b,0,none⟩)))/\(∀r∈ro,r∈R)/\Sat F w ex R /\
   (L[j].kind=3->∃sa sc,Ro.cell b 0 (.slice sa L[j].chunks.length sc)∈R/\Ro.deep [.row 2 (L[j].chunks.flatMap Chk.dat)] [.slice sa L[j].chunks.length sc]∈R):=by
 rw [map_fl] at hl
 obtain ⟨q,us,e,hus,hcell,H1⟩:=H.eltF (k:=1) (fun _=>rfl) (by decide) hl (j:=j) hj
 clear H
 generalize L[j]=p at H1
 match us,hus with
 | [u],_=>
  have hc0:w.cell? (q.add (j*1))=some u:=hcell 0 u rfl
  obtain ⟨v,rfl,H2⟩:=H1.ifc (t:=tyK p.kind) (d:=.ptr (rtcpD p)) (u:=u) ms
  obtain ⟨b,vs,ro1,rfl,D0,hm,hd,hr,H3⟩:=H2.ptrC ms
  refine ⟨q,b,ro1,e,hc0,fun r h=>hr r (mt (mt h)),H3,fun h3=>?_⟩
  have hD:rtcpD p=[.row 2 (p.chunks.flatMap Chk.dat)]:=by unfold rtcpD;simp [h3]
  rw [hD] at D0 hd
  obtain ⟨v0,us0,rfl,d0,D1⟩:=D0.consInv
  obtain ⟨a0,n0,c0,rfl,e0⟩:=d0.rowInv
  rw [flat_len Chk.dat_len'] at e0
  obtain rfl:n0=p.chunks.length:=by omega
  exact ⟨a0,c0,hm 0 _ rfl,hd 0 _ _ rfl rfl⟩
theorem tyK1 {k:Int} (lo:0<=k) (hi:k<=13):tyK k=190↔k=1:=by
 have h:k=0\/k=1\/k=2\/k=3\/k=4\/k=5\/k=6\/k=7\/k=8\/k=9\/k=10\/k=11\/k=12\/k=13:=by omega
 rcases h with rfl | rfl | rfl | rfl | rfl | rfl | rfl | rfl | rfl | rfl | rfl | rfl | rfl | rfl<;>decide
theorem tyK2 {k:Int} (lo:0<=k) (hi:k<=13):tyK k=195↔k=2:=by
 have h:k=0\/k=1\/k=2\/k=3\/k=4\/k=5\/k=6\/k=7\/k=8\/k=9\/k=10\/k=11\/k=12\/k=13:=by omega
 rcases h with rfl | rfl | rfl | rfl | rfl | rfl | rfl | rfl | rfl | rfl | rfl | rfl | rfl | rfl<;>decide
theorem tyK3 {k:Int} (lo:0<=k) (hi:k<=13):tyK k=198↔k=3:=by
 have h:k=0\/k=1\/k=2\/k=3\/k=4\/k=5\/k=6\/k=7\/k=8\/k=9\/k=10\/k=11\/k=12\/k=13:=by omega
 rcases h with rfl | rfl | rfl | rfl | rfl | rfl | rfl | rfl | rfl | rfl | rfl | rfl | rfl | rfl<;>decide
theorem ta_pk {u xt:TypeId} {p:Option Addr} (h:ptrB pg u=true):∃q,(∀w,(Instr.typeAssert (.iface t (.pointer p)) xt u true).run pg w=.ok (.tuple #[.pointer q,.bool (decide (t=u))]) w)/\(t=u->q=p):=by
 by_cases ht:t=u
 ·subst ht
  exact ⟨p,fun w=>by rw [ta_yes h];simp,fun _=>rfl⟩
 ·exact ⟨none,fun w=>by rw [ta_no h ht];simp [ht],fun e=>absurd e ht⟩
def CErr (ro:List Ro):Prop:=∀i,i=3\/i=4\/i=5\/i=6->∃v,Ro.cell i 0 v∈ro/\isIf v/\isNilI v=false
theorem CErr.mono (h:CErr ro) (hr:∀r∈ro,r∈ro'):CErr ro':=fun i hi=>by
 obtain ⟨v,h1,h2⟩:=h i hi
 exact ⟨v,hr _ h1,h2⟩
def VaPost (F:Fr) (ex:List Ex) (ro:List Ro) (b:Bool) (en:Ending) (w':World):Prop:=∃v,en=.returned v/\isIf v/\isNilI v=b/\Sat F w' ex ro
theorem VaPost.err {R:List Ro} {b:Bool} (H:Sat F w exs R) (hs:ex.Sublist exs) (hr:∀r∈ro,r∈R) (hE:CErr ro) (hb:b=false) (i:Nat) (hi:i=3\/i=4\/i=5\/i=6):∃x,w.cell? ⟨i,0,none⟩=some x/\VaPost F ex ro b (.returned x) w:=by
 obtain ⟨v,h1,h2,h3⟩:=hE i hi
 exact ⟨v,H.cell (hr _ h1) rfl,v,rfl,h2,by rw [h3,hb],H.sub hs hr⟩
def hIn (i:Itm):Bool:=decide (i.1=1)
def hCn (y:Chk):Bool:=y.2.any hIn
theorem cnI_any:∀l:List Itm,(cnI l).isSome=l.any hIn
 | []=>rfl
 | i::r=>by
  unfold cnI
  rw [List.any_cons,<-cnI_any r]
  by_cases h:i.1=1<;>simp [hIn,h]
theorem cnC_any:∀l:List Chk,(cnC l).isSome=l.any hCn
 | []=>rfl
 | y::r=>by
  rw [List.any_cons,<-cnC_any r]
  show _=(y.2.any hIn || _)
  rw [<-cnI_any y.2]
  show (match cnI y.2 with | some s=>some s | none=>cnC r).isSome=_
  cases cnI y.2<;>simp
theorem any_take1 {α:Type} (f:α->Bool) (l:List α) (hj:j < l.length):(l.take (j+1)).any f=((l.take j).any f || f l[j]):=by
 rw [am,ai hj,Option.toList_some,List.any_append]
 simp
theorem c77 {F : Fr} {w : World} {ex : List Ex} {ro : List Ro} {L : List Pk} {l : Option Addr} {c : Nat} (H : Sat F w ex ro) (hl : Ro.deep [.row 1 (L.map pkI)] [.slice l L.length c] ∈ ro) (hn : L.length ≤ 2000000) (hs : ∀ p ∈ L, p.size ≤ 1100000) (hk : ∀ p ∈ L, 0 ≤ p.kind ∧ p.kind ≤ 13) (hE : CErr ro) : Calls pg 77 #[.slice l L.length c] w (VaPost F ex ro (vld L)) := by
  have hcap : L.length ≤ c := (H.deep1 hl).len.2.1
  apply of77
  refine ⟨fun h0 => ?_, fun h0 => ?_⟩
  · have h0 : L.length = 0 := by simpa using h0
    have : L = [] := List.eq_nil_of_length_eq_zero h0
    subst this
    exact VaPost.err H (List.Sublist.refl _) (fun _ h => h) hE rfl 3 (by omega)
  have h0 : 0 < L.length := by have : L.length ≠ 0 := by simpa using h0
                               omega
  obtain ⟨q0, b0, R0, e0, hc0, hr0, H0, _⟩ := H.pkE hl (j := 0) h0
  clear H0
  obtain ⟨P0, hP0⟩ : ∃ P0, P0 = L[0] := ⟨_, rfl⟩
  rw [← hP0] at hc0
  obtain ⟨T, hLT⟩ : ∃ T, L = P0 :: T := ⟨L.tail, by subst hP0; cases L with | nil => simp at h0 | cons x r => rfl⟩
  obtain ⟨lo0, hi0⟩ := hk P0 (by rw [hLT]; exact List.mem_cons_self)
  obtain ⟨t1, ht1, _⟩ := ta_pk (t := tyK P0.kind) (u := 190) (xt := 123) (p := some ⟨b0, 0, none⟩) (by kernel_rfl)
  obtain ⟨t2, ht2, _⟩ := ta_pk (t := tyK P0.kind) (u := 195) (xt := 123) (p := some ⟨b0, 0, none⟩) (by kernel_rfl)
  refine ⟨q0, e0, by omega, by omega, _, hc0, t1, _, ht1, t2, _, ht2, fun hf => ?_, fun hf => ?_⟩
  rotate_left
  · refine VaPost.err H (List.Sublist.refl _) (fun _ h => h) hE ?_ 6 (by omega)
    have hf1 : ¬ tyK P0.kind = 190 ∧ ¬ tyK P0.kind = 195 := by
      by_cases hA : tyK P0.kind = 190
      · rw [decide_eq_true hA] at hf; cases hf
      · rw [decide_eq_false hA] at hf; exact ⟨hA, of_decide_eq_false hf⟩
    rw [tyK1 lo0 hi0, tyK2 lo0 hi0] at hf1
    rw [hLT]; simp [vld, hf1.1, hf1.2]
  have hf1 : P0.kind = 1 ∨ P0.kind = 2 := by
    rw [← tyK1 lo0 hi0, ← tyK2 lo0 hi0]
    by_cases hA : tyK P0.kind = 190
    · exact .inl hA
    · rw [decide_eq_false hA] at hf; exact .inr (of_decide_eq_true hf)
  have hvL : vld L = vldT T := by rw [hLT]; rcases hf1 with h | h <;> simp [vld, h]
  have hT : L.length = T.length + 1 := by rw [hLT]; rfl
  rw [hvL]
  refine ⟨by omega, by omega, fun x m w => ∃ j : Nat, x = (j : Int) ∧ j + m = T.length ∧ vldT T = vldT (T.drop j) ∧ Sat F w ex ro, ⟨T.length, 0, rfl, by omega, rfl, H⟩, ?_⟩
  clear H; rintro dd3 x m w ⟨j, rfl, hjm, hcm, H⟩
  refine ⟨fun hc => ?_, fun hc => ?_⟩
  rotate_left
  · rw [decide_eq_false_iff_not] at hc
    refine VaPost.err H (List.Sublist.refl _) (fun _ h => h) hE ?_ 5 (by omega)
    rw [hcm, List.drop_of_length_le (by omega)]; rfl
  rw [decide_eq_true_eq] at hc
  have hjl : j < T.length := by omega
  have hjL : j + 1 < L.length := by omega
  obtain ⟨q, b, R, e, hcj, hr, H1, hx3⟩ := H.pkE hl (j := j + 1) hjL
  have hsj := hs L[j + 1] (List.getElem_mem hjL)
  have hkj := hk L[j + 1] (List.getElem_mem hjL)
  rw [List.drop_eq_getElem_cons hjl] at hcm
  have hLj : L[j + 1] = T[j] := by subst hLT; rfl
  rw [hLj] at hcj hsj hkj
  have hx3 : T[j].kind = 3 → ∃ sa sc, Ro.cell b 0 (.slice sa T[j].chunks.length sc) ∈ R ∧ Ro.deep [.row 2 (T[j].chunks.flatMap Chk.dat)] [.slice sa T[j].chunks.length sc] ∈ R := by rw [← hLj]; exact hx3
  clear hLj
  generalize T[j] = D at hcj hsj hkj hx3 hcm
  obtain ⟨lo, hi⟩ := hkj
  refine ⟨q.add 1, by rw [e]; exact cutA1 (by omega), by omega, by omega, _, by rw [add_add, show 1 + (j : Int).toNat * 1 = (j + 1) * 1 by omega]; exact hcj, ?_⟩
  obtain ⟨t3, ht3, _⟩ := ta_pk (t := tyK D.kind) (u := 195) (xt := 123) (p := some ⟨b, 0, none⟩) (by kernel_rfl)
  refine ⟨t3, _, ht3, fun h2 => ?_, fun h2 => ?_⟩
  · have h2 : D.kind = 2 := (tyK2 lo hi).1 (of_decide_eq_true h2)
    exact ⟨m - 1, by omega, j + 1, by rw [wi64_of (by omega) (by omega)]; simp, by omega, by rw [hcm, vldT, if_pos h2], H⟩
  have h2 : D.kind ≠ 2 := fun h => of_decide_eq_false h2 ((tyK2 lo hi).2 h)
  rw [vldT, if_neg h2] at hcm
  obtain ⟨t4, ht4, hp4⟩ := ta_pk (t := tyK D.kind) (u := 198) (xt := 123) (p := some ⟨b, 0, none⟩) (by kernel_rfl)
  refine ⟨t4, _, ht4, fun h3 => ?_, fun h3 => ?_⟩
  rotate_left
  · have h3 : D.kind ≠ 3 := fun h => of_decide_eq_false h3 ((tyK3 lo hi).2 h)
    exact VaPost.err H (List.Sublist.refl _) (fun _ h => h) hE (by rw [hcm]; simp [h3]) 4 (by omega)
  have h3e := of_decide_eq_true h3
  have h3 : D.kind = 3 := (tyK3 lo hi).1 h3e
  obtain ⟨sa, sc, hm, hd⟩ := hx3 h3
  rw [cnC_any] at hcm
  refine ⟨_, hp4 h3e, _, _, _, H1.cell hm rfl, ?_⟩
  have hcl := csz_len D.chunks
  have hcz := csz_mem D.chunks
  unfold Pk.size at hsj
  have hvt : vldT T = D.chunks.any hCn := by rw [hcm]; simp [h3]
  rw [hvt]
  have hER := hE.mono hr
  refine ⟨fun b x m w => ∃ j : Nat, x = (j : Int) ∧ j + m = D.chunks.length ∧ b = (D.chunks.take j).any hCn ∧ Sat F w ex R, ⟨D.chunks.length, 0, rfl, by omega, by simp, H1⟩, ?_⟩
  clear H H1 hc; rintro dd4 hb x m2 w ⟨j2, rfl, hjm2, hhb, H⟩
  refine ⟨fun hc => ?_, fun hc => ?_⟩
  rotate_left
  · rw [decide_eq_false_iff_not] at hc
    rw [List.take_of_length_le (by omega)] at hhb
    refine ⟨fun hf => ?_, fun hf => ?_⟩
    · obtain ⟨x, h1, v, h2⟩ := VaPost.err (ro := R) (b := hb) H (List.Sublist.refl _) (fun _ h => h) hER (by simpa using hf) 5 (by omega)
      obtain ⟨h3, h4, h5, h6⟩ := h2
      exact ⟨x, h1, v, h3, h4, by rw [h5, hhb], h6.sub (List.Sublist.refl _) hr⟩
    · have hf : hb = true := by simpa using hf
      exact ⟨_, rfl, trivial, by rw [← hhb, hf]; rfl, H.sub (List.Sublist.refl _) hr⟩
  rw [decide_eq_true_eq] at hc
  have hjc : j2 < D.chunks.length := by omega
  obtain ⟨q2, us, e2, hus, hcell, H1⟩ := H.eltF Chk.dat_len' (by decide) hd (j := j2) hjc
  have hDm := hcz D.chunks[j2] (List.getElem_mem hjc)
  have hh2 := any_take1 hCn D.chunks hjc
  rw [← hhb] at hh2
  clear H
  generalize D.chunks[j2] = Y at H1 hDm hh2
  obtain ⟨d0, mz⟩ := Y
  replace hDm : mz.length ≤ 2000000 := by have : mz.length ≤ csz D.chunks := hDm; omega
  replace hh2 : (D.chunks.take (j2 + 1)).any hCn = (hb || mz.any hIn) := hh2
  refine ⟨q2, e2, by omega, by omega, ?_⟩
  obtain ⟨x0, us0, rfl, H2⟩ := H1.uncons List.mem_cons_self
  obtain ⟨x1, us1, rfl, H3⟩ := H2.uncons (List.mem_cons_of_mem _ List.mem_cons_self)
  obtain rfl : us1 = [] := by simpa using hus
  obtain rfl := H2.one1 List.mem_cons_self
  obtain ⟨sa2, sn, sc2, rfl, hsl⟩ := H3.rowS List.mem_cons_self
  rw [flat_len Itm.dat_len] at hsl
  obtain rfl : sn = mz.length := by omega
  refine ⟨_, _, _, _, LdC [.int .u32 d0, .slice sa2 mz.length sc2] (by kernel_rfl) (by rw [show (j2 : Int).toNat * 2 = j2 * 2 by omega]; exact hcell), ?_⟩
  have H : Sat F w _ (.deep [.row 2 (mz.flatMap Itm.dat)] [.slice sa2 mz.length sc2] :: R) := H3.sub (List.Sublist.refl _) (fun r h => by
    rcases List.mem_cons.1 h with rfl | h
    · exact List.mem_cons_self
    · simp [h])
  clear H1 H2 H3 hcell
  refine sNew H ?_; clear H; intro b4 w _ H
  refine sSw0 H rfl (by kernel_rfl) (by rfl) (by rfl) ?_; clear H; intro w _ H
  refine ⟨_, _, _, (by exact Ce (by exact add_flat _ _ _) H.b0 rfl), ?_⟩
  refine ⟨fun b' x n w => ∃ i : Nat, x = (i : Int) ∧ i + n = mz.length ∧ b' = (hb || (mz.take i).any hIn) ∧ Sat F w (.blk b4 255 [.int .u32 d0, .slice sa2 mz.length sc2] :: ex) (.deep [.row 2 (mz.flatMap Itm.dat)] [.slice sa2 mz.length sc2] :: R), ⟨mz.length, 0, rfl, by omega, by simp, H⟩, ?_⟩
  clear H; rintro dd5 b' x n w ⟨i, rfl, him, hbi, H⟩
  refine ⟨fun hc => ?_, fun hc => ?_⟩
  rotate_left
  · rw [decide_eq_false_iff_not] at hc
    rw [List.take_of_length_le (by omega)] at hbi
    exact ⟨m2 - 1, by omega, j2 + 1, by rw [wi64_of (by omega) (by omega)]; simp, by omega, by rw [hh2, hbi], H.sub (by repeat (first | exact List.Sublist.refl _ | apply List.Sublist.cons)) (fun _ h => List.mem_cons_of_mem _ h)⟩
  rw [decide_eq_true_eq] at hc
  have hil : i < mz.length := by omega
  obtain ⟨q3, us, e3, hus, hcell, H1⟩ := H.eltF Itm.dat_len (by decide) List.mem_cons_self (j := i) hil
  have hh3 := any_take1 hIn mz hil
  clear H
  generalize mz[i] = Y at H1 hh3
  obtain ⟨t, s⟩ := Y
  refine ⟨q3, e3, by omega, by omega, ?_⟩
  obtain rfl := H1.ones (us := [.int .u8 t, .string s]) List.mem_cons_self
  refine ⟨_, _, LdC [.int .u8 t, .string s] (by kernel_rfl) (by rw [show (i : Int).toNat * 2 = i * 2 by omega]; exact hcell), ?_⟩
  have H := H1.sub (List.Sublist.refl _) (fun r h => List.mem_cons_of_mem _ h)
  clear H1 hcell
  refine sNew H ?_; clear H; intro b5 w _ H
  refine sSw0 H rfl (by kernel_rfl) (by rfl) (by rfl) ?_; clear H; intro w _ H
  refine ⟨_, (by exact Ce (by exact add_flat _ _ _) H.b0 rfl), ?_⟩
  refine ⟨fun ht => ?_, fun ht => ?_⟩
  · have ht : t = 1 := by simpa using ht
    exact ⟨n - 1, by omega, i + 1, by rw [wi64_of (by omega) (by omega)]; simp, by omega, by rw [hh3]; simp [hIn, ht], H.sub (by repeat (first | exact List.Sublist.refl _ | apply List.Sublist.cons)) (fun _ h => h)⟩
  · have ht : t ≠ 1 := by simpa using ht
    exact ⟨n - 1, by omega, i + 1, by rw [wi64_of (by omega) (by omega)]; simp, by omega, by rw [hh3, hbi]; simp [hIn, ht], H.sub (by repeat (first | exact List.Sublist.refl _ | apply List.Sublist.cons)) (fun _ h => h)⟩
def CnPost (F:Fr) (ex:List Ex) (ro:List Ro) (T:List Pk) (en:Ending) (w':World):Prop:=∃s v,en=.returned (.tuple #[.string s,v])/\isIf v/\(vldT T=true->isNilI v=true/\cmT T=some (some s))/\Sat F w' ex ro
theorem CnPost.err {T:List Pk} (H:Sat F w ex ro) (hE:CErr ro) (hb:vldT T=false) (i:Nat) (hi:i=3\/i=4\/i=5\/i=6):∃x,w.drew.cell? ⟨i,0,none⟩=some x/\CnPost F ex ro T (.returned (.tuple #[.string (ByteArray.mk #[]),x])) w.drew:=by
 obtain ⟨v,h1,h2,h3⟩:=hE i hi
 exact ⟨v,H.drew.cell h1 rfl,_,v,rfl,h2,fun h=>(by rw [hb] at h;cases h),H.drew⟩
theorem c71 (H:Sat F w ex ro) (hl:Ro.deep [.row 1 (L.map pkI)] [.slice l L.length c]∈ro) (hn:L.length<=2000000) (hs:∀p∈L,p.size<=1100000) (hk:∀p∈L,0<=p.kind/\p.kind<=13) (hE:CErr ro):Calls pg 71 #[.slice l L.length c] w (CnPost F ex ro L.tail):=by
 have hcap:L.length<=c:=(H.deep1 hl).len.2.1
 apply of71
 refine ⟨fun h0=>?_,fun h0=>?_⟩
 ·rw [ah] at h0
  have:L=[]:=aF (by omega)
  subst this
  exact CnPost.err H hE rfl 3 (by omega)
 rw [af] at h0
 obtain ⟨P0,T,hLT⟩:∃P0 T,L=P0::T:=by
  cases L with
  | nil=>simp at h0
  | cons x r=>exact ⟨x,r,rfl⟩
 have hT:L.length=T.length+1:=by rw [hLT];rfl
 rw [show L.tail=T by rw [hLT];rfl]
 refine ⟨by omega,by omega,fun e x m w=>∃j:Nat,x=(j:Int)/\j+m=T.length/\isIf e/\(vldT T=true->isNilI e=true/\vldT (T.drop j)=true/\cmT T=cmT (T.drop j))/\Sat F w ex ro,⟨T.length,0,rfl,by omega,trivial,fun h=>⟨rfl,h,rfl⟩,H⟩,?_⟩
 clear H;rintro dd3 er x m w ⟨j,rfl,hjm,hif,hcm,H⟩
 refine ⟨fun hc=>?_,fun hc=>?_⟩
 rotate_left
 ·rw [af] at hc
  refine CnPost.err H hE ?_ 5 (by omega)
  cases hv:vldT T with
  | false=>rfl
  | true=>
   have:=(hcm hv).2.1
   rw [bF (by omega)] at this
   cases this
 rw [ah] at hc
 have hjl:j < T.length:=by omega
 have hjL:j+1 < L.length:=by omega
 obtain ⟨q,b,R,e,hcj,hr,H1,hx3⟩:=H.pkE hl (j:=j+1) hjL
 have hsj:=hs L[j+1] (ax hjL)
 have hkj:=hk L[j+1] (ax hjL)
 rw [bw hjl] at hcm
 have hLj:L[j+1]=T[j]:=by subst hLT;rfl
 rw [hLj] at hcj hsj hkj
 have hx3:T[j].kind=3->∃sa sc,Ro.cell b 0 (.slice sa T[j].chunks.length sc)∈R/\Ro.deep [.row 2 (T[j].chunks.flatMap Chk.dat)] [.slice sa T[j].chunks.length sc]∈R:=by rw [<-hLj];exact hx3
 clear hLj
 generalize T[j]=D at hcj hsj hkj hx3 hcm
 obtain ⟨lo,hi⟩:=hkj
 refine ⟨q.add 1,by rw [e];exact cutA1 (by omega),by omega,by omega,_,by rw [add_add,show 1+(j:Int).toNat*1=(j+1)*1 by omega];exact hcj,?_⟩
 obtain ⟨t4,ht4,hp4⟩:=ta_pk (t:=tyK D.kind) (u:=198) (xt:=123) (p:=some ⟨b,0,none⟩) (by kernel_rfl)
 refine ⟨t4,_,ht4,fun h3=>?_,fun h3=>?_⟩
 rotate_left
 ·have h3:D.kind≠3:=fun h=>of_decide_eq_false h3 ((tyK3 lo hi).2 h)
  obtain ⟨t3,ht3,_⟩:=ta_pk (t:=tyK D.kind) (u:=195) (xt:=123) (p:=some ⟨b,0,none⟩) (by kernel_rfl)
  refine ⟨t3,_,ht3,fun h2=>?_,fun h2=>?_⟩
  ·have h2:D.kind≠2:=fun h=>by rw [decide_eq_true ((tyK2 lo hi).2 h)] at h2;cases h2
   obtain ⟨v,g1,g2,g3⟩:=hE 4 (by omega)
   refine ⟨v,H.cell g1 rfl,m - 1,by omega,j+1,by rw [wi64_of (by omega) (by omega)];simp,by omega,g2,fun hv=>?_,H⟩
   have:=(hcm hv).2.1
   rw [vldT,ap h2] at this
   simp [h3] at this
  ·have h2:D.kind=2:=(tyK2 lo hi).1 (aO (by simpa using h2))
   refine ⟨m - 1,by omega,j+1,by rw [wi64_of (by omega) (by omega)];simp,by omega,hif,fun hv=>?_,H⟩
   obtain ⟨g1,g2,g3⟩:=hcm hv
   rw [vldT,aG h2] at g2
   rw [cmT,aG h2] at g3
   exact ⟨g1,g2,g3⟩
 have h3e:=aO h3
 have h3:D.kind=3:=(tyK3 lo hi).1 h3e
 obtain ⟨sa,sc,hm,hd⟩:=hx3 h3
 have h2:D.kind≠2:=by omega
 have hcm:vldT T=true->isNilI er=true/\(cnC D.chunks).isSome=true/\cmT T=some (cnC D.chunks):=fun hv=>by
  obtain ⟨g1,g2,g3⟩:=hcm hv
  rw [vldT,ap h2,decide_eq_true h3,Bool.true_and] at g2
  rw [cmT,ap h2,aG h3] at g3
  exact ⟨g1,g2,g3⟩
 refine ⟨_,hp4 h3e,_,_,_,H1.cell hm rfl,?_⟩
 have hcl:=csz_len D.chunks
 have hcz:=csz_mem D.chunks
 unfold Pk.size at hsj
 refine ⟨fun x m w=>∃j:Nat,x=(j:Int)/\j+m=D.chunks.length/\cnC D.chunks=cnC (D.chunks.drop j)/\Sat F w ex R,⟨D.chunks.length,0,rfl,by omega,rfl,H1⟩,?_⟩
 clear H H1 hc;rintro dd4 x m2 w ⟨j2,rfl,hjm2,hcn,H⟩
 refine ⟨fun hc=>?_,fun hc=>?_⟩
 rotate_left
 ·rw [af] at hc
  rw [bF (by omega)] at hcn
  refine ⟨m - 1,by omega,j+1,by rw [wi64_of (by omega) (by omega)];simp,by omega,hif,fun hv=>?_,H.sub (ak _) hr⟩
  have:=(hcm hv).2.1
  rw [hcn] at this
  cases this
 rw [ah] at hc
 have hjc:j2 < D.chunks.length:=by omega
 obtain ⟨q2,us,e2,hus,hcell,H1⟩:=H.eltF Chk.dat_len' (by decide) hd (j:=j2) hjc
 have hDm:=hcz D.chunks[j2] (ax hjc)
 rw [bw hjc] at hcn
 clear H
 generalize D.chunks[j2]=Y at H1 hDm hcn
 obtain ⟨d0,mz⟩:=Y
 replace hDm:mz.length<=2000000:=by have:mz.length<=csz D.chunks:=hDm;omega
 refine ⟨q2,e2,by omega,by omega,?_⟩
 obtain ⟨x0,us0,rfl,H2⟩:=H1.uncons ms
 obtain ⟨x1,us1,rfl,H3⟩:=H2.uncons (mt ms)
 obtain rfl:us1=[]:=by simpa using hus
 obtain rfl:=H2.one1 ms
 obtain ⟨sa2,sn,sc2,rfl,hsl⟩:=H3.rowS ms
 rw [flat_len Itm.dat_len] at hsl
 obtain rfl:sn=mz.length:=by omega
 refine ⟨_,_,_,_,LdC [.int .u32 d0,.slice sa2 mz.length sc2] (by kernel_rfl) (by rw [show (j2:Int).toNat*2=j2*2 by omega];exact hcell),?_⟩
 have H:Sat F w _ (.deep [.row 2 (mz.flatMap Itm.dat)] [.slice sa2 mz.length sc2]::R):=H3.sub (ak _) (fun r h=>by
  rcases aI.1 h with rfl | h
  ·exact ms
  ·simp [h])
 clear H1 H2 H3 hcell
 refine sNew H ?_;clear H;intro b4 w _ H
 refine sSw0 H (h:=?_);clear H;intro w _ H
 refine ⟨_,_,_,(H.b0.at0 rfl),?_⟩
 refine ⟨fun x n w=>∃i:Nat,x=(i:Int)/\i+n=mz.length/\cnI mz=cnI (mz.drop i)/\Sat F w (.blk b4 255 [.int .u32 d0,.slice sa2 mz.length sc2]::ex) (.deep [.row 2 (mz.flatMap Itm.dat)] [.slice sa2 mz.length sc2]::R),⟨mz.length,0,rfl,by omega,rfl,H⟩,?_⟩
 clear H;rintro dd5 x n w ⟨i,rfl,him,hin,H⟩
 refine ⟨fun hc=>?_,fun hc=>?_⟩
 rotate_left
 ·rw [af] at hc
  have hn:cnI mz=none:=by rw [hin,bF (by omega)];rfl
  refine ⟨m2 - 1,by omega,j2+1,by rw [wi64_of (by omega) (by omega)];simp,by omega,?_,H.dq (fun _ h=>mt h)⟩
  rw [hcn]
  simp only [cnC,hn]
 rw [ah] at hc
 have hil:i < mz.length:=by omega
 obtain ⟨q3,us,e3,hus,hcell,H1⟩:=H.eltF Itm.dat_len (by decide) ms (j:=i) hil
 rw [bw hil] at hin
 clear H
 generalize mz[i]=Y at H1 hin
 obtain ⟨t,s⟩:=Y
 refine ⟨q3,e3,by omega,by omega,?_⟩
 obtain rfl:=H1.ones (us:=[.int .u8 t,.string s]) ms
 refine ⟨_,_,LdC [.int .u8 t,.string s] (by kernel_rfl) (by rw [show (i:Int).toNat*2=i*2 by omega];exact hcell),?_⟩
 have H:=H1.sub (ak _) (fun r h=>mt h)
 clear H1 hcell
 refine sNew H ?_;clear H;intro b5 w _ H
 refine sSw0 H (h:=?_);clear H;intro w _ H
 refine ⟨_,(H.b0.at0 rfl),?_⟩
 refine ⟨fun ht=>?_,fun ht=>?_⟩
 ·have ht:t=1:=by simpa using ht
  refine ⟨_,(H.b0.at0 rfl),?_⟩
  refine ⟨s,er,rfl,hif,fun hv=>⟨(hcm hv).1,?_⟩,H.dq (fun r h=>mt (hr r h))⟩
  rw [(hcm hv).2.2,hcn]
  simp only [cnC,hin,cnI,ht,if_true]
 ·have ht:t≠1:=by simpa using ht
  exact ⟨n - 1,by omega,i+1,by rw [wi64_of (by omega) (by omega)];simp,by omega,by rw [hin];simp only [cnI,ht,bO],H.dr⟩
theorem BuOk.all (hB:∀p∈L,BuOk p):(∀p∈L,p.size<=1100000)/\∀p∈L,0<=p.kind/\p.kind<=13:=
 ⟨fun p hp=>by have:=(hB p hp).sz;omega,fun p hp=>⟨(hB p hp).lo,by have:=(hB p hp).hi;omega⟩⟩
theorem c76 {t1:TypeId} (H:Sat F w (e0::.blk p1 t1 [.slice l L.length c]::ex) ro) (hl:Ro.deep [.row 30 (L.flatMap Pk.dat)] [.slice l L.length c]∈ro) (hL:L.length<=1000000) (hB:∀p∈L,BuOk p) (hE:CErr ro) :
  Calls pg 76 #[.pointer (some ⟨p1,0,none⟩)] w fun en w'=>en=.returned (.bool (vld L))/\Sat F w' (e0::.blk p1 t1 [.slice l L.length c]::ex) ro:=by
 apply of76
 refine ⟨_,_,_,(by exact Ce (by rfl) H.b1 rfl),?_⟩
 refine call_j (c46 H hl hL hB) ?_
 clear H;rintro _ w ⟨o,oc,rfl,H⟩
 refine ⟨_,_,_,rfl,?_⟩
 refine call_j (c77 H ms (by omega) (BuOk.all hB).1 (BuOk.all hB).2 (hE.mono (fun r h=>mt h))) ?_
 clear H;rintro _ w ⟨v,rfl,hif,hb,H⟩
 exact ⟨v,rfl,hif,by rw [hb],H.sub (ak _) (fun r h=>mt h)⟩
theorem c33 (H:Sat F w ex ro) (hl:Ro.deep [.row 30 (L.flatMap Pk.dat)] [.slice l L.length c]∈ro) (hL:L.length<=1000000) (hB:∀p∈L,BuOk p) (hE:CErr ro) :
  Calls pg 33 #[.slice l L.length c] w fun en w'=>en=.returned (.bool (vld L))/\Sat F w' ex ro:=by
 apply of33
 refine sNew H ?_;clear H;intro p1 w _ H
 refine sTry H (by kernel_rfl) ?_
 clear H;intro tb w H
 refine call_j (c76 H hl hL hB hE) ?_
 clear H;rintro _ w ⟨rfl,H⟩
 refine ⟨vld L,_,_,rfl,H,?_⟩
 clear H;intro w H
 exact ⟨_,rfl,rfl,H.d1⟩
theorem c70 {t1 t3:TypeId} (H:Sat F w (e0::.blk p3 t3 [v]::.blk p1 t1 [.slice l L.length c]::ex) ro) (hl:Ro.deep [.row 30 (L.flatMap Pk.dat)] [.slice l L.length c]∈ro) (hL:L.length<=1000000) (hB:∀p∈L,BuOk p) (hE:CErr ro) :
  Calls pg 70 #[.pointer (some ⟨p1,0,none⟩),.pointer (some ⟨p3,0,none⟩)] w fun en w'=>∃b s,en=.returned (.bool b)/\(vldT L.tail=true->b=true/\cmT L.tail=some (some s))/\Sat F w' (e0::.blk p3 t3 [.string s]::.blk p1 t1 [.slice l L.length c]::ex) ro:=by
 apply of70
 refine ⟨_,_,_,(by exact Ce (by rfl) H.b2 rfl),?_⟩
 refine call_j (c46 H hl hL hB) ?_
 clear H;rintro _ w ⟨o,oc,rfl,H⟩
 refine ⟨_,_,_,rfl,?_⟩
 refine call_j (c71 H ms (by omega) (BuOk.all hB).1 (BuOk.all hB).2 (hE.mono (fun r h=>mt h))) ?_
 clear H;rintro _ w ⟨s,v,rfl,hif,hb,H⟩
 refine ⟨s,v,rfl,?_⟩
 refine sSt1 H (by rfl) (h:=?_);clear H;intro w _ H
 exact ⟨hif,_,s,rfl,hb,H.sub (ak _) (fun r h=>mt h)⟩
theorem c30 (H:Sat F w ex ro) (hl:Ro.deep [.row 30 (L.flatMap Pk.dat)] [.slice l L.length c]∈ro) (hL:L.length<=1000000) (hB:∀p∈L,BuOk p) (hE:CErr ro) :
  Calls pg 30 #[.slice l L.length c] w fun en w'=>∃s b,en=.returned (.tuple #[.string s,.bool b])/\(vldT L.tail=true->b=true/\cmT L.tail=some (some s))/\Sat F w' ex ro:=by
 apply of30
 refine sNew H ?_;clear H;intro p1 w _ H
 refine sNew H ?_;clear H;intro p3 w _ H
 refine sTry H (by kernel_rfl) ?_
 clear H;intro tb w H
 refine call_j (c70 H hl hL hB hE) ?_
 clear H;rintro _ w ⟨b,s,rfl,hb,H⟩
 refine ⟨b,_,_,rfl,H,?_⟩
 clear H;intro w H
 refine ⟨_,rfl,fun hf=>?_,fun hf=>?_⟩
 ·refine sSt0 H (by rfl) (h:=?_);clear H;intro w _ H
  refine ⟨_,(by exact Ce (by rfl) H.b0 rfl),?_⟩
  refine ⟨_,false,rfl,fun hv=>?_,H.sub ((sc1).trans (sc1)) (fun _ h=>h)⟩
  rw [(hb hv).1] at hf;cases hf
 ·refine ⟨_,(by exact Ce (by rfl) H.b0 rfl),?_⟩
  refine sSt0 H (by rfl) (h:=?_);clear H;intro w _ H
  refine ⟨_,(by exact Ce (by rfl) H.b0 rfl),?_⟩
  exact ⟨s,true,rfl,fun hv=>⟨rfl,(hb hv).2⟩,H.sub ((sc1).trans (sc1)) (fun _ h=>h)⟩
def cmX (L:List Pk):List Int:=if vld L then L.flatMap wrOne else []
theorem nilB (H:Sat F w ex ro) {X:List Int} (hX:X=[]):Sat F w ex (Ro.B X none X.length 0::ro):=by
 subst hX
 exact H.addRo (dc (.emp _ _) dn)
theorem c73 (H:Sat F w ex ro) (hl:Ro.deep [.row 1 (L.map pkI)] [.slice l L.length c]∈ro) (hL:L.length<=1000000) (hB:∀p∈L,BuOk p) (hW:∀p∈L,WrOk p) (hN:(L.flatMap wrOne).length<=50000000) (hE:CErr ro) :
  Calls pg 73 #[.slice l L.length c] w fun en w'=>∃a ac e ro',en=.returned (.tuple #[.slice a (cmX L).length ac,e])/\isIf e/\isNilI e=vld L/\(∀r∈ro,r∈ro')/\Sat F w' ex ro'/\Ro.B (cmX L) a (cmX L).length ac∈ro':=by
 apply of73
 refine call_j (c77 H hl (by omega) (BuOk.all hB).1 (BuOk.all hB).2 hE) ?_
 clear H;rintro _ w ⟨v,rfl,hif,hb,H⟩
 refine ⟨v,rfl,hif,fun h=>?_,fun h=>?_⟩
 ·have hv:vld L=false:=by rw [<-hb];simpa using h
  have hX:cmX L=[]:=by unfold cmX;rw [hv];rfl
  exact ⟨none,0,v,_,by rw [hX];rfl,hif,hb,fun r h=>mt h,nilB H hX,ms⟩
 ·have hv:vld L=true:=by rw [<-hb];simpa using h
  have hX:cmX L=L.flatMap wrOne:=by unfold cmX;rw [hv];rfl
  refine call_j (c45 H hl hL hW hN) ?_
  clear H;rintro _ w ⟨a,ac,ro',rfl,hr,H,hm⟩
  rw [<-hX] at hm ⊢
  exact ⟨_,_,_,_,rfl,a,ac,.nilIface,ro',rfl,trivial,by rw [hv];rfl,hr,H,hm⟩
theorem c72 {t1 t3:TypeId}
  (H:Sat F w (e0::.blk p3 t3 [v]::.blk p1 t1 [.slice l L.length c]::ex) ro) (hl:Ro.deep [.row 30 (L.flatMap Pk.dat)] [.slice l L.length c]∈ro) (hL:L.length<=1000000) (hB:∀p∈L,BuOk p) (hW:∀p∈L,WrOk p) (hN:(L.flatMap wrOne).length<=50000000) (hE:CErr ro) :
  Calls pg 72 #[.pointer (some ⟨p1,0,none⟩),.pointer (some ⟨p3,0,none⟩)] w fun en w'=>en=.returned (.bool (vld L)) /\
   ∃o oc ro',(∀r∈ro,r∈ro')/\Sat F w' (e0::.blk p3 t3 [.slice o (cmX L).length oc]::.blk p1 t1 [.slice l L.length c]::ex) ro'/\Ro.B (cmX L) o (cmX L).length oc∈ro':=by
 apply of72
 refine ⟨_,_,_,(by exact Ce (by rfl) H.b2 rfl),?_⟩
 refine call_j (c46 H hl hL hB) ?_
 clear H;rintro _ w ⟨o,oc,rfl,H⟩
 refine ⟨_,_,_,rfl,?_⟩
 refine call_j (c73 H ms hL hB hW hN (hE.mono (fun r h=>mt h))) ?_
 clear H;rintro _ w ⟨a,ac,e,ro',rfl,hif,hb,hr,H,hm⟩
 refine ⟨_,_,_,_,rfl,?_⟩
 refine sSt1 H (by rfl) (h:=?_);clear H;intro w _ H
 exact ⟨hif,by rw [hb],a,ac,ro',fun r h=>hr r (mt h),H,hm⟩
theorem c31 (H:Sat F w ex ro) (hl:Ro.deep [.row 30 (L.flatMap Pk.dat)] [.slice l L.length c]∈ro) (hL:L.length<=1000000) (hB:∀p∈L,BuOk p) (hW:∀p∈L,WrOk p) (hN:(L.flatMap wrOne).length<=50000000) (hE:CErr ro) :
  Calls pg 31 #[.slice l L.length c] w fun en w'=>∃o oc ro',en=.returned (.tuple #[.slice o (cmX L).length oc,.bool (vld L)])/\(∀r∈ro,r∈ro')/\Sat F w' ex ro'/\Ro.B (cmX L) o (cmX L).length oc∈ro':=by
 apply of31
 refine sNew H ?_;clear H;intro p1 w _ H
 refine sNew H ?_;clear H;intro p3 w _ H
 refine sTry H (by kernel_rfl) ?_
 clear H;intro tb w H
 refine call_j (c72 H hl hL hB hW hN hE) ?_
 clear H;rintro _ w ⟨rfl,o,oc,ro',hr,H,hm⟩
 refine ⟨vld L,_,_,rfl,H,?_⟩
 clear H;intro w H
 refine ⟨_,rfl,fun hf=>?_,fun hf=>?_⟩
 ·have hv:vld L=false:=by simpa using hf
  have hX:cmX L=[]:=by unfold cmX;rw [hv];rfl
  refine sSt0 H (by rfl) (h:=?_);clear H;intro w _ H
  refine ⟨_,_,_,(by exact Ce (by rfl) H.b0 rfl),?_⟩
  exact ⟨none,0,_,by rw [hX,hv];rfl,fun r h=>mt (hr r h),nilB (H.sub ((sc1).trans (sc1)) (fun _ h=>h)) hX,ms⟩
 ·have hv:vld L=true:=by simpa using hf
  refine ⟨_,_,_,(by exact Ce (by rfl) H.b0 rfl),?_⟩
  refine sSt0 H (by rfl) (h:=?_);clear H;intro w _ H
  refine ⟨_,_,_,(by exact Ce (by rfl) H.b0 rfl),?_⟩
  exact ⟨o,oc,ro',by rw [hv],hr,H.sub ((sc1).trans (sc1)) (fun _ h=>h),hm⟩
theorem c75 {v0:Value} (H:Sat F w (.blk b t [v0]::ex) ro)
  (hx:Ro.B xs a n c∈ro) (hb:By xs) (hE:ErrC False ro) (hC:CErr ro) (hn:n<=270000) (hgl:gl xs.length xs=some L) (hLn:L.length<=1000000) (hG:∀p∈L,Gd p n) :
  Calls pg 75 #[.pointer (some ⟨b,0,none⟩),.slice a n c] w fun en w'=>∃o oc v ro',en=.returned v/\isIf v/\isNilI v=vld L/\(∀r∈ro,r∈ro')/\Sat F w' (.blk b t [.slice o L.length oc]::ex) ro'/\Ro.deep [.row 1 (L.map pkI)] [.slice o L.length oc]∈ro':=by
 apply of75
 have hlen:=H.lenB hx
 refine sMk H (e:=123) (z:=.nilIface) (bytes:=16) (by kernel_rfl) (by kernel_rfl) (by rfl) (by unfold maxLen;omega) (by omega) (n:=0) (by rfl) (by rfl) ?_
 clear H;intro g w _ H
 replace H:=H.toOwn 1 0 [] (by rfl) (by decide) (fun G h=>DeepL.nil _ _)
 refine ⟨fun a' l' c' oa ol oc m w=>∃(ys:List Int) (f:Nat) (A L2:List Pk) (r:Option Nat),l'=m/\ys.length=l'/\l'<=f/\l'+ol<=n/\By ys/\gl f ys=some L2/\L=A++L2/\ol=A.length/\Sat F w (.own 123 1 oa ol oc r (A.map pkI)::.blk b t [v0]::ex) (Ro.B ys a' l' c'::ro),
  ⟨n,xs,n,[],L,_,rfl,hlen,aN _,by omega,hb,by rw [<-hlen];exact hgl,rfl,rfl,H.sub (ak _) (fun r hr=>by rcases aI.1 hr with rfl | h;exact hx;exact h)⟩,?_⟩
 clear H;rintro dd2 a' l' c' oa ol oc m w ⟨ys,f,A,L2,r,rfl,hyl,hlf,hol,hby,hg,hLA,rfl,H⟩
 refine ⟨fun hc=>?_,fun hc=>?_⟩
 ·have hl0:l'≠0:=by simpa using hc
  have hne:ys≠[]:=by rintro rfl;exact hl0 hyl.symm
  cases f with
  | zero=>omega
  | succ f=>
  obtain ⟨hfit,p,L3,h1,h2,rfl⟩:=gl_cons hg hne
  have hk:=go_kind hby hfit h1 (by have:=(hG p (by rw [hLA];simp)).hi;omega)
  have hNe:(4*(hL ys+1)).toNat=hN ys:=rfl
  refine call_j (c79 H ms hby ((hE.mono (fun r h=>mt h)).imp (fun h=>by rw [hNe,h1] at h;cases h)) (by omega) hk) ?_
  rintro en w2 (⟨hbad,_⟩ | ⟨ho,hS,T,v,e,ro',rfl,he1,hr',H2,hp⟩)
  ·exfalso
   rcases hbad with h | h
   ·rw [hfit.1] at h;cases h
   ·have:=hfit.2;omega
  clear H
  have hLr:0<=hL ys/\hL ys < 65536:=by unfold hL;exact n16_lt (hby.drop 2)
  obtain ⟨rfl,hm⟩:=hp p h1
  refine ⟨_,_,_,rfl,he1,fun he=>absurd he (by decide),fun _=>?_⟩
  refine ⟨rfl,?_⟩
  refine sPush0 H2 (bytes:=16) (nds:=[pkI p]) (hD:=(fun G h=>dc (h (.deep [_] [_]) hm).head dn)) (hK:=?_)
  clear H2;intro o2 ol2 oc2 r2 w ex2 _ H
  subst ex2
  have hN4:4<=hN ys/\hN ys<=l':=by unfold hN;omega
  refine ⟨by omega,by omega,?_⟩
  rw [hNe]
  have H3:=H.skipB (hr' _ ms) (hN ys) (by omega)
  refine ⟨l' - hN ys,by omega,ys.drop (hN ys),f,A++[p],L3,r2,rfl,by rw [az,hyl],by omega,by omega,hby.drop _,h2,by rw [hLA,an];rfl,by simp,?_⟩
  rw [bM]
  exact H3.sub (ak _) (fun r h=>by rcases aI.1 h with rfl | h;exact ms;exact mt (hr' _ (mt h)))
 ·have hl0:l'=0:=by simpa using hc
  subst hl0
  obtain rfl:ys=[]:=aF hyl
  obtain rfl:=gl_nil hg
  rw [aE] at hLA
  subst hLA
  replace H:=H.freeze
  refine ⟨_,rfl,?_⟩
  refine sSt0 H (by rfl) (h:=?_);clear H;intro w _ H
  refine ⟨_,rfl,_,_,_,(by exact Ce (by rfl) H.b0 rfl),?_⟩
  refine call_j (c77 H ms (by omega) (fun p hp=>by have:=(hG p hp).sz;omega) (fun p hp=>⟨(hG p hp).lo,by have:=(hG p hp).hi;omega⟩) (hC.mono (fun r h=>mt (mt h)))) ?_
  clear H;rintro _ w ⟨v,rfl,hif,hb,H⟩
  exact ⟨v,rfl,oa,oc,v,_,rfl,hif,hb,fun r h=>mt (mt h),H,ms⟩
theorem c74 {t1 t3:TypeId}
  (H:Sat F w (e0::.blk p3 t3 [v]::.blk p1 t1 [.slice a n c]::ex) ro) (hx:Ro.B xs a n c∈ro) (hb:By xs) (hE:ErrC False ro) (hC:CErr ro) (hn:n<=270000) (hg:gl xs.length xs=some L) (hG:∀p∈L,Gd p n) (hL:L.length<=1000000) :
  Calls pg 74 #[.pointer (some ⟨p1,0,none⟩),.pointer (some ⟨p3,0,none⟩)] w fun en w'=>en=.returned (.bool (vld L)) /\
   ∃o oc ro',(∀r∈ro,r∈ro')/\Sat F w' (e0::.blk p3 t3 [.slice o L.length oc]::.blk p1 t1 [.slice a n c]::ex) ro'/\Ro.deep [.row 30 (L.flatMap Pk.dat)] [.slice o L.length oc]∈ro':=by
 apply of74
 have hlen:=H.lenB hx
 refine sNew H ?_;clear H;intro pc w _ H
 refine ⟨_,_,_,(by exact Ce (by rfl) H.b3 rfl),?_⟩
 refine call_j (c37 (xs:=xs) H hx (by omega)) ?_
 clear H;rintro _ w ⟨a',c',rfl,_,H⟩
 refine ⟨_,_,_,rfl,?_⟩
 have hm:∀r∈ro,r∈Ro.B xs a' n c'::ro:=fun r h=>mt h
 refine call_j (c75 H ms hb (hE.mono hm) (hC.mono hm) hn hg hL hG) ?_
 clear H;rintro _ w ⟨o,oc,e,ro',rfl,hif,hv,hr,H,hd⟩
 refine ⟨_,rfl,_,_,_,(by exact Ce (by rfl) H.b0 rfl),?_⟩
 refine call_j (c38 H hd hG hn hL) ?_
 clear H;rintro _ w ⟨o2,oc2,ro2,rfl,hr2,H,hd2⟩
 refine ⟨_,_,_,rfl,?_⟩
 refine sSt2 H (by rfl) (h:=?_);clear H;intro w _ H
 exact ⟨hif,by rw [hv],o2,oc2,ro2,fun r h=>hr2 r (hr r (hm r h)),H.d1,hd2⟩
theorem c32
  (H:Sat F w ex ro) (hx:Ro.B xs a n c∈ro) (hb:By xs) (hE:ErrC False ro) (hC:CErr ro) (hn:n<=270000) (hg:gl xs.length xs=some L) (hG:∀p∈L,Gd p n) (hL:L.length<=1000000) :
  Calls pg 32 #[.slice a n c] w fun en w'=>∃o m oc ro',en=.returned (.tuple #[.slice o m oc,.bool (vld L)])/\(∀r∈ro,r∈ro')/\Sat F w' ex ro'/\(vld L=true->m=L.length/\Ro.deep [.row 30 (L.flatMap Pk.dat)] [.slice o L.length oc]∈ro'):=by
 apply of32
 refine sNew H ?_;clear H;intro p1 w _ H
 refine sNew H ?_;clear H;intro p3 w _ H
 refine sTry H (by kernel_rfl) ?_
 clear H;intro tb w H
 refine call_j (c74 H hx hb hE hC hn hg hG hL) ?_
 clear H;rintro _ w ⟨rfl,o,oc,ro',hr,H,hd⟩
 refine ⟨vld L,_,_,rfl,H,?_⟩
 clear H;intro w H
 refine ⟨_,rfl,fun hf=>?_,fun hf=>?_⟩
 ·have hv:vld L=false:=by simpa using hf
  refine sSt0 H (by rfl) (h:=?_);clear H;intro w _ H
  refine ⟨_,_,_,(by exact Ce (by rfl) H.b0 rfl),?_⟩
  exact ⟨none,0,0,ro',by rw [hv],hr,H.sub ((sc1).trans (sc1)) (fun _ h=>h),fun h=>by rw [hv] at h;cases h⟩
 ·have hv:vld L=true:=by simpa using hf
  refine ⟨_,_,_,(by exact Ce (by rfl) H.b0 rfl),?_⟩
  refine sSt0 H (by rfl) (h:=?_);clear H;intro w _ H
  refine ⟨_,_,_,(by exact Ce (by rfl) H.b0 rfl),?_⟩
  exact ⟨o,L.length,oc,ro',by rw [hv],hr,H.sub ((sc1).trans (sc1)) (fun _ h=>h),fun _=>⟨rfl,hd⟩⟩
structure ByP (p:Pk):Prop where
 ext:By p.ext
 data:By p.data
 reps:∀y∈p.reports,0<=y.2.1/\y.2.1 < 256
 itms:∀y∈p.chunks,∀i∈y.2,0<=i.1/\i.1 < 256
 ents:∀y∈p.entries,0<=y.2/\y.2 < 256
theorem By.app {B:List Int} (h:By A) (k:By B):By (A++B):=fun x hx=>(aV.1 hx).elim (h x) (k x)
theorem By.fl {α:Type} {f:α->List Int} {L:List α} (h:∀y∈L,By (f y)):By (L.flatMap f):=fun x hx=>by
 obtain ⟨y,hy,hxy⟩:=List.mem_flatMap.1 hx
 exact h y hy x hxy
theorem by_0:By []:=fun x hx=>by cases hx
theorem by_c {a:Int} {r:List Int} (ha:0<=a/\a < 256) (h:By r):By (a::r):=fun x hx=>by
 rcases aI.1 hx with rfl | hx
 ·exact ha
 ·exact h x hx
theorem by_z (n:Nat):By (List.replicate n 0):=fun x hx=>by rw [(List.mem_replicate.1 hx).2];decide
theorem by16 {v:Int} (h:0<=v/\v < 65536):By (b16 v):=by_c (by omega) (by_c (by omega) by_0)
theorem by32 {v:Int} (h:u32R v):By (b32 v):=by
 obtain ⟨h1,h2⟩:0<=v/\v < 4294967296:=h
 exact by_c (by omega) (by_c (by omega) (by_c (by omega) (by_c (by omega) by_0)))
theorem by64 {v:Int} (h:0<=v/\v < 18446744073709551616):By (b64 v):=(by32 ⟨by omega,by omega⟩).app (by32 ⟨by omega,by omega⟩)
theorem bys (s:ByteArray):By (sbs s):=fun x hx=>by
 obtain ⟨c,_,rfl⟩:=bC.1 hx
 have:=c.toNat_lt
 omega
theorem byH {c t n:Int} (hc:0<=c/\c < 32) (ht:0<=t/\t < 256) (hn:0<=n/\n < 65536):By (hdrB c t n):=by_c (by omega) (by_c ht (by16 hn))
theorem byRep {x:Rep} (h:RepR x) (h1:0<=x.2.1/\x.2.1 < 256):By (wRep x):=by
 obtain ⟨a,b,c,d,e,f,g⟩:=x
 obtain ⟨h0,h2,h3,h4,h5,h6⟩:u32R a/\(0<=c/\c < 16777216)/\u32R d/\u32R e/\u32R f/\u32R g:=h
 exact ((((by32 h0).app (by_c h1 (by_c (by omega) (by_c (by omega) (by_c (by omega) by_0))))).app (by32 h3)).app (by32 h4)).app (by32 h5) |>.app (by32 h6)
theorem wr_By (h:WrOk p) (b:ByP p) (hl:(wrOne p).length<=262144):By (wrOne p):=by
 have lo:=h.lo
 have hi:=h.hi
 have hkk:p.kind=0\/p.kind=1\/p.kind=2\/p.kind=3\/p.kind=4\/p.kind=5\/p.kind=6\/p.kind=7\/p.kind=8\/p.kind=9\/p.kind=10\/p.kind=11\/p.kind=12:=by omega
 rcases hkk with hk | hk | hk | hk | hk | hk | hk | hk | hk | hk | hk | hk | hk
 ·rw [wr_0 hk];exact b.data
 ·obtain ⟨h1,h2,h3,h4,h5,hn,_,hx,hR⟩:=h.k1 hk
  rw [wr_1 hk]
  exact (byH ⟨by omega,by omega⟩ (by decide) ⟨by omega,by omega⟩).app (((((((by32 h1).app (by64 h2)).app (by32 h3)).app (by32 h4)).app (by32 h5)).app (By.fl fun y hy=>byRep (hR y hy) (b.reps y hy))).app b.ext)
 ·obtain ⟨h1,hn,_,hx,hR⟩:=h.k2 hk
  rw [wr_2 hk]
  exact (byH ⟨by omega,by omega⟩ (by decide) ⟨by omega,by omega⟩).app (((by32 h1).app (By.fl fun y hy=>byRep (hR y hy) (b.reps y hy))).app b.ext)
 ·obtain ⟨hn,hx,hR⟩:=h.k3 hk
  rw [wr_3 hk]
  refine (byH ⟨by omega,by omega⟩ (by decide) ⟨by omega,by omega⟩).app (By.fl fun y hy=>?_)
  obtain ⟨hs,hI⟩:=hR y hy
  have hb:=b.itms y hy
  obtain ⟨s,l⟩:=y
  exact (((by32 hs).app (By.fl fun i hi=>by_c (hb i hi) (by_c (by have:=(hI i hi).2;omega) (bys i.2)))).app (by_c (by decide) by_0)).app (by_z _)
 ·obtain ⟨hn,ht,hR⟩:=h.k4 hk
  have hw:=wBye_len p.text
  rw [wr_4 hk]
  refine (byH ⟨by omega,by omega⟩ (by decide) ⟨by omega,?_⟩).app ((By.fl fun y hy=>by32 (hR y hy)).app ?_)
  ·have:(wBye p.text).length<=260:=by rw [hw];split<;>(try unfold pad4)<;>omega
   omega
  ·unfold wBye
   split
   ·exact by_0
   ·exact ((by_c (by omega) by_0).app (bys _)).app (by_z _)
 ·obtain ⟨hs,h1,ht,_,hd⟩:=h.k5 hk
  rw [wr_5 hk]
  exact (byH hs (by decide) ⟨by omega,by omega⟩).app (((by32 h1).app (bys _)).app b.data)
 ·obtain ⟨h1,h2,hn,hR⟩:=h.k6 hk
  rw [wr_6 hk]
  exact (byH (by decide) (by decide) ⟨by omega,by omega⟩).app (((by32 h1).app (by32 h2)).app (By.fl fun y hy=>(by16 (hR y hy).1).app (by16 (hR y hy).2)))
 ·obtain ⟨h1,h2⟩:=h.k7 hk
  rw [wr_7 hk]
  exact (byH (by decide) (by decide) (by decide)).app ((by32 h1).app (by32 h2))
 ·obtain ⟨h1,h2,_,hx,hR⟩:=h.k8 hk
  rw [wr_8 hk]
  refine (byH (by decide) (by decide) ⟨by omega,by omega⟩).app (((by32 h1).app (By.fl fun y hy=>?_)).app (by32 h2))
  obtain ⟨a1,a2,a3,a4⟩:=hR y hy
  obtain ⟨s,bg,l⟩:=y
  replace a3:l.length<=16384:=a3
  refine ((((by32 a1).app (by16 a2)).app (by16 ⟨by omega,by omega⟩)).app (By.fl fun m hm=>?_)).app (by_z _)
  obtain ⟨c1,c2⟩:=a4 m hm
  obtain ⟨mb,me,mo⟩:=m
  simp only at c1 c2
  refine by16 ?_
  unfold metN
  cases mb
  ·simp only [be,bO];omega
  ·simp only [if_true];omega
 ·obtain ⟨h1,h2⟩:=h.k9 hk
  rw [wr_9 hk]
  exact (byH (by decide) (by decide) (by decide)).app ((by32 h1).app (by32 h2))
 ·obtain ⟨h1,h2,hn,hR⟩:=h.k10 hk
  rw [wr_10 hk]
  refine (byH (by decide) (by decide) ⟨by omega,by omega⟩).app (((by32 h1).app (by32 h2)).app (By.fl fun y hy=>?_))
  obtain ⟨c1,c2,c3⟩:=hR y hy
  obtain ⟨f,n,q⟩:=y
  simp only at c1 c2 c3
  exact by32 ⟨by omega,by omega⟩
 ·obtain ⟨h1,h2,hn,hR⟩:=h.k11 hk
  rw [wr_11 hk]
  exact (byH (by decide) (by decide) ⟨by omega,by omega⟩).app (((by32 h1).app (by32 h2)).app (By.fl fun y hy=>(by32 (hR y hy)).app (by_c (b.ents y hy) (by_c (by decide) (by_c (by decide) (by_c (by decide) by_0))))))
 ·obtain ⟨h1,hn,hR,m,i,m0,m1,hi63,hb⟩:=h.k12 hk
  obtain ⟨hE,hM⟩:=br_rng m0 m1 hi63
  rw [<-hb] at hE hM
  rw [wr_12 hk]
  refine (byH (by decide) (by decide) ⟨by omega,by omega⟩).app ((((by32 h1).app (by32 (by decide))).app ?_).app (By.fl fun y hy=>by32 (hR y hy)))
  exact by_c (by decide) (by_c (by decide) (by_c (by decide) (by_c (by decide) (by_c (by omega) (by_c (by omega) (by_c (by omega) (by_c (by omega) by_0)))))))
theorem trim_w (h:WrOk p):WrOk (trim p)/\wrOne (trim p)=wrOne p/\(trim p).kind=p.kind:=by
 have lo:=h.lo
 have hi:=h.hi
 have hkk:p.kind=0\/p.kind=1\/p.kind=2\/p.kind=3\/p.kind=4\/p.kind=5\/p.kind=6\/p.kind=7\/p.kind=8\/p.kind=9\/p.kind=10\/p.kind=11\/p.kind=12:=by omega
 rcases hkk with hk | hk | hk | hk | hk | hk | hk | hk | hk | hk | hk | hk | hk
 ·rw [wr_0 hk,show trim p={ data:=p.data } by unfold trim;simp [hk],hk];exact ⟨WrOk.of0 rfl,wr_0 rfl,rfl⟩
 ·rw [wr_1 hk,show trim p={ kind:=1,sender:=p.sender,ntp:=p.ntp,rtp:=p.rtp,packets:=p.packets,octets:=p.octets,reports:=p.reports,ext:=p.ext } by unfold trim;simp [hk],hk];exact ⟨WrOk.of1 rfl (h.k1 hk),wr_1 rfl,rfl⟩
 ·rw [wr_2 hk,show trim p={ kind:=2,sender:=p.sender,reports:=p.reports,ext:=p.ext } by unfold trim;simp [hk],hk];exact ⟨WrOk.of2 rfl (h.k2 hk),wr_2 rfl,rfl⟩
 ·rw [wr_3 hk,show trim p={ kind:=3,chunks:=p.chunks } by unfold trim;simp [hk],hk];exact ⟨WrOk.of3 rfl (h.k3 hk),wr_3 rfl,rfl⟩
 ·rw [wr_4 hk,show trim p={ kind:=4,sources:=p.sources,text:=p.text } by unfold trim;simp [hk],hk];exact ⟨WrOk.of4 rfl (h.k4 hk),wr_4 rfl,rfl⟩
 ·rw [wr_5 hk,show trim p={ kind:=5,sender:=p.sender,text:=p.text,sub:=p.sub,data:=p.data } by unfold trim;simp [hk],hk];exact ⟨WrOk.of5 rfl (h.k5 hk),wr_5 rfl,rfl⟩
 ·rw [wr_6 hk,show trim p={ kind:=6,sender:=p.sender,media:=p.media,pairs:=p.pairs } by unfold trim;simp [hk],hk];exact ⟨WrOk.of6 rfl (h.k6 hk),wr_6 rfl,rfl⟩
 ·rw [wr_7 hk,show trim p={ kind:=7,sender:=p.sender,media:=p.media } by unfold trim;simp [hk],hk];exact ⟨WrOk.of7 rfl (h.k7 hk),wr_7 rfl,rfl⟩
 ·rw [wr_8 hk,show trim p={ kind:=8,sender:=p.sender,blocks:=p.blocks,time:=p.time } by unfold trim;simp [hk],hk];exact ⟨WrOk.of8 rfl (h.k8 hk),wr_8 rfl,rfl⟩
 ·rw [wr_9 hk,show trim p={ kind:=9,sender:=p.sender,media:=p.media } by unfold trim;simp [hk],hk];exact ⟨WrOk.of9 rfl (h.k9 hk),wr_9 rfl,rfl⟩
 ·rw [wr_10 hk,show trim p={ kind:=10,sender:=p.sender,media:=p.media,slices:=p.slices } by unfold trim;simp [hk],hk];exact ⟨WrOk.of10 rfl (h.k10 hk),wr_10 rfl,rfl⟩
 ·rw [wr_11 hk,show trim p={ kind:=11,sender:=p.sender,media:=p.media,entries:=p.entries } by unfold trim;simp [hk],hk];exact ⟨WrOk.of11 rfl (h.k11 hk),wr_11 rfl,rfl⟩
 ·rw [wr_12 hk,show trim p={ kind:=12,sender:=p.sender,bits:=p.bits,sources:=p.sources } by unfold trim;simp [hk],hk];exact ⟨WrOk.of12 rfl (h.k12 hk),wr_12 rfl,rfl⟩
theorem trim_fl:∀{L:List Pk},(∀p∈L,WrOk p)->(L.map trim).flatMap wrOne=L.flatMap wrOne
 | [],_=>rfl
 | p::l,h=>by
  rw [aX,av,av,(trim_w (h p ms)).2.1,trim_fl fun q hq=>h q (mt hq)]
theorem fl_mem (h:p∈L):(wrOne p).length<=(L.flatMap wrOne).length:=by
 induction L with
 | nil=>cases h
 | cons q l ih=>
  rw [av,ae]
  rcases aI.1 h with rfl | h
  ·omega
  ·have:=ih h;omega
structure LsOk (L:List Pk):Prop where
 ok:∀p∈L.map trim,WrOk p
 bu:∀p∈L.map trim,BuOk p
 sz:∀p∈L.map trim,p.size<=1100000
 gd:∀p∈L.map trim,Gd p (L.flatMap wrOne).length
 by_:By (L.flatMap wrOne)
 gl:gl (L.flatMap wrOne).length (L.flatMap wrOne)=some (L.map trim)
 fl:(L.map trim).flatMap wrOne=L.flatMap wrOne
theorem ls_ok (h:∀p∈L,LgOk p (wrOne p)) (hl:(L.flatMap wrOne).length<=262144) (hb:∀p∈L,ByP p):LsOk L:=by
 have hG:∀p∈L,Gd (trim p) (L.flatMap wrOne).length:=fun p hp=>by
  have hk:=(trim_w (h p hp).ok).2.2
  have h1:=go_Gd (go_wr (h p hp).ok (h p hp).wx (h p hp).raw) (by rw [hk];have:=(h p hp).hi;omega)
  exact h1.mono (fl_mem hp)
 have hW:∀p∈L,WrOk p:=fun p hp=>(h p hp).ok
 refine ⟨fun q hq=>?_,fun q hq=>?_,fun q hq=>?_,fun q hq=>?_,?_,?_,trim_fl hW⟩
 ·obtain ⟨p,hp,rfl⟩:=bC.1 hq
  exact (trim_w (hW p hp)).1
 ·obtain ⟨p,hp,rfl⟩:=bC.1 hq
  have hw:=(trim_w (hW p hp)).1
  refine ⟨hw.lo,hw.hi,by have:=(hG p hp).sz;omega,fun hk=>?_⟩
  obtain ⟨_,_,_,m,i,h5,h6,h7,h8⟩:=hw.k12 hk
  rw [h8]
  have:=sgl_small h5 h6 h7
  omega
 ·obtain ⟨p,hp,rfl⟩:=bC.1 hq
  have:=(hG p hp).sz
  omega
 ·obtain ⟨p,hp,rfl⟩:=bC.1 hq
  exact hG p hp
 ·exact By.fl fun p hp=>wr_By (hW p hp) (hb p hp) (by have:=fl_mem hp;omega)
 ·exact (gl_wr L _ (fun p hp=>⟨(h p hp).ok,(h p hp).wx,(h p hp).raw⟩) (aN _)).2
theorem sSame (H:Sat F w (.blk g t (xs.map (Value.int .u8))::ex) ro) (hc:convB pg ty e=true) (hb:By xs) (h0:0 < xs.length) (hm:xs.length<=maxLen) (hn:n=xs.length)
  (hK:∀w',Sat F w' ex (Ro.B xs (some ⟨g,0,none⟩) n n::ro)->K (some ⟨g,0,none⟩) n n w'):∃a' l' c',∃w',(convert ty ty (.slice (some ⟨g,0,none⟩) n n)).run pg w=.ok (.slice a' l' c') w'/\K a' l' c' w':=by
 subst hn
 have hB:BS w g (some ⟨g,0,none⟩) xs.length xs.length xs:=⟨rfl,aN _,hm,hb,by simp,fun p hp _=>⟨0,by cases hp;rfl,fun i x hi=>H.b0.cell (by rw [aK,aW,hi];rfl)⟩,⟨_,_,_,H.b0.eq⟩⟩
 refine cv_same hc hB h0 ?_
 intro w' hs hg hB'
 have hgl:g < w'.heap.size:=hB'.lt
 have hnd:g ∉ foots ex:=by
  have:=H.nd
  rw [foots_cons,bT] at this
  exact fun h=>this.2.2 g (by simp [Ex.foot]) g h rfl
 have H':Sat F w' ex ro:=Sat.step (used:=[.blk g t (xs.map (Value.int .u8))]) (used':=[]) (rest:=ex) H ((Gr.of hg).mono (fun k _ h=>by injection h with h;subst h;simp [foots,Ex.foot])) (by simp [foots]) (fun q hq=>by simp [foots] at hq) (fun e he _=>by cases he)
 refine hK w' (H'.addRo (dc ?_ dn))
 obtain ⟨_,_,_,_,_,h6,_⟩:=hB'.and
 obtain ⟨o,ho,hx⟩:=h6 _ rfl h0
 obtain rfl:o=0:=by simpa using ho.symm
 refine .row 1 g 0 _ _ (ob xs) (xs.map (Value.int .u8)) (aN _) hm hgl hnd (by rw [ob_length,bd]) (by rw [ob_length,List.length_map]) (fun i v hi=>?_) (by rw [ob_ones];exact (DeepL.ones _).2)
 rw [aW] at hi
 cases hx':xs[i]? with
 | none=>rw [hx'] at hi;cases hi
 | some x=>
  rw [hx'] at hi
  cases hi
  exact hx i x hx'
def pli:Pk:={ kind:=9,sender:=1,media:=2 }
def pliB:List Int:=[129,206,0,2,0,0,0,1,0,0,0,2]
theorem pli_w:wrOne pli=pliB:=by rw [wr_9 rfl];decide
theorem pli_ok:WrOk pli:=WrOk.of9 rfl ⟨⟨by decide,by decide⟩,⟨by decide,by decide⟩⟩
theorem pli_go:go pliB=some pli:=by
 rw [<-pli_w,go_wr pli_ok ⟨fun h=>absurd h (by decide),fun h=>absurd h (by decide),fun h=>absurd h (by decide),fun h=>absurd h (by decide)⟩ (fun h=>absurd h (by decide))]
 rfl
theorem pli_Gd:Gd pli 12:=go_Gd pli_go (by decide)
theorem pli_bu:BuOk pli:=⟨by decide,by decide,by have:=pli_Gd.sz;omega,fun h=>absurd h (by decide)⟩
theorem pli_gl:gl 12 pliB=some [pli]:=by
 have:=(gl_wr [pli] 12 (fun p hp=>by
  obtain rfl:p=pli:=by simpa using hp
  exact ⟨pli_ok,⟨fun h=>absurd h (by decide),fun h=>absurd h (by decide),fun h=>absurd h (by decide),fun h=>absurd h (by decide)⟩,fun h=>absurd h (by decide)⟩) (by rw [av,pli_w];decide)).2
 rw [av,pli_w] at this
 exact this
theorem mOne1 {v3:Value} (H:Sat F w (e0::.blk p3 22 [v3]::.blk p1 75 cells::ex) ro) (hp:Ro.deep p.dat cells∈ro) (hB:BuOk p) (hW:WrOk p) :
  Calls pg 80 #[.pointer (some ⟨p1,0,none⟩),.pointer (some ⟨p3,0,none⟩)] w fun en w'=>en=.returned (.bool true) /\
   ∃a c ro',(∀r∈ro,r∈ro')/\Sat F w' (e0::.blk p3 22 [.slice a (wrOne p).length c]::.blk p1 75 cells::ex) ro'/\Ro.B (wrOne p) a (wrOne p).length c∈ro':=by
 obtain ⟨a7,a8,a9,a10,a13,a14,a15,a16,a18,a24,a25,c7,c8,c9,c10,c13,c14,c15,c16,c18,c24,c25,R,rfl,hr,H,_⟩:=H.pkF hp
 apply of80
 refine ⟨_,H.b2.ld,?_⟩
 refine call_j (c65 H (hr _ hp) hB) ?_
 clear H;rintro _ w ⟨T,v,ro',rfl,hr',H,hm⟩
 refine ⟨_,rfl,?_⟩
 refine inv_j (inM H hm hW) ?_
 clear H;rintro _ w ⟨a,cc,ro2,rfl,hr2,H,hm2⟩
 refine ⟨_,_,_,_,rfl,?_⟩
 refine sSt1 H (by rfl) (h:=?_);clear H;intro w _ H
 exact ⟨trivial,rfl,a,cc,ro2,fun r h=>hr2 r (hr' r (hr r h)),H,hm2⟩
theorem mOne (H:Sat F w ex ro) (hp:Ro.deep p.dat cells∈ro) (hB:BuOk p) (hW:WrOk p) :
  Calls pg 39 #[.agg cells.toArray] w fun en w'=>∃a c ro',en=.returned (.tuple #[.slice a (wrOne p).length c,.bool true])/\(∀r∈ro,r∈ro')/\Sat F w' ex ro'/\Ro.B (wrOne p) a (wrOne p).length c∈ro':=by
 apply of39
 refine sNew H ?_;clear H;intro p1 w _ H
 refine sNew H ?_;clear H;intro p3 w _ H
 refine sTry H (by kernel_rfl) ?_
 clear H;intro tb w H
 refine call_j (mOne1 H hp hB hW) ?_
 clear H;rintro _ w ⟨rfl,a,c,ro',hr,H,hm⟩
 refine ⟨true,_,_,rfl,H,?_⟩
 clear H;intro w H
 refine ⟨_,rfl,?_⟩
 refine fF ?_
 refine ⟨_,_,_,(by exact Ce (by rfl) H.b0 rfl),?_⟩
 refine sSt0 H (by rfl) (h:=?_);clear H;intro w _ H
 refine ⟨_,_,_,(by exact Ce (by rfl) H.b0 rfl),?_⟩
 exact ⟨a,c,ro',rfl,hr,H.sub ((sc1).trans (sc1)) (fun _ h=>h),hm⟩
theorem c13 (H:Sat F w ex ro) (hE:ErrC False ro):Calls pg 13 #[] w fun en w'=>en=.returned (.bool true)/\Sat F w' ex ro:=by
 apply of13
 have H1:Sat F w ex (.deep pli.dat [.int .i64 9,.int .u32 1,.int .u32 2,.int .u64 0,.int .u32 0,.int .u32 0,.int .u32 0,.slice none 0 0,.slice none 0 0,.slice none 0 0,.slice none 0 0,.string (ByteArray.mk #[]),.int .u8 0,.slice none 0 0,.slice none 0 0,.slice none 0 0,.slice none 0 0,.int .u32 0,.slice none 0 0,.int .u32 0,.int .u16 0,.int .u16 0,.int .u32 0,.int .u8 0,.slice none 0 0,.slice none 0 0,.bool false,.int .u8 0,.int .u8 0,.int .u16 0]::ro):=
  H.addD (fun G h=>by repeat (first | exact DeepL.nil _ _ | refine dc (Deep.one _) ?_ | refine dc (Deep.emp _ _) ?_))
 refine call_j (mOne H1 ms pli_bu pli_ok) ?_
 clear H H1;rintro _ w ⟨a,ac,ro',rfl,hr,H,hm⟩
 refine ⟨_,_,_,_,rfl,?_⟩
 refine sNew H ?_;clear H;intro p4 w _ H
 refine sSame (xs:=pliB) (e:=5) H (by kernel_rfl) (fun x hx=>by simp [pliB] at hx;omega) (by decide) (by decide) rfl ?_
 clear H;intro w H
 refine call_j (c12 (L:=[pli]) H ms (fun x hx=>by simp [pliB] at hx;omega) (hE.mono (fun r h=>mt (hr r (mt h)))) (by decide) (by simp) pli_gl (fun p hp=>List.eq_of_mem_singleton hp▸pli_Gd) (by simp)) ?_
 clear H;rintro _ w ⟨o,oc,ro2,rfl,hr2,H,hd⟩
 refine ⟨_,_,_,_,rfl,?_⟩
 have hlen:(wrOne pli).length=12:=by rw [pli_w];rfl
 refine ⟨fun _=>?_,fun hx=>by cases hx⟩
 refine ⟨fun _=>?_,fun hx=>by rw [hlen] at hx;exact absurd hx (by decide)⟩
 refine ⟨fun _=>?_,fun hx=>by cases hx⟩
 refine ⟨fun _=>?_,fun hx=>absurd hx (by decide)⟩
 obtain ⟨q0,us,e0,hus,hcell0,H1⟩:=H.eltF Pk.dat_lenN (by decide) hd (j:=0) (by decide)
 obtain ⟨a7,a8,a9,a10,a13,a14,a15,a16,a18,a24,a25,c7,c8,c9,c10,c13,c14,c15,c16,c18,c24,c25,R,rfl,hr3,H2,_⟩:=H1.pkF ms
 refine ⟨q0,e0,by decide,by decide,_,hcell0 0 _ rfl,fun _=>⟨q0,e0,by decide,by decide,_,hcell0 2 _ rfl,rfl,H.sub (ak _) (fun r h=>hr2 r (mt (hr r (mt h))))⟩,fun hx=>absurd hx (by decide)⟩
theorem exT0 (K:Value->Prop):exT pg 0 K=K (.tuple #[]):=by kernel_rfl
theorem fn_u {args args':Array Value} {K:Value->World->Prop} (hb:hasBody pg f=true) (he:args=args') (h:Calls pg f args' w R) (hR:∀e w',R e w'->e=.returned (.tuple #[])/\K (.tuple #[]) w'):fnVc pg f args 0 K w:=by
 subst he
 unfold fnVc
 rw [hb]
 exact h.mono fun e w' hr=>by unfold retK;rw [exT0];exact hR e w' hr
abbrev KS (b3:Nat) (T3:TypeId) (a:Option Addr) (n c:Nat) (r:Option Nat) (B:List Int) (ex:List Ex):List Ex:=.own 5 1 a n c r (ob B)::.blk b3 T3 [.slice a n c]::ex
def kL:List Int:=[56,48,40,32,24,16,8,0]
def kP (v:Int) (k:Nat):List Int:=(kL.take k).map fun i=>u8.wrap (ishr .u64 v i)
theorem kP_step (v:Int) (h:k < 8):kP v (k+1)=kP v k++[u8.wrap (ishr .u64 v (56 - 8*(k:Int)))]:=by
 have:k=0\/k=1\/k=2\/k=3\/k=4\/k=5\/k=6\/k=7:=by omega
 rcases this with rfl | rfl | rfl | rfl | rfl | rfl | rfl | rfl<;>rfl
theorem c81 {b3:Nat} {T3:TypeId} {B:List Int} {L:List Int} {lc:Nat} (H:Sat F w (KS b3 T3 a n c r B ex) ro)
  (hl:Ro.deep [.row 1 (oi .u64 L)] [.slice l L.length lc]∈ro) (hn:n+8*L.length<=90000000) :
  Calls pg 81 #[.slice l L.length lc,.pointer (some ⟨b3,0,none⟩)] w fun en w'=>en=.returned (.tuple #[])/\∃a' n' c' r',n'=n+8*L.length/\Sat F w' (KS b3 T3 a' n' c' r' (B++kn L) ex) ro:=by
 apply of81
 refine ⟨fun x m w=>∃(j:Nat) (a':Option Addr) (n' c':Nat) (r':Option Nat),x=(j:Int)/\j+m=L.length/\n'=n+8*j/\Sat F w (KS b3 T3 a' n' c' r' (B++kn (L.take j)) ex) ro,⟨L.length,0,a,n,c,r,rfl,by omega,by omega,by rw [aP];simpa [kn] using H⟩,?_⟩
 clear H;rintro dd2 x m w ⟨j,a,n1,c,r,rfl,hjm,hn1,H⟩
 refine ⟨fun hc=>?_,fun hc=>?_⟩
 ·rw [ah] at hc
  have hjl:j < L.length:=by omega
  have htk:L.take (j+1)=L.take j++[L[j]]:=by rw [am,ai hjl];rfl
  obtain ⟨bb,oo,hle,hcell⟩:=H.elt hl (by omega)
  have hc1:=hcell j (.int .u64 L[j]) (by rw [oi_get _ _ _ hjl];simp [List.getD,ai hjl])
  refine ⟨_,hle,by omega,by omega,?_⟩
  refine ⟨_,(by rw [show (j:Int).toNat*1=j by omega,add_flat];exact hc1),?_⟩
  clear hcell hc1
  generalize L[j]=v at htk
  obtain ⟨B1,hB1⟩:∃B1,B1=B++kn (L.take j):=⟨_,rfl⟩
  rw [<-hB1] at H
  refine ⟨fun i q w=>∃(k:Nat) (a':Option Addr) (n' c':Nat) (r':Option Nat),i=56 - 8*(k:Int)/\k+q=8/\n'=n1+k/\Sat F w (KS b3 T3 a' n' c' r' (B1++kP v k) ex) ro,⟨8,0,a,n1,c,r,by omega,by omega,by omega,by simpa [kP] using H⟩,?_⟩
  clear H;rintro dd3 i q w ⟨k,a,n2,c,r,rfl,hkq,hn2,H⟩
  refine ⟨fun hc2=>?_,fun hc2=>?_⟩
  ·rw [ah] at hc2
   have hk8:k < 8:=by omega
   refine ⟨r,?_⟩;replace H:=H.drew;generalize w.drew=w at H ⊢;obtain ⟨F2,ex2,S,back1,back2,hm⟩:=H.regO
   refine ⟨(H.ne (mt ms) ms),H.b1.row,_,_,_,(by exact Ce (by rfl) H.b1 rfl),?_⟩
   refine ⟨by omega,rfl,?_⟩
   clear H;have H:=S;clear S
   refine sNew H ?_;clear H;intro bp w _ H
   refine ⟨(back2 H).1,?_⟩
   have H1:=H.blkRow 1 1 (ob [u8.wrap (ishr .u64 v (56 - 8*(k:Int)))]) (by rfl) (by decide) (fun G h=>DeepL.ones [_])
   clear H
   refine sAppV H1 ms (by omega) ?_
   clear H1;intro a3 n3 c3 r3 w hn3 _ H
   refine ⟨(back1 H).1,?_⟩
   replace H:=(back1 H).2;clear back1 back2 hm
   refine sSt1 H (by rfl) (h:=?_);clear H;intro w _ H
   refine ⟨q - 1,by omega,k+1,a3,n3,c3,r3,by rw [wi64_of (by omega) (by omega)];omega,by omega,by omega,?_⟩
   rw [kP_step v hk8,<-an]
   exact H.sub (ak _) (fun r h=>mt h)
  ·rw [af] at hc2
   obtain rfl:k=8:=by omega
   refine ⟨m - 1,by omega,j+1,a,n2,c,r,by rw [wi64_of (by omega) (by omega)];simp,by omega,by omega,?_⟩
   have e:B++kn (L.take (j+1))=B1++kP v 8:=by
    rw [hB1,htk,an]
    unfold kn
    rw [aj,av,aD,aE]
    rfl
   rw [e]
   exact H
 ·rw [af] at hc
  obtain rfl:j=L.length:=by omega
  rw [ao] at H
  exact ⟨rfl,a,n1,c,r,hn1,H⟩
theorem nK {b3:Nat} {T3:TypeId} {B:List Int} (H:Sat F w (KS b3 T3 a n c r B ex) ro) (L:List Int) (hk:L.length=k) (hn:n+8*k<=90000000) (hk2:k<=100) {K:Value->World->Prop}
  (h:∀a' n' c' r' w',n'=n+8*k->Sat F w' (KS b3 T3 a' n' c' r' (B++kn L) ex) ro->K (.tuple #[]) w') :
  gNew (L.map (Value.int .u64)).toArray 52 (fun p w'=>fnVc pg 81 (#[]++#[.slice (some p) k k]++#[.pointer (some ⟨b3,0,none⟩)]) 0 K w') w:=by
 subst hk
 refine sNew H ?_
 clear H;intro bp w _ H
 have hd:∀G:Nat->Prop,DeepL w G (oi .u64 L) (L.map (Value.int .u64)):=fun G=>by
  have e:oi .u64 L=(L.map (Value.int .u64)).map .one:=by simp [oi]
  rw [e]
  exact DeepL.ones _
 have H1:=H.blkRow 1 L.length (oi .u64 L) (by simp) (by unfold maxLen;omega) (fun G h=>by simpa using hd G)
 clear H
 refine fn_u (args':=#[.slice (some ⟨bp,0,none⟩) L.length L.length,.pointer (some ⟨b3,0,none⟩)]) (by kernel_rfl) (by simp) (c81 H1 ms hn) ?_
 rintro _ w' ⟨rfl,a',n',c',r',hn',H⟩
 exact ⟨rfl,h a' n' c' r' w' hn' (H.sub (ak _) (fun r h=>mt h))⟩
theorem nn0 {a:Nat}:some a≠none:=aC _
theorem nKg {w0:World} {b3:Nat} {T3:TypeId} {B:List Int} (H:Sat F w (KS b3 T3 a n c r B ex) ro) (g:w0.grownBy w none) (L:List Int) (hk:L.length=k) (hn:n+8*k<=90000000) (hk2:k<=100) {K:Value->World->Prop}
  (h:∀a' n' c' r' w',n'=n+8*k->Sat F w' (KS b3 T3 a' n' c' r' (B++kn L) ex) ro->K (.tuple #[]) w') :
  gNew (L.map (Value.int .u64)).toArray 52 (fun p w'=>w0.grownBy w' none/\fnVc pg 81 (#[]++#[.slice (some p) k k]++#[.pointer (some ⟨b3,0,none⟩)]) 0 K w') w:=by
 subst hk
 refine sNew H ?_
 clear H;intro bp w g2 H
 refine ⟨gtr g g2,?_⟩
 have hd:∀G:Nat->Prop,DeepL w G (oi .u64 L) (L.map (Value.int .u64)):=fun G=>by
  have e:oi .u64 L=(L.map (Value.int .u64)).map .one:=by simp [oi]
  rw [e]
  exact DeepL.ones _
 have H1:=H.blkRow 1 L.length (oi .u64 L) (by simp) (by unfold maxLen;omega) (fun G h=>by simpa using hd G)
 clear H
 refine fn_u (args':=#[.slice (some ⟨bp,0,none⟩) L.length L.length,.pointer (some ⟨b3,0,none⟩)]) (by kernel_rfl) (by simp) (c81 H1 ms hn) ?_
 rintro _ w' ⟨rfl,a',n',c',r',hn',H⟩
 exact ⟨rfl,h a' n' c' r' w' hn' (H.sub (ak _) (fun r h=>mt h))⟩
theorem c82 {b3 b5:Nat} {T3 T5:TypeId} {B:List Int} (H:Sat F w (KS b3 T3 a n c r B (.blk b5 T5 [.func (.func 81) #[] #[.pointer (some ⟨b3,0,none⟩)]]::ex)) ro) (s:ByteArray) (hn:n+8+s.size<=90000000) :
  Calls pg 82 #[.string s,.pointer (some ⟨b5,0,none⟩),.pointer (some ⟨b3,0,none⟩)] w fun en w'=>en=.returned (.tuple #[])/\∃a' n' c' r',n'=n+8+s.size/\Sat F w' (KS b3 T3 a' n' c' r' (B++kt s) (.blk b5 T5 [.func (.func 81) #[] #[.pointer (some ⟨b3,0,none⟩)]]::ex)) ro:=by
 apply of82
 refine ⟨_,_,_,(by exact Ce (by rfl) H.b2 rfl),?_⟩
 refine ⟨rfl,?_⟩
 refine nK (k:=1) H [un s.size] rfl (by omega) (by decide) ?_
 clear H;intro a n2 c r w hn2 H
 refine ⟨_,_,_,(by exact Ce (by rfl) H.b1 rfl),?_⟩
 refine sAppS H s (by omega) (by omega) ?_
 clear H;intro a3 c3 r3 w H
 refine sSt1 H (by rfl) (h:=?_);clear H;intro w _ H
 refine ⟨rfl,a3,n2+s.size,c3,r3,by omega,?_⟩
 unfold kt
 rw [<-an]
 exact H
theorem c83 {x:Bool}:Calls pg 83 #[.bool x] w fun en w'=>en=.returned (.int .u64 (ub x))/\w'=w:=by
 apply of83
 cases x
 ·exact ⟨fun h=>absurd h (by decide),fun _=>⟨rfl,rfl⟩⟩
 ·exact ⟨fun _=>⟨rfl,rfl⟩,fun h=>absurd h (by decide)⟩
theorem kb_le (p:Pk):(kb1 p).length<=(keyB p).length/\(kb2 p).length<=(keyB p).length/\(kb3 p).length<=(keyB p).length/\(kb4 p).length<=(keyB p).length/\(kb5 p).length<=(keyB p).length/\(kb6 p).length<=(keyB p).length/\(kb7 p).length<=(keyB p).length/\(kb8 p).length<=(keyB p).length:=by
 have h8:(kb8 p).length<=(keyB p).length:=by unfold keyB;simp only [ae];omega
 have h7:(kb7 p).length<=(kb8 p).length:=by unfold kb8;simp only [ae];omega
 have h6:(kb6 p).length<=(kb7 p).length:=by unfold kb7;simp only [ae];omega
 have h5:(kb5 p).length<=(kb6 p).length:=by unfold kb6;simp only [ae];omega
 have h4:(kb4 p).length<=(kb5 p).length:=by unfold kb5;simp only [ae];omega
 have h3:(kb3 p).length<=(kb4 p).length:=by unfold kb4;simp only [ae];omega
 have h2:(kb2 p).length<=(kb3 p).length:=by unfold kb3;simp only [ae];omega
 have h1:(kb1 p).length<=(kb2 p).length:=by unfold kb2;simp only [ae];omega
 omega
theorem ssz_mem:∀(l:List Sta) (B:Sta),B∈l->B.2.2.2.2.length<=ssz l
 | c::r,B,h=>by
  simp only [ssz]
  rcases aI.1 h with rfl | h
  ·omega
  ·have:=ssz_mem r B h;omega
theorem fl1 {α:Type} {f:α->List Int} {L:List α} {D:α} (h:L.take (j+1)=L.take j++[D]) (B:List Int):B++(L.take (j+1)).flatMap f=(B++(L.take j).flatMap f)++f D:=by
 rw [h,aj,an]
 simp only [fm1,fm2,fm3]
def KePost (F:Fr) (ex:List Ex) (ro:List Ro) (p:Pk) (en:Ending) (w':World):Prop:=en=.returned (.string (strOfNums (keyB p)))/\Sat F w' ex ro
theorem c40 (H:Sat F w ex ro) (hp:Ro.deep p.dat cells∈ro) (hs:p.size<=1100000):Calls pg 40 #[.agg cells.toArray] w (KePost F ex ro p):=by
 have hK:(keyB p).length<=66000400:=by have:=keyB_sz p;omega
 unfold Pk.size at hs
 have z7:p.reports.length<=1100000:=by omega
 have z8:p.ext.length<=1100000:=by omega
 have z9:p.chunks.length<=1100000:=by have:=csz_len p.chunks;omega
 have z10:p.sources.length<=1100000:=by omega
 have zt:p.text.size<=1100000:=by omega
 have z13:p.data.length<=1100000:=by omega
 have z14:p.pairs.length<=1100000:=by omega
 have z15:p.slices.length<=1100000:=by omega
 have z16:p.entries.length<=1100000:=by omega
 have z18:p.blocks.length<=1100000:=by have:=bsz_len p.blocks;omega
 have z24:p.statuses.length<=1100000:=by have:=ssz_len p.statuses;omega
 have z25:p.deltas.length<=1100000:=by omega
 have hcm:∀B∈p.chunks,B.2.length<=1100000:=fun B hB=>by have:=csz_mem p.chunks B hB;omega
 have hbm:∀B∈p.blocks,B.2.2.length<=1100000:=fun B hB=>by have:=bsz_mem p.blocks B hB;omega
 have hsm:∀B∈p.statuses,B.2.2.2.2.length<=1100000:=fun B hB=>by have:=ssz_mem p.statuses B hB;omega
 clear hs
 obtain ⟨a7,a8,a9,a10,a13,a14,a15,a16,a18,a24,a25,c7,c8,c9,c10,c13,c14,c15,c16,c18,c24,c25,R,rfl,hr,H,m7,m8,m9,m10,m13,m14,m15,m16,m18,m24,m25⟩:=H.pkF hp
 obtain ⟨l1,l2,l3,l4,l5,l6,l7,l8⟩:=kb_le p
 apply of40
 refine sNew H ?_;clear H;intro b1 w _ H
 replace H:Sat F w (.blk b1 63 (pkC p a7 a8 a9 a10 a13 a14 a15 a16 a18 a24 a25 c7 c8 c9 c10 c13 c14 c15 c16 c18 c24 c25)::ex) R:=H
 refine sNew H ?_;clear H;intro b3 w _ H
 refine sNew H ?_;clear H;intro b5 w _ H
 refine sSt0 H (by rfl) (h:=?_);clear H;intro w _ H
 replace H:Sat F w (.blk b5 140 [.func (.func 81) #[] #[.pointer (some ⟨b3,0,none⟩)]]::.blk b3 22 [.slice none 0 0]::.blk b1 63 (pkC p a7 a8 a9 a10 a13 a14 a15 a16 a18 a24 a25 c7 c8 c9 c10 c13 c14 c15 c16 c18 c24 c25)::ex) R:=H
 refine ⟨_,_,_,(by exact Ce rfl H.b0 rfl),?_⟩
 refine ⟨_,(H.b2.at0 rfl),?_⟩
 refine ⟨_,(H.b2.at0 rfl),?_⟩
 refine ⟨_,(H.b2.at0 rfl),?_⟩
 refine ⟨_,(H.b2.at0 rfl),?_⟩
 refine ⟨_,(H.b2.at0 rfl),?_⟩
 refine ⟨_,(H.b2.at0 rfl),?_⟩
 refine ⟨_,(H.b2.at0 rfl),?_⟩
 refine ⟨_,_,_,(H.b2.at0 rfl),?_⟩
 have H1:=H.r1.nilOwn 5 1
 clear H
 replace H1:Sat F w (KS b3 22 none 0 0 none [] (.blk b5 140 [.func (.func 81) #[] #[.pointer (some ⟨b3,0,none⟩)]]::.blk b1 63 (pkC p a7 a8 a9 a10 a13 a14 a15 a16 a18 a24 a25 c7 c8 c9 c10 c13 c14 c15 c16 c18 c24 c25)::ex)) R:=H1
 refine nK (k:=8) H1 [uw p.kind,uw p.sender,uw p.media,p.ntp,uw p.rtp,uw p.packets,uw p.octets,un p.reports.length] rfl (by omega) (by decide) ?_
 clear H1;intro a n c r w hn H
 rw [bI] at H
 refine ⟨fun _ w=>∃(a:Option Addr) (n c:Nat) (r:Option Nat),n=(kb1 p).length/\Sat F w (KS b3 22 a n c r (kb1 p) (.blk b5 140 [.func (.func 81) #[] #[.pointer (some ⟨b3,0,none⟩)]]::.blk b1 63 (pkC p a7 a8 a9 a10 a13 a14 a15 a16 a18 a24 a25 c7 c8 c9 c10 c13 c14 c15 c16 c18 c24 c25)::ex)) R,?_,?_⟩
 ·skip
  obtain ⟨B0,hB0⟩:∃B0,B0=kn [uw p.kind,uw p.sender,uw p.media,p.ntp,uw p.rtp,uw p.packets,uw p.octets,un p.reports.length]:=⟨_,rfl⟩
  rw [<-hB0] at H
  replace hn:n=B0.length:=by rw [hB0];simp only [kn_len,aA,ay];omega
  have hT:B0.length+(p.reports.flatMap kRep).length=(kb1 p).length:=by rw [hB0,<-ae];rfl
  have hTb:B0.length+(p.reports.flatMap kRep).length<=66000400:=by omega
  clear hK l1 l2 l3 l4 l5 l6 l7 l8 z8 zt z13 z9 z10 z14 z15 z16 z18 z24 z25
  refine ⟨_,_,_,(H.b3.at0 rfl),?_⟩
  refine ⟨fun x q w=>∃(j:Nat) (a:Option Addr) (n c:Nat) (r:Option Nat),x=(j:Int)/\j+q=p.reports.length/\n=B0.length+((p.reports.take j).flatMap kRep).length/\Sat F w (KS b3 22 a n c r (B0++(p.reports.take j).flatMap kRep) (.blk b5 140 [.func (.func 81) #[] #[.pointer (some ⟨b3,0,none⟩)]]::.blk b1 63 (pkC p a7 a8 a9 a10 a13 a14 a15 a16 a18 a24 a25 c7 c8 c9 c10 c13 c14 c15 c16 c18 c24 c25)::ex)) R,⟨p.reports.length,0,a,n,c,r,rfl,by omega,by rw [aP,aD,ay];omega,by rw [aP,aD,aE];exact H⟩,?_⟩
  clear H;rintro dd x q w ⟨j,a,n,c,r,rfl,hjq,hn,H⟩
  refine ⟨fun hc=>?_,fun hc=>?_⟩
  ·rw [ah] at hc
   have hjl:j < p.reports.length:=by omega
   have htk:p.reports.take (j+1)=p.reports.take j++[p.reports[j]]:=by rw [am,ai hjl];rfl
   have hpre:=pre_le kRep hjl
   obtain ⟨pp,us,e,hus,hcell,H1⟩:=H.eltF Rep.dat_len' (by decide) m7 (j:=j) hjl
   clear H
   generalize p.reports[j]=D at H1 htk hpre
   obtain ⟨d0,d1,d2,d3,d4,d5,d6⟩:=D
   refine ⟨pp,e,by omega,by omega,?_⟩
   obtain rfl:=H1.ones (us:=[.int .u32 d0,.int .u8 d1,.int .u32 d2,.int .u32 d3,.int .u32 d4,.int .u32 d5,.int .u32 d6]) ms
   refine ⟨_,_,_,_,_,_,_,LdC [.int .u32 d0,.int .u8 d1,.int .u32 d2,.int .u32 d3,.int .u32 d4,.int .u32 d5,.int .u32 d6] (by kernel_rfl) (by rw [show (j:Int).toNat*7=j*7 by omega];exact hcell),?_⟩
   have H:=H1.sub (ak _) (fun r h=>mt h)
   clear H1 hcell
   refine sNew H ?_;clear H;intro b4 w _ H
   refine sSw0 H (h:=?_);clear H;intro w _ H
   replace H:=H.u2
   refine ⟨_,_,_,(by exact Ce rfl H.b3 rfl),?_⟩
   refine ⟨_,(H.b2.at0 rfl),?_⟩
   refine ⟨_,(H.b2.at0 rfl),?_⟩
   refine ⟨_,(H.b2.at0 rfl),?_⟩
   refine ⟨_,(H.b2.at0 rfl),?_⟩
   refine ⟨_,(H.b2.at0 rfl),?_⟩
   refine ⟨_,(H.b2.at0 rfl),?_⟩
   refine ⟨_,(H.b2.at0 rfl),?_⟩
   rw [kRep_len] at hpre
   refine nK (k:=7) H [uw d0,uw d1,uw d2,uw d3,uw d4,uw d5,uw d6] rfl (by omega) (by decide) ?_
   clear H;intro a2 n2 c2 r2 w hn2 H
   refine ⟨q - 1,by omega,j+1,a2,n2,c2,r2,by rw [wi64_of (by omega) (by omega)];simp,by omega,?_,?_⟩
   ·rw [htk,aj,ae]
    simp only [fm1,fm2,fm3]
    rw [kRep_len];omega
   ·rw [fl1 (f:=kRep) htk B0]
    exact H.dr
  rw [af] at hc
  obtain rfl:j=p.reports.length:=by omega
  rw [ao] at H hn
  exact ⟨a,n,c,r,by omega,by rw [hB0] at H;exact H⟩
 clear H hn;rintro ddj w ⟨a,n,c,r,hn,H⟩
 have x8:(strOfNums p.ext).size=p.ext.length:=ca _
 have x13:(strOfNums p.data).size=p.data.length:=ca _
 refine ⟨_,_,_,(H.b3.at0 rfl),?_⟩
 refine ⟨_,_,sStr H m8 uSl uU8 uStr,?_⟩
 refine call_j (c82 H (strOfNums p.ext) (by omega)) ?_
 clear H;rintro _ w ⟨rfl,a,n2,c,r,hn2,H⟩
 refine ⟨rfl,?_⟩
 refine ⟨_,_,_,(by exact Ce rfl H.b2 rfl),?_⟩
 refine ⟨_,_,_,(H.b3.at0 rfl),?_⟩
 refine ⟨rfl,?_⟩
 refine nK (k:=1) H [un p.chunks.length] rfl (by omega) (by decide) ?_
 clear H;intro a n3 c r w hn3 H
 obtain rfl:n3=n+16+p.ext.length:=by omega
 have hnB:=hn
 clear hn
 obtain ⟨n0,hn0⟩:∃m,m=n:=⟨n,rfl⟩
 generalize hnq:n+16+p.ext.length=n at H
 have hn:n=n0+16+p.ext.length:=by omega
 refine ⟨fun _ w=>∃(a:Option Addr) (n c:Nat) (r:Option Nat),n=(kb2 p).length/\Sat F w (KS b3 22 a n c r (kb2 p) (.blk b5 140 [.func (.func 81) #[] #[.pointer (some ⟨b3,0,none⟩)]]::.blk b1 63 (pkC p a7 a8 a9 a10 a13 a14 a15 a16 a18 a24 a25 c7 c8 c9 c10 c13 c14 c15 c16 c18 c24 c25)::ex)) R,?_,?_⟩
 ·skip
  obtain ⟨B0,hB0⟩:∃B0,B0=kb1 p++kt (strOfNums p.ext)++kn [un p.chunks.length]:=⟨_,rfl⟩
  rw [<-hB0] at H
  replace hn:n=B0.length:=by rw [hB0];simp only [ae,kn_len,kt_len,aA,ay,x8];omega
  have hT:B0.length+(p.chunks.flatMap kChk).length=(kb2 p).length:=by rw [hB0,<-ae];rfl
  have hTb:B0.length+(p.chunks.flatMap kChk).length<=66000400:=by omega
  clear hK l1 l2 l3 l4 l5 l6 l7 l8 z8 zt z13 z7 z10 z14 z15 z16 z18 z24 z25
  refine ⟨_,_,_,(H.b3.at0 rfl),?_⟩
  refine ⟨fun x q w=>∃(j:Nat) (a:Option Addr) (n c:Nat) (r:Option Nat),x=(j:Int)/\j+q=p.chunks.length/\n=B0.length+((p.chunks.take j).flatMap kChk).length/\Sat F w (KS b3 22 a n c r (B0++(p.chunks.take j).flatMap kChk) (.blk b5 140 [.func (.func 81) #[] #[.pointer (some ⟨b3,0,none⟩)]]::.blk b1 63 (pkC p a7 a8 a9 a10 a13 a14 a15 a16 a18 a24 a25 c7 c8 c9 c10 c13 c14 c15 c16 c18 c24 c25)::ex)) R,⟨p.chunks.length,0,a,n,c,r,rfl,by omega,by rw [aP,aD,ay];omega,by rw [aP,aD,aE];exact H⟩,?_⟩
  clear H;rintro dd x q w ⟨j,a,n,c,r,rfl,hjq,hn,H⟩
  refine ⟨fun hc=>?_,fun hc=>?_⟩
  ·rw [ah] at hc
   have hjl:j < p.chunks.length:=by omega
   have htk:p.chunks.take (j+1)=p.chunks.take j++[p.chunks[j]]:=by rw [am,ai hjl];rfl
   have hpre:=pre_le kChk hjl
   have hDm:=hcm p.chunks[j] (ax hjl)
   obtain ⟨pp,us,e,hus,hcell,H1⟩:=H.eltF Chk.dat_len' (by decide) m9 (j:=j) hjl
   clear H
   generalize p.chunks[j]=D at H1 htk hpre hDm
   obtain ⟨d0,msz⟩:=D
   replace hDm:msz.length<=1100000:=hDm
   refine ⟨pp,e,by omega,by omega,?_⟩
   obtain ⟨x0,us0,rfl,H2⟩:=H1.uncons ms
   obtain ⟨x1,us1,rfl,H3⟩:=H2.uncons (mt ms)
   obtain rfl:us1=[]:=by simpa using hus
   obtain rfl:=H2.one1 ms
   obtain ⟨sa,sn,sc,rfl,hsl2⟩:=H3.rowS ms
   rw [flat_len Itm.dat_len] at hsl2
   obtain rfl:sn=msz.length:=by omega
   refine ⟨_,_,_,_,LdC [.int .u32 d0,.slice sa msz.length sc] (by kernel_rfl) (by rw [show (j:Int).toNat*2=j*2 by omega];exact hcell),?_⟩
   have H:Sat F w _ (.deep [.row 2 (msz.flatMap Itm.dat)] [.slice sa msz.length sc]::R):=H3.sub (ak _) (fun r h=>by
    rcases aI.1 h with rfl | h
    ·exact ms
    ·simp [h])
   clear hcell H1 H2 H3
   refine sNew H ?_;clear H;intro b4 w _ H
   refine sSw0 H (h:=?_);clear H;intro w _ H
   replace H:=H.u2
   have hpl:(kChk (d0,msz)).length=16+(msz.flatMap kItm).length:=by simp only [kChk,ae,kn_len,aA,ay]
   rw [hpl] at hpre
   refine ⟨_,_,_,(by exact Ce rfl H.b3 rfl),?_⟩
   refine ⟨_,(H.b2.at0 rfl),?_⟩
   refine ⟨_,_,_,(H.b2.at0 rfl),?_⟩
   refine nK (k:=2) H [uw d0,un msz.length] rfl (by omega) (by decide) ?_
   clear H;intro a n2 c r w hn2 H
   obtain ⟨B2,hB2⟩:∃B2,B2=B0++(p.chunks.take j).flatMap kChk++kn [uw d0,un msz.length]:=⟨_,rfl⟩
   rw [<-hB2] at H
   refine ⟨_,_,_,(H.b2.at0 rfl),?_⟩
   refine ⟨fun x2 q2 w=>∃(i:Nat) (a:Option Addr) (n3 c:Nat) (r:Option Nat),x2=(i:Int)/\i+q2=msz.length/\n3=n2+((msz.take i).flatMap kItm).length/\Sat F w (KS b3 22 a n3 c r (B2++(msz.take i).flatMap kItm) (.blk b4 147 [.int .u32 d0,.slice sa msz.length sc]::.blk b5 140 [.func (.func 81) #[] #[.pointer (some ⟨b3,0,none⟩)]]::.blk b1 63 (pkC p a7 a8 a9 a10 a13 a14 a15 a16 a18 a24 a25 c7 c8 c9 c10 c13 c14 c15 c16 c18 c24 c25)::ex)) (.deep [.row 2 (msz.flatMap Itm.dat)] [.slice sa msz.length sc]::R),⟨msz.length,0,a,n2,c,r,rfl,by omega,by rw [aP,aD,ay];omega,by rw [aP,aD,aE];exact H⟩,?_⟩
   clear H;rintro dd3 x2 q2 w ⟨i,a,n3,c,r,rfl,hiq,hn3,H⟩
   refine ⟨fun hc2=>?_,fun hc2=>?_⟩
   ·rw [ah] at hc2
    have hil:i < msz.length:=by omega
    have htk2:msz.take (i+1)=msz.take i++[msz[i]]:=by rw [am,ai hil];rfl
    have hpre2:=pre_le kItm hil
    obtain ⟨p2,us2,eq2,hus2,hcell,H1⟩:=H.eltF Itm.dat_len (by decide) ms (j:=i) hil
    clear H
    generalize msz[i]=E at H1 htk2 hpre2
    obtain ⟨e0,e1⟩:=E
    refine ⟨p2,eq2,by omega,by omega,?_⟩
    obtain rfl:=H1.ones (us:=[.int .u8 e0,.string e1]) ms
    refine ⟨_,_,LdC [.int .u8 e0,.string e1] (by kernel_rfl) (by rw [show (i:Int).toNat*2=i*2 by omega];exact hcell),?_⟩
    have H:=H1.sub (ak _) (fun r h=>mt h)
    clear H1 hcell
    refine sNew H ?_;clear H;intro b6 w _ H
    refine sSw0 H (h:=?_);clear H;intro w _ H
    replace H:=(H.u2).r4.u2
    refine ⟨_,_,_,(by exact Ce rfl H.b2 rfl),?_⟩
    refine ⟨_,(H.b3.at0 rfl),?_⟩
    refine ⟨rfl,?_⟩
    have hil2:(kItm (e0,e1)).length=16+e1.size:=by simp only [kItm,ae,kn_len,kt_len,aA,ay];omega
    rw [hil2] at hpre2
    refine nK (k:=1) H [uw e0] rfl (by omega) (by decide) ?_
    clear H;intro a n4 c r w hn4 H
    refine ⟨_,(H.b3.at0 rfl),?_⟩
    refine call_j (c82 H e1 (by omega)) ?_
    clear H;rintro _ w ⟨rfl,a,n5,c,r,hn5,H⟩
    refine ⟨rfl,?_⟩
    replace hn4:n5=n3+(kItm (e0,e1)).length:=by omega
    clear hn5
    rw [an] at H
    refine ⟨q2 - 1,by omega,i+1,a,n5,c,r,by rw  [wi64_of (by omega) (by omega)];simp,by omega,?_,?_⟩
    ·rw [htk2,aj,ae]
     simp only [fm1,fm2,fm3]
     omega
    ·rw [fl1 (f:=kItm) htk2 B2]
     exact ((H.r2).u4).sub sl2 (fun _ h=>h)
   rw [af] at hc2
   obtain rfl:i=msz.length:=by omega
   rw [ao] at H hn3
   refine ⟨q - 1,by omega,j+1,a,n3,c,r,by rw [wi64_of (by omega) (by omega)];simp,by omega,?_,?_⟩
   ·rw [htk,aj,ae]
    simp only [fm1,fm2,fm3]
    rw [hpl];omega
   ·rw [fl1 (f:=kChk) htk B0]
    rw [hB2,an] at H
    exact H.dq (fun r h=>mt h)
  rw [af] at hc
  obtain rfl:j=p.chunks.length:=by omega
  rw [ao] at H hn
  exact ⟨a,n,c,r,by omega,by rw [hB0] at H;exact H⟩
 clear H;rintro ddj w ⟨a,n,c,r,hn,H⟩
 refine ⟨_,_,_,(by exact Ce rfl H.b2 rfl),?_⟩
 refine ⟨_,_,_,(H.b3.at0 rfl),?_⟩
 refine ⟨rfl,?_⟩
 refine nK (k:=1) H [un p.sources.length] rfl (by omega) (by decide) ?_
 clear H;intro a m1 c r w hm1 H
 replace hm1:m1=(kb2 p).length+8:=by omega
 clear hn n
 obtain ⟨n,rfl⟩:∃n,n=m1:=⟨_,rfl⟩
 have hn:=hm1
 clear hm1
 refine ⟨fun _ w=>∃(a:Option Addr) (n c:Nat) (r:Option Nat),n=(kb3 p).length/\Sat F w (KS b3 22 a n c r (kb3 p) (.blk b5 140 [.func (.func 81) #[] #[.pointer (some ⟨b3,0,none⟩)]]::.blk b1 63 (pkC p a7 a8 a9 a10 a13 a14 a15 a16 a18 a24 a25 c7 c8 c9 c10 c13 c14 c15 c16 c18 c24 c25)::ex)) R,?_,?_⟩
 ·skip
  obtain ⟨B0,hB0⟩:∃B0,B0=kb2 p++kn [un p.sources.length]:=⟨_,rfl⟩
  rw [<-hB0] at H
  replace hn:n=B0.length:=by rw [hB0];simp only [ae,kn_len,kt_len,aA,ay];omega
  have hT:B0.length+(p.sources.flatMap kSrc).length=(kb3 p).length:=by rw [hB0,<-ae];rfl
  have hTb:B0.length+(p.sources.flatMap kSrc).length<=66000400:=by omega
  clear hK l1 l2 l3 l4 l5 l6 l7 l8 z8 zt z13 z7 z9 z14 z15 z16 z18 z24 z25
  refine ⟨_,_,_,(H.b3.at0 rfl),?_⟩
  refine ⟨fun x q w=>∃(j:Nat) (a:Option Addr) (n c:Nat) (r:Option Nat),x=(j:Int)/\j+q=p.sources.length/\n=B0.length+((p.sources.take j).flatMap kSrc).length/\Sat F w (KS b3 22 a n c r (B0++(p.sources.take j).flatMap kSrc) (.blk b5 140 [.func (.func 81) #[] #[.pointer (some ⟨b3,0,none⟩)]]::.blk b1 63 (pkC p a7 a8 a9 a10 a13 a14 a15 a16 a18 a24 a25 c7 c8 c9 c10 c13 c14 c15 c16 c18 c24 c25)::ex)) R,⟨p.sources.length,0,a,n,c,r,rfl,by omega,by rw [aP,aD,ay];omega,by rw [aP,aD,aE];exact H⟩,?_⟩
  clear H;rintro dd x q w ⟨j,a,n,c,r,rfl,hjq,hn,H⟩
  refine ⟨fun hc=>?_,fun hc=>?_⟩
  ·rw [ah] at hc
   have hjl:j < p.sources.length:=by omega
   have htk:p.sources.take (j+1)=p.sources.take j++[p.sources[j]]:=by rw [am,ai hjl];rfl
   have hpre:=pre_le kSrc hjl
   obtain ⟨bb,oo,hle,hcell⟩:=H.elt m10 (by omega)
   have hc1:=hcell j (.int .u32 p.sources[j]) (by rw [oi_get _ _ _ hjl];simp [List.getD,ai hjl])
   refine ⟨_,hle,by omega,by omega,?_⟩
   refine ⟨_,(by rw [show (j:Int).toNat*1=j by omega,add_flat];exact hc1),?_⟩
   clear hcell hc1
   generalize p.sources[j]=d0 at htk hpre
   refine ⟨_,_,_,(by exact Ce rfl H.b2 rfl),?_⟩
   refine ⟨rfl,?_⟩
   rw [kSrc_len] at hpre
   refine nK (k:=1) H [uw d0] rfl (by omega) (by decide) ?_
   clear H;intro a2 n2 c2 r2 w hn2 H
   refine ⟨q - 1,by omega,j+1,a2,n2,c2,r2,by rw [wi64_of (by omega) (by omega)];simp,by omega,?_,?_⟩
   ·rw [htk,aj,ae]
    simp only [fm1,fm2,fm3]
    rw [kSrc_len];omega
   ·rw [fl1 (f:=kSrc) htk B0]
    exact H.sub (by repeat (exact ak _)) (fun _ h=>h)
  rw [af] at hc
  obtain rfl:j=p.sources.length:=by omega
  rw [ao] at H hn
  exact ⟨a,n,c,r,by omega,by rw [hB0] at H;exact H⟩
 clear H;rintro ddj w ⟨a,n,c,r,hn,H⟩
 refine ⟨_,(H.b3.at0 rfl),?_⟩
 refine call_j (c82 H p.text (by omega)) ?_
 clear H;rintro _ w ⟨rfl,a,m1,c,r,hm1,H⟩
 refine ⟨rfl,?_⟩
 replace hm1:m1=(kb3 p).length+8+p.text.size:=by omega
 clear hn n
 obtain ⟨n,rfl⟩:∃n,n=m1:=⟨_,rfl⟩
 have hn:=hm1
 clear hm1
 refine ⟨_,_,_,(by exact Ce rfl H.b2 rfl),?_⟩
 refine ⟨_,(H.b3.at0 rfl),?_⟩
 refine ⟨rfl,?_⟩
 refine nK (k:=1) H [uw p.sub] rfl (by omega) (by decide) ?_
 clear H;intro a m1 c r w hm1 H
 replace hm1:m1=(kb3 p).length+16+p.text.size:=by omega
 clear hn n
 obtain ⟨n,rfl⟩:∃n,n=m1:=⟨_,rfl⟩
 have hn:=hm1
 clear hm1
 refine ⟨_,_,_,(H.b3.at0 rfl),?_⟩
 refine ⟨_,_,sStr H m13 uSl uU8 uStr,?_⟩
 refine call_j (c82 H (strOfNums p.data) (by omega)) ?_
 clear H;rintro _ w ⟨rfl,a,m1,c,r,hm1,H⟩
 refine ⟨rfl,?_⟩
 replace hm1:m1=(kb3 p).length+24+p.text.size+p.data.length:=by omega
 clear hn n
 obtain ⟨n,rfl⟩:∃n,n=m1:=⟨_,rfl⟩
 have hn:=hm1
 clear hm1
 refine ⟨_,_,_,(by exact Ce rfl H.b2 rfl),?_⟩
 refine ⟨_,_,_,(H.b3.at0 rfl),?_⟩
 refine ⟨rfl,?_⟩
 refine nK (k:=1) H [un p.pairs.length] rfl (by omega) (by decide) ?_
 clear H;intro a m1 c r w hm1 H
 replace hm1:m1=(kb3 p).length+32+p.text.size+p.data.length:=by omega
 clear hn n
 obtain ⟨n,rfl⟩:∃n,n=m1:=⟨_,rfl⟩
 have hn:=hm1
 clear hm1
 refine ⟨fun _ w=>∃(a:Option Addr) (n c:Nat) (r:Option Nat),n=(kb4 p).length/\Sat F w (KS b3 22 a n c r (kb4 p) (.blk b5 140 [.func (.func 81) #[] #[.pointer (some ⟨b3,0,none⟩)]]::.blk b1 63 (pkC p a7 a8 a9 a10 a13 a14 a15 a16 a18 a24 a25 c7 c8 c9 c10 c13 c14 c15 c16 c18 c24 c25)::ex)) R,?_,?_⟩
 ·skip
  obtain ⟨B0,hB0⟩:∃B0,B0=kb3 p++kt p.text++kn [uw p.sub]++kt (strOfNums p.data)++kn [un p.pairs.length]:=⟨_,rfl⟩
  rw [<-hB0] at H
  replace hn:n=B0.length:=by rw [hB0];simp only [ae,kn_len,kt_len,aA,ay,x13];omega
  have hT:B0.length+(p.pairs.flatMap kPar).length=(kb4 p).length:=by rw [hB0,<-ae];rfl
  have hTb:B0.length+(p.pairs.flatMap kPar).length<=66000400:=by omega
  clear hK l1 l2 l3 l4 l5 l6 l7 l8 z8 zt z13 z7 z9 z10 z15 z16 z18 z24 z25
  refine ⟨_,_,_,(H.b3.at0 rfl),?_⟩
  refine ⟨fun x q w=>∃(j:Nat) (a:Option Addr) (n c:Nat) (r:Option Nat),x=(j:Int)/\j+q=p.pairs.length/\n=B0.length+((p.pairs.take j).flatMap kPar).length/\Sat F w (KS b3 22 a n c r (B0++(p.pairs.take j).flatMap kPar) (.blk b5 140 [.func (.func 81) #[] #[.pointer (some ⟨b3,0,none⟩)]]::.blk b1 63 (pkC p a7 a8 a9 a10 a13 a14 a15 a16 a18 a24 a25 c7 c8 c9 c10 c13 c14 c15 c16 c18 c24 c25)::ex)) R,⟨p.pairs.length,0,a,n,c,r,rfl,by omega,by rw [aP,aD,ay];omega,by rw [aP,aD,aE];exact H⟩,?_⟩
  clear H;rintro dd x q w ⟨j,a,n,c,r,rfl,hjq,hn,H⟩
  refine ⟨fun hc=>?_,fun hc=>?_⟩
  ·rw [ah] at hc
   have hjl:j < p.pairs.length:=by omega
   have htk:p.pairs.take (j+1)=p.pairs.take j++[p.pairs[j]]:=by rw [am,ai hjl];rfl
   have hpre:=pre_le kPar hjl
   obtain ⟨pp,us,e,hus,hcell,H1⟩:=H.eltF Par.dat_lenK (by decide) m14 (j:=j) hjl
   clear H
   generalize p.pairs[j]=D at H1 htk hpre
   obtain ⟨d0,d1⟩:=D
   refine ⟨pp,e,by omega,by omega,?_⟩
   obtain rfl:=H1.ones (us:=[.int .u16 d0,.int .u16 d1]) ms
   refine ⟨_,_,LdC [.int .u16 d0,.int .u16 d1] (by kernel_rfl) (by rw [show (j:Int).toNat*2=j*2 by omega];exact hcell),?_⟩
   have H:=H1.sub (ak _) (fun r h=>mt h)
   clear H1 hcell
   refine sNew H ?_;clear H;intro b4 w _ H
   refine sSw0 H (h:=?_);clear H;intro w _ H
   replace H:=H.u2
   refine ⟨_,_,_,(by exact Ce rfl H.b3 rfl),?_⟩
   refine ⟨_,(H.b2.at0 rfl),?_⟩
   refine ⟨_,(H.b2.at0 rfl),?_⟩
   rw [kPar_len] at hpre
   refine nK (k:=2) H [uw d0,uw d1] rfl (by omega) (by decide) ?_
   clear H;intro a2 n2 c2 r2 w hn2 H
   refine ⟨q - 1,by omega,j+1,a2,n2,c2,r2,by rw [wi64_of (by omega) (by omega)];simp,by omega,?_,?_⟩
   ·rw [htk,aj,ae]
    simp only [fm1,fm2,fm3]
    rw [kPar_len];omega
   ·rw [fl1 (f:=kPar) htk B0]
    exact H.dr
  rw [af] at hc
  obtain rfl:j=p.pairs.length:=by omega
  rw [ao] at H hn
  exact ⟨a,n,c,r,by omega,by rw [hB0] at H;exact H⟩
 clear H;rintro ddj w ⟨a,n,c,r,hn,H⟩
 refine ⟨_,_,_,(by exact Ce rfl H.b2 rfl),?_⟩
 refine ⟨_,_,_,(H.b3.at0 rfl),?_⟩
 refine ⟨rfl,?_⟩
 refine nK (k:=1) H [un p.slices.length] rfl (by omega) (by decide) ?_
 clear H;intro a m1 c r w hm1 H
 replace hm1:m1=(kb4 p).length+8:=by omega
 clear hn n
 obtain ⟨n,rfl⟩:∃n,n=m1:=⟨_,rfl⟩
 have hn:=hm1
 clear hm1
 refine ⟨fun _ w=>∃(a:Option Addr) (n c:Nat) (r:Option Nat),n=(kb5 p).length/\Sat F w (KS b3 22 a n c r (kb5 p) (.blk b5 140 [.func (.func 81) #[] #[.pointer (some ⟨b3,0,none⟩)]]::.blk b1 63 (pkC p a7 a8 a9 a10 a13 a14 a15 a16 a18 a24 a25 c7 c8 c9 c10 c13 c14 c15 c16 c18 c24 c25)::ex)) R,?_,?_⟩
 ·skip
  obtain ⟨B0,hB0⟩:∃B0,B0=kb4 p++kn [un p.slices.length]:=⟨_,rfl⟩
  rw [<-hB0] at H
  replace hn:n=B0.length:=by rw [hB0];simp only [ae,kn_len,kt_len,aA,ay];omega
  have hT:B0.length+(p.slices.flatMap kSli).length=(kb5 p).length:=by rw [hB0,<-ae];rfl
  have hTb:B0.length+(p.slices.flatMap kSli).length<=66000400:=by omega
  clear hK l1 l2 l3 l4 l5 l6 l7 l8 z8 zt z13 z7 z9 z10 z14 z16 z18 z24 z25
  refine ⟨_,_,_,(H.b3.at0 rfl),?_⟩
  refine ⟨fun x q w=>∃(j:Nat) (a:Option Addr) (n c:Nat) (r:Option Nat),x=(j:Int)/\j+q=p.slices.length/\n=B0.length+((p.slices.take j).flatMap kSli).length/\Sat F w (KS b3 22 a n c r (B0++(p.slices.take j).flatMap kSli) (.blk b5 140 [.func (.func 81) #[] #[.pointer (some ⟨b3,0,none⟩)]]::.blk b1 63 (pkC p a7 a8 a9 a10 a13 a14 a15 a16 a18 a24 a25 c7 c8 c9 c10 c13 c14 c15 c16 c18 c24 c25)::ex)) R,⟨p.slices.length,0,a,n,c,r,rfl,by omega,by rw [aP,aD,ay];omega,by rw [aP,aD,aE];exact H⟩,?_⟩
  clear H;rintro dd x q w ⟨j,a,n,c,r,rfl,hjq,hn,H⟩
  refine ⟨fun hc=>?_,fun hc=>?_⟩
  ·rw [ah] at hc
   have hjl:j < p.slices.length:=by omega
   have htk:p.slices.take (j+1)=p.slices.take j++[p.slices[j]]:=by rw [am,ai hjl];rfl
   have hpre:=pre_le kSli hjl
   obtain ⟨pp,us,e,hus,hcell,H1⟩:=H.eltF Sli.dat_lenK (by decide) m15 (j:=j) hjl
   clear H
   generalize p.slices[j]=D at H1 htk hpre
   obtain ⟨d0,d1,d2⟩:=D
   refine ⟨pp,e,by omega,by omega,?_⟩
   obtain rfl:=H1.ones (us:=[.int .u16 d0,.int .u16 d1,.int .u8 d2]) ms
   refine ⟨_,_,_,LdC [.int .u16 d0,.int .u16 d1,.int .u8 d2] (by kernel_rfl) (by rw [show (j:Int).toNat*3=j*3 by omega];exact hcell),?_⟩
   have H:=H1.sub (ak _) (fun r h=>mt h)
   clear H1 hcell
   refine sNew H ?_;clear H;intro b4 w _ H
   refine sSw0 H (h:=?_);clear H;intro w _ H
   replace H:=H.u2
   refine ⟨_,_,_,(by exact Ce rfl H.b3 rfl),?_⟩
   refine ⟨_,(H.b2.at0 rfl),?_⟩
   refine ⟨_,(H.b2.at0 rfl),?_⟩
   refine ⟨_,(H.b2.at0 rfl),?_⟩
   rw [kSli_len] at hpre
   refine nK (k:=3) H [uw d0,uw d1,uw d2] rfl (by omega) (by decide) ?_
   clear H;intro a2 n2 c2 r2 w hn2 H
   refine ⟨q - 1,by omega,j+1,a2,n2,c2,r2,by rw [wi64_of (by omega) (by omega)];simp,by omega,?_,?_⟩
   ·rw [htk,aj,ae]
    simp only [fm1,fm2,fm3]
    rw [kSli_len];omega
   ·rw [fl1 (f:=kSli) htk B0]
    exact H.dr
  rw [af] at hc
  obtain rfl:j=p.slices.length:=by omega
  rw [ao] at H hn
  exact ⟨a,n,c,r,by omega,by rw [hB0] at H;exact H⟩
 clear H;rintro ddj w ⟨a,n,c,r,hn,H⟩
 refine ⟨_,_,_,(by exact Ce rfl H.b2 rfl),?_⟩
 refine ⟨_,_,_,(H.b3.at0 rfl),?_⟩
 refine ⟨rfl,?_⟩
 refine nK (k:=1) H [un p.entries.length] rfl (by omega) (by decide) ?_
 clear H;intro a m1 c r w hm1 H
 replace hm1:m1=(kb5 p).length+8:=by omega
 clear hn n
 obtain ⟨n,rfl⟩:∃n,n=m1:=⟨_,rfl⟩
 have hn:=hm1
 clear hm1
 refine ⟨fun _ w=>∃(a:Option Addr) (n c:Nat) (r:Option Nat),n=(kb6 p).length/\Sat F w (KS b3 22 a n c r (kb6 p) (.blk b5 140 [.func (.func 81) #[] #[.pointer (some ⟨b3,0,none⟩)]]::.blk b1 63 (pkC p a7 a8 a9 a10 a13 a14 a15 a16 a18 a24 a25 c7 c8 c9 c10 c13 c14 c15 c16 c18 c24 c25)::ex)) R,?_,?_⟩
 ·skip
  obtain ⟨B0,hB0⟩:∃B0,B0=kb5 p++kn [un p.entries.length]:=⟨_,rfl⟩
  rw [<-hB0] at H
  replace hn:n=B0.length:=by rw [hB0];simp only [ae,kn_len,kt_len,aA,ay];omega
  have hT:B0.length+(p.entries.flatMap kEnt).length=(kb6 p).length:=by rw [hB0,<-ae];rfl
  have hTb:B0.length+(p.entries.flatMap kEnt).length<=66000400:=by omega
  clear hK l1 l2 l3 l4 l5 l6 l7 l8 z8 zt z13 z7 z9 z10 z14 z15 z18 z24 z25
  refine ⟨_,_,_,(H.b3.at0 rfl),?_⟩
  refine ⟨fun x q w=>∃(j:Nat) (a:Option Addr) (n c:Nat) (r:Option Nat),x=(j:Int)/\j+q=p.entries.length/\n=B0.length+((p.entries.take j).flatMap kEnt).length/\Sat F w (KS b3 22 a n c r (B0++(p.entries.take j).flatMap kEnt) (.blk b5 140 [.func (.func 81) #[] #[.pointer (some ⟨b3,0,none⟩)]]::.blk b1 63 (pkC p a7 a8 a9 a10 a13 a14 a15 a16 a18 a24 a25 c7 c8 c9 c10 c13 c14 c15 c16 c18 c24 c25)::ex)) R,⟨p.entries.length,0,a,n,c,r,rfl,by omega,by rw [aP,aD,ay];omega,by rw [aP,aD,aE];exact H⟩,?_⟩
  clear H;rintro dd x q w ⟨j,a,n,c,r,rfl,hjq,hn,H⟩
  refine ⟨fun hc=>?_,fun hc=>?_⟩
  ·rw [ah] at hc
   have hjl:j < p.entries.length:=by omega
   have htk:p.entries.take (j+1)=p.entries.take j++[p.entries[j]]:=by rw [am,ai hjl];rfl
   have hpre:=pre_le kEnt hjl
   obtain ⟨pp,us,e,hus,hcell,H1⟩:=H.eltF Ent.dat_lenK (by decide) m16 (j:=j) hjl
   clear H
   generalize p.entries[j]=D at H1 htk hpre
   obtain ⟨d0,d1⟩:=D
   refine ⟨pp,e,by omega,by omega,?_⟩
   obtain rfl:=H1.ones (us:=[.int .u32 d0,.int .u8 d1]) ms
   refine ⟨_,_,LdC [.int .u32 d0,.int .u8 d1] (by kernel_rfl) (by rw [show (j:Int).toNat*2=j*2 by omega];exact hcell),?_⟩
   have H:=H1.sub (ak _) (fun r h=>mt h)
   clear H1 hcell
   refine sNew H ?_;clear H;intro b4 w _ H
   refine sSw0 H (h:=?_);clear H;intro w _ H
   replace H:=H.u2
   refine ⟨_,_,_,(by exact Ce rfl H.b3 rfl),?_⟩
   refine ⟨_,(H.b2.at0 rfl),?_⟩
   refine ⟨_,(H.b2.at0 rfl),?_⟩
   rw [kEnt_len] at hpre
   refine nK (k:=2) H [uw d0,uw d1] rfl (by omega) (by decide) ?_
   clear H;intro a2 n2 c2 r2 w hn2 H
   refine ⟨q - 1,by omega,j+1,a2,n2,c2,r2,by rw [wi64_of (by omega) (by omega)];simp,by omega,?_,?_⟩
   ·rw [htk,aj,ae]
    simp only [fm1,fm2,fm3]
    rw [kEnt_len];omega
   ·rw [fl1 (f:=kEnt) htk B0]
    exact H.dr
  rw [af] at hc
  obtain rfl:j=p.entries.length:=by omega
  rw [ao] at H hn
  exact ⟨a,n,c,r,by omega,by rw [hB0] at H;exact H⟩
 clear H;rintro ddj w ⟨a,n,c,r,hn,H⟩
 refine ⟨_,_,_,(by exact Ce rfl H.b2 rfl),?_⟩
 refine ⟨_,(H.b3.at0 rfl),?_⟩
 refine ⟨_,_,_,(H.b3.at0 rfl),?_⟩
 refine nK (k:=2) H [uw p.bits,un p.blocks.length] rfl (by omega) (by decide) ?_
 clear H;intro a m1 c r w hm1 H
 replace hm1:m1=(kb6 p).length+16:=by omega
 clear hn n
 obtain ⟨n,rfl⟩:∃n,n=m1:=⟨_,rfl⟩
 have hn:=hm1
 clear hm1
 refine ⟨fun _ w=>∃(a:Option Addr) (n c:Nat) (r:Option Nat),n=(kb7 p).length/\Sat F w (KS b3 22 a n c r (kb7 p) (.blk b5 140 [.func (.func 81) #[] #[.pointer (some ⟨b3,0,none⟩)]]::.blk b1 63 (pkC p a7 a8 a9 a10 a13 a14 a15 a16 a18 a24 a25 c7 c8 c9 c10 c13 c14 c15 c16 c18 c24 c25)::ex)) R,?_,?_⟩
 ·skip
  obtain ⟨B0,hB0⟩:∃B0,B0=kb6 p++kn [uw p.bits,un p.blocks.length]:=⟨_,rfl⟩
  rw [<-hB0] at H
  replace hn:n=B0.length:=by rw [hB0];simp only [ae,kn_len,kt_len,aA,ay];omega
  have hT:B0.length+(p.blocks.flatMap kBlo).length=(kb7 p).length:=by rw [hB0,<-ae];rfl
  have hTb:B0.length+(p.blocks.flatMap kBlo).length<=66000400:=by omega
  clear hK l1 l2 l3 l4 l5 l6 l7 l8 z8 zt z13 z7 z9 z10 z14 z15 z16 z24 z25
  refine ⟨_,_,_,(H.b3.at0 rfl),?_⟩
  refine ⟨fun x q w=>∃(j:Nat) (a:Option Addr) (n c:Nat) (r:Option Nat),x=(j:Int)/\j+q=p.blocks.length/\n=B0.length+((p.blocks.take j).flatMap kBlo).length/\Sat F w (KS b3 22 a n c r (B0++(p.blocks.take j).flatMap kBlo) (.blk b5 140 [.func (.func 81) #[] #[.pointer (some ⟨b3,0,none⟩)]]::.blk b1 63 (pkC p a7 a8 a9 a10 a13 a14 a15 a16 a18 a24 a25 c7 c8 c9 c10 c13 c14 c15 c16 c18 c24 c25)::ex)) R,⟨p.blocks.length,0,a,n,c,r,rfl,by omega,by rw [aP,aD,ay];omega,by rw [aP,aD,aE];exact H⟩,?_⟩
  clear H;rintro dd x q w ⟨j,a,n,c,r,rfl,hjq,hn,H⟩
  refine ⟨fun hc=>?_,fun hc=>?_⟩
  ·rw [ah] at hc
   have hjl:j < p.blocks.length:=by omega
   have htk:p.blocks.take (j+1)=p.blocks.take j++[p.blocks[j]]:=by rw [am,ai hjl];rfl
   have hpre:=pre_le kBlo hjl
   have hDm:=hbm p.blocks[j] (ax hjl)
   obtain ⟨pp,us,e,hus,hcell,H1⟩:=H.eltF Blo.dat_len' (by decide) m18 (j:=j) hjl
   clear H
   generalize p.blocks[j]=D at H1 htk hpre hDm
   obtain ⟨d0,d1,msz⟩:=D
   replace hDm:msz.length<=1100000:=hDm
   refine ⟨pp,e,by omega,by omega,?_⟩
   obtain ⟨x0,us0,rfl,H2⟩:=H1.uncons ms
   obtain ⟨x1,us1,rfl,H3⟩:=H2.uncons (mt ms)
   obtain ⟨x2,us2,rfl,H4⟩:=H3.uncons (mt ms)
   obtain rfl:us2=[]:=by simpa using hus
   obtain rfl:=H2.one1 ms
   obtain rfl:=H3.one1 ms
   obtain ⟨sa,sn,sc,rfl,hsl2⟩:=H4.rowS ms
   rw [flat_len Met.dat_len'] at hsl2
   obtain rfl:sn=msz.length:=by omega
   refine ⟨_,_,_,_,_,LdC [.int .u32 d0,.int .u16 d1,.slice sa msz.length sc] (by kernel_rfl) (by rw [show (j:Int).toNat*3=j*3 by omega];exact hcell),?_⟩
   have H:Sat F w _ (.deep [.row 3 (msz.flatMap Met.dat)] [.slice sa msz.length sc]::R):=H4.sub (ak _) (fun r h=>by
    rcases aI.1 h with rfl | h
    ·exact ms
    ·simp [h])
   clear hcell H1 H2 H3 H4
   refine sNew H ?_;clear H;intro b4 w _ H
   refine sSw0 H (h:=?_);clear H;intro w _ H
   replace H:=H.u2
   have hpl:(kBlo (d0,d1,msz)).length=24+(msz.flatMap kMet).length:=by simp only [kBlo,ae,kn_len,aA,ay]
   rw [hpl] at hpre
   refine ⟨_,_,_,(by exact Ce rfl H.b3 rfl),?_⟩
   refine ⟨_,(H.b2.at0 rfl),?_⟩
   refine ⟨_,(H.b2.at0 rfl),?_⟩
   refine ⟨_,_,_,(H.b2.at0 rfl),?_⟩
   refine nK (k:=3) H [uw d0,uw d1,un msz.length] rfl (by omega) (by decide) ?_
   clear H;intro a n2 c r w hn2 H
   obtain ⟨B2,hB2⟩:∃B2,B2=B0++(p.blocks.take j).flatMap kBlo++kn [uw d0,uw d1,un msz.length]:=⟨_,rfl⟩
   rw [<-hB2] at H
   refine ⟨_,_,_,(H.b2.at0 rfl),?_⟩
   refine ⟨fun x2 q2 w=>∃(i:Nat) (a:Option Addr) (n3 c:Nat) (r:Option Nat),x2=(i:Int)/\i+q2=msz.length/\n3=n2+((msz.take i).flatMap kMet).length/\Sat F w (KS b3 22 a n3 c r (B2++(msz.take i).flatMap kMet) (.blk b4 158 [.int .u32 d0,.int .u16 d1,.slice sa msz.length sc]::.blk b5 140 [.func (.func 81) #[] #[.pointer (some ⟨b3,0,none⟩)]]::.blk b1 63 (pkC p a7 a8 a9 a10 a13 a14 a15 a16 a18 a24 a25 c7 c8 c9 c10 c13 c14 c15 c16 c18 c24 c25)::ex)) (.deep [.row 3 (msz.flatMap Met.dat)] [.slice sa msz.length sc]::R),⟨msz.length,0,a,n2,c,r,rfl,by omega,by rw [aP,aD,ay];omega,by rw [aP,aD,aE];exact H⟩,?_⟩
   clear H;rintro dd3 x2 q2 w ⟨i,a,n3,c,r,rfl,hiq,hn3,H⟩
   refine ⟨fun hc2=>?_,fun hc2=>?_⟩
   ·rw [ah] at hc2
    have hil:i < msz.length:=by omega
    have htk2:msz.take (i+1)=msz.take i++[msz[i]]:=by rw [am,ai hil];rfl
    have hpre2:=pre_le kMet hil
    obtain ⟨p2,us2,eq2,hus2,hcell,H1⟩:=H.eltF Met.dat_len' (by decide) ms (j:=i) hil
    clear H
    generalize msz[i]=E at H1 htk2 hpre2
    obtain ⟨e0,e1,e2⟩:=E
    refine ⟨p2,eq2,by omega,by omega,?_⟩
    obtain rfl:=H1.ones (us:=[.bool e0,.int .u8 e1,.int .u16 e2]) ms
    refine ⟨_,_,_,LdC [.bool e0,.int .u8 e1,.int .u16 e2] (by kernel_rfl) (by rw [show (i:Int).toNat*3=i*3 by omega];exact hcell),?_⟩
    have H:=H1.sub (ak _) (fun r h=>mt h)
    clear H1 hcell
    refine sNew H ?_;clear H;intro b6 w _ H
    refine sSw0 H (h:=?_);clear H;intro w _ H
    replace H:=H.u2
    refine ⟨none,?_⟩
    replace H:=H.drew;generalize w.drew=w at H ⊢
    have K:=grew_refl w none
    refine ⟨nn0,H.b4.row,_,_,_,(by exact Ce rfl H.b4 rfl),?_⟩
    refine ⟨nn0,H.b2.row,_,(H.b2.at0 rfl),?_⟩
    refine ⟨nn0,H.b2.row,_,(H.b2.at0 rfl),?_⟩
    refine ⟨nn0,H.b2.row,_,(H.b2.at0 rfl),?_⟩
    refine call_j c83 ?_
    rintro _ w2 ⟨rfl,rfl⟩
    refine ⟨_,rfl,K,?_⟩
    rw [kMet_len] at hpre2
    refine nKg (k:=3) H K [ub e0,uw e1,uw e2] rfl (by omega) (by decide) ?_
    clear H;intro a n4 c r w hn4 H
    refine ⟨q2 - 1,by omega,i+1,a,n4,c,r,by rw  [wi64_of (by omega) (by omega)];simp,by omega,?_,?_⟩
    ·rw [htk2,aj,ae]
     simp only [fm1,fm2,fm3]
     rw [kMet_len];omega
    ·rw [fl1 (f:=kMet) htk2 B2]
     exact H.dr
   rw [af] at hc2
   obtain rfl:i=msz.length:=by omega
   rw [ao] at H hn3
   refine ⟨q - 1,by omega,j+1,a,n3,c,r,by rw [wi64_of (by omega) (by omega)];simp,by omega,?_,?_⟩
   ·rw [htk,aj,ae]
    simp only [fm1,fm2,fm3]
    rw [hpl];omega
   ·rw [fl1 (f:=kBlo) htk B0]
    rw [hB2,an] at H
    exact H.dq (fun r h=>mt h)
  rw [af] at hc
  obtain rfl:j=p.blocks.length:=by omega
  rw [ao] at H hn
  exact ⟨a,n,c,r,by omega,by rw [hB0] at H;exact H⟩
 clear H;rintro ddj w ⟨a,n,c,r,hn,H⟩
 refine ⟨_,_,_,(by exact Ce rfl H.b2 rfl),?_⟩
 refine ⟨_,(H.b3.at0 rfl),?_⟩
 refine ⟨_,(H.b3.at0 rfl),?_⟩
 refine ⟨_,(H.b3.at0 rfl),?_⟩
 refine ⟨_,(H.b3.at0 rfl),?_⟩
 refine ⟨_,(H.b3.at0 rfl),?_⟩
 refine ⟨_,_,_,(H.b3.at0 rfl),?_⟩
 refine nK (k:=6) H [uw p.time,uw p.base,uw p.count,uw p.ref,uw p.fb,un p.statuses.length] rfl (by omega) (by decide) ?_
 clear H;intro a m1 c r w hm1 H
 replace hm1:m1=(kb7 p).length+48:=by omega
 clear hn n
 obtain ⟨n,rfl⟩:∃n,n=m1:=⟨_,rfl⟩
 have hn:=hm1
 clear hm1
 refine ⟨fun _ w=>∃(a:Option Addr) (n c:Nat) (r:Option Nat),n=(kb8 p).length/\Sat F w (KS b3 22 a n c r (kb8 p) (.blk b5 140 [.func (.func 81) #[] #[.pointer (some ⟨b3,0,none⟩)]]::.blk b1 63 (pkC p a7 a8 a9 a10 a13 a14 a15 a16 a18 a24 a25 c7 c8 c9 c10 c13 c14 c15 c16 c18 c24 c25)::ex)) R,?_,?_⟩
 ·skip
  obtain ⟨B0,hB0⟩:∃B0,B0=kb7 p++kn [uw p.time,uw p.base,uw p.count,uw p.ref,uw p.fb,un p.statuses.length]:=⟨_,rfl⟩
  rw [<-hB0] at H
  replace hn:n=B0.length:=by rw [hB0];simp only [ae,kn_len,kt_len,aA,ay];omega
  have hT:B0.length+(p.statuses.flatMap kSta).length=(kb8 p).length:=by rw [hB0,<-ae];rfl
  have hTb:B0.length+(p.statuses.flatMap kSta).length<=66000400:=by omega
  clear hK l1 l2 l3 l4 l5 l6 l7 l8 z8 zt z13 z7 z9 z10 z14 z15 z16 z18 z25
  refine ⟨_,_,_,(H.b3.at0 rfl),?_⟩
  refine ⟨fun x q w=>∃(j:Nat) (a:Option Addr) (n c:Nat) (r:Option Nat),x=(j:Int)/\j+q=p.statuses.length/\n=B0.length+((p.statuses.take j).flatMap kSta).length/\Sat F w (KS b3 22 a n c r (B0++(p.statuses.take j).flatMap kSta) (.blk b5 140 [.func (.func 81) #[] #[.pointer (some ⟨b3,0,none⟩)]]::.blk b1 63 (pkC p a7 a8 a9 a10 a13 a14 a15 a16 a18 a24 a25 c7 c8 c9 c10 c13 c14 c15 c16 c18 c24 c25)::ex)) R,⟨p.statuses.length,0,a,n,c,r,rfl,by omega,by rw [aP,aD,ay];omega,by rw [aP,aD,aE];exact H⟩,?_⟩
  clear H;rintro dd x q w ⟨j,a,n,c,r,rfl,hjq,hn,H⟩
  refine ⟨fun hc=>?_,fun hc=>?_⟩
  ·rw [ah] at hc
   have hjl:j < p.statuses.length:=by omega
   have htk:p.statuses.take (j+1)=p.statuses.take j++[p.statuses[j]]:=by rw [am,ai hjl];rfl
   have hpre:=pre_le kSta hjl
   have hDm:=hsm p.statuses[j] (ax hjl)
   obtain ⟨pp,us,e,hus,hcell,H1⟩:=H.eltF Sta.dat_lenK (by decide) m24 (j:=j) hjl
   clear H
   generalize p.statuses[j]=D at H1 htk hpre hDm
   obtain ⟨V,d0,d1,d2,msz⟩:=D
   replace hDm:msz.length<=1100000:=hDm
   refine ⟨pp,e,by omega,by omega,?_⟩
   obtain ⟨sa,sc,rfl,H2⟩:=H1.sta5 ms
   refine ⟨_,_,_,_,_,_,_,LdC [.bool V,.int .u16 d0,.int .u16 d1,.int .u16 d2,.slice sa msz.length sc] (by kernel_rfl) (by rw [show (j:Int).toNat*5=j*5 by omega];exact hcell),?_⟩
   have H:Sat F w _ (.deep [.row 1 (oi .u16 msz)] [.slice sa msz.length sc]::R):=H2.sub (ak _) (fun r h=>by
    rcases aI.1 h with rfl | h
    ·exact ms
    ·simp [h])
   clear H1 H2 hcell
   refine sNew H ?_;clear H;intro b4 w _ H
   refine sSw0 H (h:=?_);clear H;intro w _ H
   replace H:=H.u2
   have hpl:(kSta (V,d0,d1,d2,msz)).length=40+(msz.flatMap kSrc).length:=by simp only [kSta,ae,kn_len,aA,ay]
   rw [hpl] at hpre
   refine ⟨none,?_⟩
   replace H:=H.drew;generalize w.drew=w at H ⊢
   have K:=grew_refl w none
   refine ⟨nn0,H.b3.row,_,_,_,(by exact Ce rfl H.b3 rfl),?_⟩
   refine ⟨nn0,H.b2.row,_,(H.b2.at0 rfl),?_⟩
   refine ⟨nn0,H.b2.row,_,(H.b2.at0 rfl),?_⟩
   refine ⟨nn0,H.b2.row,_,(H.b2.at0 rfl),?_⟩
   refine ⟨nn0,H.b2.row,_,(H.b2.at0 rfl),?_⟩
   refine ⟨nn0,H.b2.row,_,_,_,(H.b2.at0 rfl),?_⟩
   refine call_j c83 ?_
   rintro _ w2 ⟨rfl,rfl⟩
   refine ⟨_,rfl,K,?_⟩
   refine nKg (k:=5) H K [ub V,uw d0,uw d1,uw d2,un msz.length] rfl (by omega) (by decide) ?_
   clear H;intro a n2 c r w hn2 H
   obtain ⟨B2,hB2⟩:∃B2,B2=B0++(p.statuses.take j).flatMap kSta++kn [ub V,uw d0,uw d1,uw d2,un msz.length]:=⟨_,rfl⟩
   rw [<-hB2] at H
   refine ⟨_,_,_,(H.b2.at0 rfl),?_⟩
   refine ⟨fun x2 q2 w=>∃(i:Nat) (a:Option Addr) (n3 c:Nat) (r:Option Nat),x2=(i:Int)/\i+q2=msz.length/\n3=n2+((msz.take i).flatMap kSrc).length/\Sat F w (KS b3 22 a n3 c r (B2++(msz.take i).flatMap kSrc) (.blk b4 163 [.bool V,.int .u16 d0,.int .u16 d1,.int .u16 d2,.slice sa msz.length sc]::.blk b5 140 [.func (.func 81) #[] #[.pointer (some ⟨b3,0,none⟩)]]::.blk b1 63 (pkC p a7 a8 a9 a10 a13 a14 a15 a16 a18 a24 a25 c7 c8 c9 c10 c13 c14 c15 c16 c18 c24 c25)::ex)) (.deep [.row 1 (oi .u16 msz)] [.slice sa msz.length sc]::R),⟨msz.length,0,a,n2,c,r,rfl,by omega,by rw [aP,aD,ay];omega,by rw [aP,aD,aE];exact H⟩,?_⟩
   clear H;rintro dd3 x2 q2 w ⟨i,a,n3,c,r,rfl,hiq,hn3,H⟩
   refine ⟨fun hc2=>?_,fun hc2=>?_⟩
   ·rw [ah] at hc2
    have hil:i < msz.length:=by omega
    have htk2:msz.take (i+1)=msz.take i++[msz[i]]:=by rw [am,ai hil];rfl
    have hpre2:=pre_le kSrc hil
    obtain ⟨bb,oo,hle,hcell⟩:=H.elt ms (by omega)
    have hc1:=hcell i (.int .u16 msz[i]) (by rw [oi_get _ _ _ hil];simp [List.getD,ai hil])
    refine ⟨_,hle,by omega,by omega,?_⟩
    refine ⟨_,(by rw [show (i:Int).toNat*1=i by omega,add_flat];exact hc1),?_⟩
    clear hcell hc1
    generalize msz[i]=e0 at htk2 hpre2
    refine ⟨_,_,_,(by exact Ce rfl H.b3 rfl),?_⟩
    refine ⟨rfl,?_⟩
    rw [kSrc_len] at hpre2
    refine nK (k:=1) H [uw e0] rfl (by omega) (by decide) ?_
    clear H;intro a n4 c r w hn4 H
    refine ⟨q2 - 1,by omega,i+1,a,n4,c,r,by rw  [wi64_of (by omega) (by omega)];simp,by omega,?_,?_⟩
    ·rw [htk2,aj,ae]
     simp only [fm1,fm2,fm3]
     rw [kSrc_len];omega
    ·rw [fl1 (f:=kSrc) htk2 B2]
     exact H.sub (by repeat (exact ak _)) (fun _ h=>h)
   rw [af] at hc2
   obtain rfl:i=msz.length:=by omega
   rw [ao] at H hn3
   refine ⟨q - 1,by omega,j+1,a,n3,c,r,by rw [wi64_of (by omega) (by omega)];simp,by omega,?_,?_⟩
   ·rw [htk,aj,ae]
    simp only [fm1,fm2,fm3]
    rw [hpl];omega
   ·rw [fl1 (f:=kSta) htk B0]
    rw [hB2,an] at H
    exact H.dq (fun r h=>mt h)
  rw [af] at hc
  obtain rfl:j=p.statuses.length:=by omega
  rw [ao] at H hn
  exact ⟨a,n,c,r,by omega,by rw [hB0] at H;exact H⟩
 clear H;rintro ddj w ⟨a,n,c,r,hn,H⟩
 refine ⟨_,_,_,(by exact Ce rfl H.b2 rfl),?_⟩
 refine ⟨_,_,_,(H.b3.at0 rfl),?_⟩
 refine ⟨rfl,?_⟩
 refine nK (k:=1) H [un p.deltas.length] rfl (by omega) (by decide) ?_
 clear H;intro a m1 c r w hm1 H
 replace hm1:m1=(kb8 p).length+8:=by omega
 clear hn n
 obtain ⟨n,rfl⟩:∃n,n=m1:=⟨_,rfl⟩
 have hn:=hm1
 clear hm1
 refine ⟨fun _ w=>∃(a:Option Addr) (n c:Nat) (r:Option Nat),n=(keyB p).length/\Sat F w (KS b3 22 a n c r (keyB p) (.blk b5 140 [.func (.func 81) #[] #[.pointer (some ⟨b3,0,none⟩)]]::.blk b1 63 (pkC p a7 a8 a9 a10 a13 a14 a15 a16 a18 a24 a25 c7 c8 c9 c10 c13 c14 c15 c16 c18 c24 c25)::ex)) R,?_,?_⟩
 ·skip
  obtain ⟨B0,hB0⟩:∃B0,B0=kb8 p++kn [un p.deltas.length]:=⟨_,rfl⟩
  rw [<-hB0] at H
  replace hn:n=B0.length:=by rw [hB0];simp only [ae,kn_len,kt_len,aA,ay];omega
  have hT:B0.length+(p.deltas.flatMap kDel).length=(keyB p).length:=by rw [hB0,<-ae];rfl
  have hTb:B0.length+(p.deltas.flatMap kDel).length<=66000400:=by omega
  clear hK l1 l2 l3 l4 l5 l6 l7 l8 z8 zt z13 z7 z9 z10 z14 z15 z16 z18 z24
  refine ⟨_,_,_,(H.b3.at0 rfl),?_⟩
  refine ⟨fun x q w=>∃(j:Nat) (a:Option Addr) (n c:Nat) (r:Option Nat),x=(j:Int)/\j+q=p.deltas.length/\n=B0.length+((p.deltas.take j).flatMap kDel).length/\Sat F w (KS b3 22 a n c r (B0++(p.deltas.take j).flatMap kDel) (.blk b5 140 [.func (.func 81) #[] #[.pointer (some ⟨b3,0,none⟩)]]::.blk b1 63 (pkC p a7 a8 a9 a10 a13 a14 a15 a16 a18 a24 a25 c7 c8 c9 c10 c13 c14 c15 c16 c18 c24 c25)::ex)) R,⟨p.deltas.length,0,a,n,c,r,rfl,by omega,by rw [aP,aD,ay];omega,by rw [aP,aD,aE];exact H⟩,?_⟩
  clear H;rintro dd x q w ⟨j,a,n,c,r,rfl,hjq,hn,H⟩
  refine ⟨fun hc=>?_,fun hc=>?_⟩
  ·rw [ah] at hc
   have hjl:j < p.deltas.length:=by omega
   have htk:p.deltas.take (j+1)=p.deltas.take j++[p.deltas[j]]:=by rw [am,ai hjl];rfl
   have hpre:=pre_le kDel hjl
   obtain ⟨pp,us,e,hus,hcell,H1⟩:=H.eltF Del.dat_lenK (by decide) m25 (j:=j) hjl
   clear H
   generalize p.deltas[j]=D at H1 htk hpre
   obtain ⟨d0,d1⟩:=D
   refine ⟨pp,e,by omega,by omega,?_⟩
   obtain rfl:=H1.ones (us:=[.int .u16 d0,.int .i64 d1]) ms
   refine ⟨_,_,LdC [.int .u16 d0,.int .i64 d1] (by kernel_rfl) (by rw [show (j:Int).toNat*2=j*2 by omega];exact hcell),?_⟩
   have H:=H1.sub (ak _) (fun r h=>mt h)
   clear H1 hcell
   refine sNew H ?_;clear H;intro b4 w _ H
   refine sSw0 H (h:=?_);clear H;intro w _ H
   replace H:=H.u2
   refine ⟨_,_,_,(by exact Ce rfl H.b3 rfl),?_⟩
   refine ⟨_,(H.b2.at0 rfl),?_⟩
   refine ⟨_,(H.b2.at0 rfl),?_⟩
   rw [kDel_len] at hpre
   refine nK (k:=2) H [uw d0,uw d1] rfl (by omega) (by decide) ?_
   clear H;intro a2 n2 c2 r2 w hn2 H
   refine ⟨q - 1,by omega,j+1,a2,n2,c2,r2,by rw [wi64_of (by omega) (by omega)];simp,by omega,?_,?_⟩
   ·rw [htk,aj,ae]
    simp only [fm1,fm2,fm3]
    rw [kDel_len];omega
   ·rw [fl1 (f:=kDel) htk B0]
    exact H.dr
  rw [af] at hc
  obtain rfl:j=p.deltas.length:=by omega
  rw [ao] at H hn
  exact ⟨a,n,c,r,by omega,by rw [hB0] at H;exact H⟩
 clear H;rintro ddj w ⟨a,n,c,r,hn,H⟩
 obtain ⟨B,hBe⟩:∃B,B=keyB p:=⟨_,rfl⟩
 rw [<-hBe] at H hn
 subst hn
 refine ⟨_,_,_,(by exact Ce rfl H.b1 rfl),?_⟩
 have H2:=H.freeze
 clear H
 refine ⟨_,_,sStr (xs:=B) (a:=a) (n:=B.length) (c:=c) H2 ms uSl uU8 uStr,?_⟩
 refine ⟨by rw [hBe],H2.sub sl1 (fun r h=>mt (hr r h))⟩
theorem row_of {a:Addr} (h:w.cell? (a.add 0)=some v):∃c ty f,w.heap[a.block]?=some (.cells c ty f):=by
 have hb:(a.add 0).block=a.block:=by unfold Addr.add;split<;>rfl
 unfold World.cell? at h
 split at h
 ·rename_i cc e f hq;exact ⟨cc,e,f,by rw [<-hb];exact hq⟩
 ·cases h
theorem c14 {b:Option Addr} {ac bc:Nat} (H:Sat F w ex ro) (ha:Ro.deep [.row 30 (L.flatMap Pk.dat)] [.slice a L.length ac]∈ro) (hb:Ro.deep [.row 30 (L.flatMap Pk.dat)] [.slice b L.length bc]∈ro) (hn:L.length<=2000000) (hs:∀p∈L,p.size<=1100000) :
  Calls pg 14 #[.slice a L.length ac,.slice b L.length bc] w fun en w'=>en=.returned (.bool true)/\Sat F w' ex ro:=by
 apply of14
 refine ⟨fun h=>by simp at h,fun _=>?_⟩
 refine ⟨fun x m w=>∃j:Nat,x=(j:Int)/\j+m=L.length/\Sat F w ex ro,⟨L.length,0,rfl,by omega,H⟩,?_⟩
 clear H;rintro dd2 x m w ⟨j,rfl,hjm,H⟩
 refine ⟨fun hc=>?_,fun _=>⟨rfl,H⟩⟩
 rw [ah] at hc
 have hjl:j < L.length:=by omega
 have hsj:=hs L[j] (ax hjl)
 replace H:=H.drew
 refine ⟨none,?_⟩
 generalize w.drew=w at H ⊢
 obtain ⟨p1,us1,e1,hus1,hc1,H1⟩:=H.eltF Pk.dat_lenN (by decide) ha (j:=j) hjl
 clear H
 obtain ⟨p2,us2,e2,hus2,hc2,H2⟩:=H1.eltF Pk.dat_lenN (by decide) (mt hb) (j:=j) hjl
 clear H1
 generalize L[j]=D at H2 hsj
 obtain ⟨a7,a8,a9,a10,a13,a14,a15,a16,a18,a24,a25,c7,c8,c9,c10,c13,c14,c15,c16,c18,c24,c25,R,rfl,hr,H,_⟩:=H2.pkF (mt ms)
 clear H2
 obtain ⟨e7,e8,e9,e10,e13,e14,e15,e16,e18,e24,e25,f7,f8,f9,f10,f13,f14,f15,f16,f18,f24,f25,R2,rfl,hr2,H,_⟩:=H.pkF (hr _ ms)
 have hi:(j:Int).toNat*30=j*30:=by omega
 refine ⟨p1,e1,by omega,by omega,nn0,by rw [hi];exact row_of (hc1 0 _ rfl),?_⟩
 refine ⟨_,LdC (pkC D a7 a8 a9 a10 a13 a14 a15 a16 a18 a24 a25 c7 c8 c9 c10 c13 c14 c15 c16 c18 c24 c25) (by kernel_rfl) (by rw [hi];exact hc1),?_⟩
 refine ⟨p2,e2,by omega,by omega,nn0,by rw [hi];exact row_of (hc2 0 _ rfl),?_⟩
 refine ⟨_,LdC (pkC D e7 e8 e9 e10 e13 e14 e15 e16 e18 e24 e25 f7 f8 f9 f10 f13 f14 f15 f16 f18 f24 f25) (by kernel_rfl) (by rw [hi];exact hc2),?_⟩
 clear hc1 hc2
 obtain ⟨ex2,S,back⟩:=H.still
 refine call_j (c40 S (hr2 _ (hr _ (mt ms))) hsj) ?_
 clear S;rintro _ w1 ⟨rfl,S⟩
 refine ⟨_,rfl,(back _ _ S).1,?_⟩
 refine call_j (c40 S (hr2 _ (hr _ ms)) hsj) ?_
 clear S;rintro _ w2 ⟨rfl,S⟩
 refine ⟨_,rfl,(back _ _ S).1,?_⟩
 refine ⟨fun h=>by simp at h,fun _=>?_⟩
 exact ⟨m - 1,by omega,j+1,by rw [wi64_of (by omega) (by omega)];simp,by omega,((back _ _ S).2).sub (by repeat (exact ak _)) (fun r h=>hr2 r (hr r (mt (mt h))))⟩
theorem vld_tail (h:vld L=true):vldT L.tail=true:=by
 cases L with
 | nil=>cases h
 | cons p r=>
  simp only [vld,aM] at h
  exact h.2
theorem cm_back {M:List Pk} (h1:By (M.flatMap wrOne)) (h2:gl (M.flatMap wrOne).length (M.flatMap wrOne)=some M) (h3:∀p∈M,Gd p (M.flatMap wrOne).length) (h4:(M.flatMap wrOne).length<=262144) (h5:M.length<=1000000) :
  ∃N,(cmX M).length<=270000/\By (cmX M)/\gl (cmX M).length (cmX M)=some N/\(∀p∈N,Gd p (cmX M).length)/\N.length<=1000000/\vld N=vld M/\(vld M=true->N=M):=by
 unfold cmX
 cases hv:vld M with
 | true=>exact ⟨M,by simp only [if_true];omega,h1,h2,h3,h5,hv,fun _=>rfl⟩
 | false=>
  simp only [be,bO]
  exact ⟨[],by decide,fun x hx=>(by cases hx),rfl,fun p hp=>(by cases hp),by decide,rfl,fun h=>h.elim⟩
theorem c10 (H:Sat ⟨w,fun _=>False⟩ w [] ro) (hl:Ro.deep [.row 30 (L.flatMap Pk.dat)] [.slice l L.length c]∈ro) (hL:L.length<=1000000) (hs:∀p∈L,p.size<=1100000) (hF:∀p∈L,0<=p.kind->p.kind<=13->FoOk p) (hB:∀p∈L,ByP p) (hE:ErrC False ro) (hC:CErr ro) :
  Calls pg 10 #[.slice l L.length c] w fun en w'=>en=.returned (.bool true)/\w.grownBy w' none:=by
 have hG:∀{w':World} {ex:List Ex} {ro:List Ro},Sat ⟨w,fun _=>False⟩ w' ex ro->w.grownBy w' none:=fun h=>Gr.none h.gr (fun _ _ h=>h)
 generalize hFr:(⟨w,fun _=>False⟩:Fr)=F at H hG
 apply of10
 refine call_j (c16 H hl (by omega) hs) ?_
 clear H;rintro _ w1 ⟨b,rfl,H⟩
 refine ⟨_,rfl,fun _=>⟨rfl,hG H⟩,fun _=>?_⟩
 refine call_j (c17 H hl (by omega) hF) ?_
 clear H;rintro _ w2 (⟨o,n,oc,a,k,c2,rfl,H⟩ | ⟨o,oc,a,k,c2,R,rfl,hr,H,hm,hne,hlg,hXl⟩)
 ·refine ⟨_,_,_,_,_,_,_,rfl,fun _=>⟨rfl,hG H⟩,fun h=>absurd h (by decide)⟩
 have hO:=ls_ok hlg hXl hB
 refine ⟨_,_,_,_,_,_,_,rfl,fun h=>absurd h (by decide),fun _=>?_⟩
 have hml:(L.map trim).length=L.length:=List.length_map ..
 have hMl:(L.map trim).length<=1000000:=by rw [hml];exact hL
 have hsum:(L.map trim).flatMap wrOne=L.flatMap wrOne:=hO.fl
 rw [<-hml] at hm ⊢
 obtain ⟨M,hM⟩:∃M,M=L.map trim:=⟨_,rfl⟩
 obtain ⟨o1,o2,o3,o4,o5,o6,o7⟩:=hO
 rw [<-hM] at hm hMl hsum o1 o2 o3 o4 o6 o7 ⊢
 rw [<-hsum] at hXl o4 o5 o6
 clear o7
 obtain ⟨N,n1,n2,n3,n4,n5,n6,n7⟩:=cm_back o5 o6 o4 hXl hMl
 replace hE:=hE.mono hr
 replace hC:=hC.mono hr
 clear hr
 refine call_j (c29 H hm (by omega) o3) ?_
 clear H;rintro _ w3 ⟨name,v,u,rfl,H,hu⟩
 refine ⟨_,_,_,rfl,fun _=>⟨rfl,hG H⟩,fun hsu=>?_⟩
 obtain ⟨rfl,hnm⟩:=hu (by simpa using hsu)
 refine call_j (c19 H hm (by omega) o3) ?_
 clear H;rintro _ w4 ⟨g,gc,rfl,H⟩
 refine ⟨_,_,_,rfl,?_⟩
 have hC1:CErr (.deep [.row 30 (M.flatMap Pk.dat)] [.slice g M.length gc]::R):=hC.mono (fun r h=>mt h)
 refine call_j (c30 H ms hMl o2 hC1) ?_
 clear H;rintro _ w5 ⟨s,cb,rfl,hcn,H⟩
 refine ⟨_,_,rfl,?_⟩
 replace H:=H.sub (ak _) (fun r h=>mt h:∀r∈R,r∈_)
 clear hC1
 refine call_j (c19 H hm (by omega) o3) ?_
 clear H;rintro _ w6 ⟨g2,gc2,rfl,H⟩
 refine ⟨_,_,_,rfl,?_⟩
 refine call_j (c31 H ms hMl o2 o1 (by omega) (hC.mono (fun r h=>mt h))) ?_
 clear H;rintro _ w7 ⟨x,xc,R2,rfl,hr2,H,hx⟩
 refine ⟨_,_,_,_,rfl,?_⟩
 have hr2':∀r∈R,r∈R2:=fun r h=>hr2 r (mt h)
 refine call_j (c32 H hx n2 (hE.mono hr2') (hC.mono hr2') n1 n3 n4 n5) ?_
 clear H;rintro _ w8 ⟨y,m,yc,R3,rfl,hr3,H,hy⟩
 refine ⟨_,_,_,_,rfl,?_⟩
 have hr3':∀r∈R,r∈R3:=fun r h=>hr3 r (hr2' r h)
 refine call_j (c19 H (hr3' _ hm) (by omega) o3) ?_
 clear H;rintro _ w9 ⟨g3,gc3,rfl,H⟩
 refine ⟨_,_,_,rfl,?_⟩
 refine call_j (c33 H ms hMl o2 (hC.mono (fun r h=>mt (hr3' r h)))) ?_
 clear H;rintro _ w10 ⟨rfl,H⟩
 refine ⟨_,rfl,fun h=>by simp at h,fun _=>⟨fun h=>by simp at h,fun _=>?_⟩⟩
 refine call_j (c13 H (hE.mono (fun r h=>mt (hr3' r h)))) ?_
 clear H;rintro _ w11 ⟨rfl,H⟩
 refine ⟨_,rfl,fun h=>absurd h (by decide),fun _=>⟨fun _=>⟨rfl,hG H⟩,fun h=>?_⟩⟩
 have hv:vld M=true:=by simpa using h
 obtain ⟨rfl,hc2⟩:=hcn (vld_tail hv)
 obtain rfl:s=name:=by
  have:=hnm hv
  rw [hc2] at this
  injection this with this
  injection this
 obtain rfl:=n7 hv
 obtain ⟨hmN,hy2⟩:=hy hv
 subst hmN
 refine ⟨fun _=>⟨fun _=>⟨fun _=>?_,fun h=>by rw [hv] at h;cases h⟩,fun h=>by simp at h⟩,fun h=>by cases h⟩
 refine call_j (c15 H (mt hy2) (by omega) o3) ?_
 clear H;rintro _ w12 ⟨z,zc,rfl,H⟩
 refine ⟨_,_,_,rfl,?_⟩
 refine call_j (c14 H ms (mt (mt (hr3' _ hm))) (by omega) o3) ?_
 clear H;rintro _ w13 ⟨rfl,H⟩
 exact ⟨_,rfl,rfl,hG H⟩
abbrev Top:Nat->Prop:=fun _=>True
theorem bulk1 {H:Type} (d:DataW H):1<=Rows.uptoBulk d:=by
 cases d with
 | lit l=>cases l<;>simp [Rows.uptoBulk]
 | _=>simp [Rows.uptoBulk]
theorem bulk_app {H:Type}:∀(l:List (DataW H)) (d:DataW H),Rows.uptoBulkAll (l++[d])=Rows.uptoBulkAll l+Rows.uptoBulk d
 | [],d=>by simp [Rows.uptoBulkAll]
 | x::r,d=>by
  have:=bulk_app r d
  simp only [bX,Rows.uptoBulkAll]
  omega
theorem wfU {k:IntKind} {n:Int} (hk:k.signed=false) (h:(Lit.int k n).wf=true):0<=n/\n < 2 ^ k.bits:=by
 simp only [Lit.wf,aM,ah,IntKind.min,IntKind.max,hk,be,bO] at h
 omega
theorem spotN {a:Addr} (h:w.cell? a=some v):a=⟨a.block,a.off,none⟩:=by
 obtain ⟨b,o,s⟩:=a
 cases s with
 | none=>rfl
 | some s=>
  exfalso
  simp only [World.cell?] at h
  split at h<;>simp_all
theorem cells_get {p:Addr} {cs:List Value} (h:W.cells? 0 p n=some cs):cs.length=n/\∀j,j < n->W.cell? (p.add j)=cs[j]?:=by
 unfold World.cells? at h
 rw [aG (bE _)] at h
 exact ⟨by simpa using mapM_some_length h,fun j hj=>by simpa using mapM_some_get h j j (by simp [hj])⟩
theorem len1 {α:Type} {l:List α} (h:l.length=n+1):∃x r,l=x::r/\r.length=n:=by
 cases l with
 | nil=>simp at h
 | cons x r=>exact ⟨x,r,rfl,by simpa using h⟩
def Rds {α:Type} (e:TypeId) (f:α->List Dat) (Q:α->Prop) (s:α->Nat):Prop:=∀(H:Type) (enc:TypeId×Value->H) (W:World) (n:Nat) (cs:List Value) (y:DataW H×List MemPlace),DataW.trod enc Tryz.prog W 0 (fun _=>true) true n e cs=some y->∃x:α,DeepL W Top (f x) cs/\Q x/\s x<=Rows.uptoBulk y.1
theorem rd_int {k:IntKind} (hu:Tryz.prog.underlying t=some (.int k)):Rds t (fun x:Int=>[.one (.int k x)]) (fun x=>(Lit.int k x).wf=true) (fun _=>1):=by
 intro H enc W n cs y h
 obtain ⟨x,rfl,rfl,hw⟩:=DataW.trod_int hu h
 exact ⟨x,DeepL.ones [_],hw,bulk1 _⟩
theorem rd_row {α:Type} {f:α->List Dat} {Q:α->Prop} {s:α->Nat} (hu:Tryz.prog.underlying t=some (.slice e)) (hR:Rds e f Q s) (hc:Tryz.prog.cellsOf e=sz) (hz:0 < sz) (hf:∀x,(f x).length=sz)
  {H:Type} {enc:TypeId×Value->H} {cs:List Value} {y:DataW H×List MemPlace} (h:DataW.trod enc Tryz.prog W 0 (fun _=>true) true n t cs=some y) :
  ∃(L:List α) (a:Option Addr) (c:Nat),cs=[.slice a L.length c]/\Deep W Top (.row sz (L.flatMap f)) (.slice a L.length c)/\(∀x∈L,Q x)/\(L.map s).sum<=Rows.uptoBulk y.1:=by
 rcases DataW.trod_slice hu h with ⟨rfl,rfl⟩ | ⟨a,len,cap,elems,rest,m,hn,rfl,rfl,_,hl,hm,hel,helem,hsp,_⟩
 ·exact ⟨[],none,0,rfl,.emp _ _,by simp,bE _⟩
 obtain ⟨hr,hrest⟩:=hsp rfl
 rw [hc] at helem hrest
 rcases bL cap with h0 | h0
 ·obtain rfl:len=0:=by omega
  subst h0
  exact ⟨[],some a,0,rfl,.emp _ _,by simp,bE _⟩
 have hc0:∃v,W.cell? (a.add 0)=some v:=by
  have aux:∀(k:Nat) (y:DataW H×List MemPlace),k=0->(W.cells? 0 (a.add (k*sz)) sz).bind (DataW.trod enc Tryz.prog W 0 (fun _=>true) true m e)=some y->∃v,W.cell? (a.add 0)=some v:=by
   intro k y hk hy
   subst hk
   rw [Nat.zero_mul] at hy
   obtain ⟨cs',hcs,_⟩:=bQ.1 hy
   obtain ⟨h1,h2⟩:=cells_get hcs
   have h3:=h2 0 hz
   rw [ai (by omega)] at h3
   exact ⟨_,h3⟩
  rcases bL len with hl0 | hl0
  ·have h1:=hrest 0 (by omega)
   rw [ai (by omega)] at h1
   exact aux _ _ (by omega) h1
  ·have h1:=helem 0 hl0
   rw [ai (by omega)] at h1
   exact aux _ _ rfl h1
 obtain ⟨v0,hv0⟩:=hc0
 rw [show a.add 0=a from rfl] at hv0
 have hlt:=World.block_lt_of_cell? _ _ hv0
 have hsp:=spotN hv0
 obtain ⟨b,o,hab⟩:∃b o,a=⟨b,o,none⟩:=⟨_,_,hsp⟩
 subst hab
 have key:∀k,k<=len->∃(L:List α) (vs:List Value),L.length=k/\vs.length=k*sz/\(∀(i:Nat) (v:Value),vs[i]?=some v->W.cell? ⟨b,o+i,none⟩=some v)/\DeepL W Top (L.flatMap f) vs/\(∀x∈L,Q x)/\(L.map s).sum<=Rows.uptoBulkAll ((elems.take k).map (·.1)):=by
  intro k
  induction k with
  | zero=>intro _;exact ⟨[],[],rfl,by simp,by simp,DeepL.nil _ _,by simp,by simp⟩
  | succ k ih=>
   intro hk
   obtain ⟨L,vs,h1,h2,h3,h4,h5,h6⟩:=ih (by omega)
   have he:=helem k (by omega)
   rw [ai (by omega)] at he
   obtain ⟨cs',hcs,htr⟩:=bQ.1 he
   obtain ⟨x,hx,hq,hsx⟩:=hR _ _ _ _ _ _ htr
   obtain ⟨hcl,hcg⟩:=cells_get hcs
   refine ⟨L++[x],vs++cs',by simp [h1],by rw [ae,h2,hcl,Nat.succ_mul],fun i v hv=>?_,?_,fun z hz=>?_,?_⟩
   ·by_cases hi:i < vs.length
    ·rw [List.getElem?_append_left hi] at hv
     exact h3 i v hv
    ·rw [bU (by omega)] at hv
     have hi2:i - vs.length < sz:=by
      have:=(cm.1 hv).1
      omega
     have:=hcg (i - vs.length) hi2
     rw [hv,add_flat,add_flat] at this
     rw [show o+i=o+k*sz+(i - vs.length) by omega]
     exact this
   ·rw [aj]
    simp only [fm1,fm2,fm3]
    exact h4.append hx
   ·rcases aV.1 hz with hz | hz
    ·exact h5 z hz
    ·rw [aQ.1 hz];exact hq
   ·rw [bM,List.sum_append,am,ai (by omega),Option.toList_some,bM]
    simp only [aX,List.map_nil,bP,List.sum_nil,bulk_app]
    omega
 obtain ⟨L,vs,h1,h2,h3,h4,h5,h6⟩:=key len (aN _)
 subst h1
 have hlen:(L.flatMap f).length=L.length*sz:=flat_len hf L
 refine ⟨L,some ⟨b,o,none⟩,cap,rfl,.row sz b o L.length cap _ vs hl hm hlt trivial hlen (by rw [h2,hlen]) h3 h4.2,h5,?_⟩
 rw [bA (by omega)] at h6
 simp only [Rows.uptoBulk]
 omega
theorem oi_fl (k:IntKind):∀l:List Int,l.flatMap (fun x=>[Dat.one (.int k x)])=oi k l
 | []=>rfl
 | x::r=>by rw [av,oi_fl k r];rfl
theorem ob_fl (l:List Int):l.flatMap (fun x=>[Dat.one (.int .u8 x)])=ob l:=by rw [oi_fl];rfl
theorem sum1 {α:Type} (l:List α):(l.map fun _=>1).sum=l.length:=by
 induction l with
 | nil=>rfl
 | cons x r ih=>simp only [aX,bP,aA,ih];omega
theorem isz_sum:∀l:List Itm,isz l=(l.map fun i=>1+i.2.size).sum
 | []=>rfl
 | i::r=>by simp only [isz,aX,bP,isz_sum r]
theorem csz_sum:∀l:List Chk,csz l=(l.map fun i=>1+isz i.2).sum
 | []=>rfl
 | i::r=>by simp only [csz,aX,bP,csz_sum r]
theorem bsz_sum:∀l:List Blo,bsz l=(l.map fun i=>1+i.2.2.length).sum
 | []=>rfl
 | i::r=>by simp only [bsz,aX,bP,bsz_sum r]
theorem ssz_sum:∀l:List Sta,ssz l=(l.map fun i=>1+i.2.2.2.2.length).sum
 | []=>rfl
 | i::r=>by simp only [ssz,aX,bP,ssz_sum r]
theorem lenN2 {α:Type} {l:List α} (h:l.length=2):∃x0 x1,l=[x0,x1]:=by
 obtain ⟨x0,r0,e0,h0⟩:=len1 h
 obtain ⟨x1,r1,e1,h1⟩:=len1 h0
 have e2:=aF h1
 exact ⟨x0,x1,by rw [e0,e1,e2]⟩
theorem lenN3 {α:Type} {l:List α} (h:l.length=3):∃x0 x1 x2,l=[x0,x1,x2]:=by
 obtain ⟨x0,r0,e0,h0⟩:=len1 h
 obtain ⟨x1,r1,e1,h1⟩:=len1 h0
 obtain ⟨x2,r2,e2,h2⟩:=len1 h1
 have e3:=aF h2
 exact ⟨x0,x1,x2,by rw [e0,e1,e2,e3]⟩
theorem lenN4 {α:Type} {l:List α} (h:l.length=4):∃x0 x1 x2 x3,l=[x0,x1,x2,x3]:=by
 obtain ⟨x0,r0,e0,h0⟩:=len1 h
 obtain ⟨x1,r1,e1,h1⟩:=len1 h0
 obtain ⟨x2,r2,e2,h2⟩:=len1 h1
 obtain ⟨x3,r3,e3,h3⟩:=len1 h2
 have e4:=aF h3
 exact ⟨x0,x1,x2,x3,by rw [e0,e1,e2,e3,e4]⟩
theorem lenN5 {α:Type} {l:List α} (h:l.length=5):∃x0 x1 x2 x3 x4,l=[x0,x1,x2,x3,x4]:=by
 obtain ⟨x0,r0,e0,h0⟩:=len1 h
 obtain ⟨x1,r1,e1,h1⟩:=len1 h0
 obtain ⟨x2,r2,e2,h2⟩:=len1 h1
 obtain ⟨x3,r3,e3,h3⟩:=len1 h2
 obtain ⟨x4,r4,e4,h4⟩:=len1 h3
 have e5:=aF h4
 exact ⟨x0,x1,x2,x3,x4,by rw [e0,e1,e2,e3,e4,e5]⟩
theorem lenN7 {α:Type} {l:List α} (h:l.length=7):∃x0 x1 x2 x3 x4 x5 x6,l=[x0,x1,x2,x3,x4,x5,x6]:=by
 obtain ⟨x0,r0,e0,h0⟩:=len1 h
 obtain ⟨x1,r1,e1,h1⟩:=len1 h0
 obtain ⟨x2,r2,e2,h2⟩:=len1 h1
 obtain ⟨x3,r3,e3,h3⟩:=len1 h2
 obtain ⟨x4,r4,e4,h4⟩:=len1 h3
 obtain ⟨x5,r5,e5,h5⟩:=len1 h4
 obtain ⟨x6,r6,e6,h6⟩:=len1 h5
 have e7:=aF h6
 exact ⟨x0,x1,x2,x3,x4,x5,x6,by rw [e0,e1,e2,e3,e4,e5,e6,e7]⟩
theorem lenN27 {α:Type} {l:List α} (h:l.length=27):∃x0 x1 x2 x3 x4 x5 x6 x7 x8 x9 x10 x11 x12 x13 x14 x15 x16 x17 x18 x19 x20 x21 x22 x23 x24 x25 x26,l=[x0,x1,x2,x3,x4,x5,x6,x7,x8,x9,x10,x11,x12,x13,x14,x15,x16,x17,x18,x19,x20,x21,x22,x23,x24,x25,x26]:=by
 obtain ⟨x0,r0,e0,h0⟩:=len1 h
 obtain ⟨x1,r1,e1,h1⟩:=len1 h0
 obtain ⟨x2,r2,e2,h2⟩:=len1 h1
 obtain ⟨x3,r3,e3,h3⟩:=len1 h2
 obtain ⟨x4,r4,e4,h4⟩:=len1 h3
 obtain ⟨x5,r5,e5,h5⟩:=len1 h4
 obtain ⟨x6,r6,e6,h6⟩:=len1 h5
 obtain ⟨x7,r7,e7,h7⟩:=len1 h6
 obtain ⟨x8,r8,e8,h8⟩:=len1 h7
 obtain ⟨x9,r9,e9,h9⟩:=len1 h8
 obtain ⟨x10,r10,e10,h10⟩:=len1 h9
 obtain ⟨x11,r11,e11,h11⟩:=len1 h10
 obtain ⟨x12,r12,e12,h12⟩:=len1 h11
 obtain ⟨x13,r13,e13,h13⟩:=len1 h12
 obtain ⟨x14,r14,e14,h14⟩:=len1 h13
 obtain ⟨x15,r15,e15,h15⟩:=len1 h14
 obtain ⟨x16,r16,e16,h16⟩:=len1 h15
 obtain ⟨x17,r17,e17,h17⟩:=len1 h16
 obtain ⟨x18,r18,e18,h18⟩:=len1 h17
 obtain ⟨x19,r19,e19,h19⟩:=len1 h18
 obtain ⟨x20,r20,e20,h20⟩:=len1 h19
 obtain ⟨x21,r21,e21,h21⟩:=len1 h20
 obtain ⟨x22,r22,e22,h22⟩:=len1 h21
 obtain ⟨x23,r23,e23,h23⟩:=len1 h22
 obtain ⟨x24,r24,e24,h24⟩:=len1 h23
 obtain ⟨x25,r25,e25,h25⟩:=len1 h24
 obtain ⟨x26,r26,e26,h26⟩:=len1 h25
 have e27:=aF h26
 exact ⟨x0,x1,x2,x3,x4,x5,x6,x7,x8,x9,x10,x11,x12,x13,x14,x15,x16,x17,x18,x19,x20,x21,x22,x23,x24,x25,x26,by rw [e0,e1,e2,e3,e4,e5,e6,e7,e8,e9,e10,e11,e12,e13,e14,e15,e16,e17,e18,e19,e20,e21,e22,e23,e24,e25,e26,e27]⟩
theorem lenN30 {α:Type} {l:List α} (h:l.length=30):∃x0 x1 x2 x3 x4 x5 x6 x7 x8 x9 x10 x11 x12 x13 x14 x15 x16 x17 x18 x19 x20 x21 x22 x23 x24 x25 x26 x27 x28 x29,l=[x0,x1,x2,x3,x4,x5,x6,x7,x8,x9,x10,x11,x12,x13,x14,x15,x16,x17,x18,x19,x20,x21,x22,x23,x24,x25,x26,x27,x28,x29]:=by
 obtain ⟨x0,r0,e0,h0⟩:=len1 h
 obtain ⟨x1,r1,e1,h1⟩:=len1 h0
 obtain ⟨x2,r2,e2,h2⟩:=len1 h1
 obtain ⟨x3,r3,e3,h3⟩:=len1 h2
 obtain ⟨x4,r4,e4,h4⟩:=len1 h3
 obtain ⟨x5,r5,e5,h5⟩:=len1 h4
 obtain ⟨x6,r6,e6,h6⟩:=len1 h5
 obtain ⟨x7,r7,e7,h7⟩:=len1 h6
 obtain ⟨x8,r8,e8,h8⟩:=len1 h7
 obtain ⟨x9,r9,e9,h9⟩:=len1 h8
 obtain ⟨x10,r10,e10,h10⟩:=len1 h9
 obtain ⟨x11,r11,e11,h11⟩:=len1 h10
 obtain ⟨x12,r12,e12,h12⟩:=len1 h11
 obtain ⟨x13,r13,e13,h13⟩:=len1 h12
 obtain ⟨x14,r14,e14,h14⟩:=len1 h13
 obtain ⟨x15,r15,e15,h15⟩:=len1 h14
 obtain ⟨x16,r16,e16,h16⟩:=len1 h15
 obtain ⟨x17,r17,e17,h17⟩:=len1 h16
 obtain ⟨x18,r18,e18,h18⟩:=len1 h17
 obtain ⟨x19,r19,e19,h19⟩:=len1 h18
 obtain ⟨x20,r20,e20,h20⟩:=len1 h19
 obtain ⟨x21,r21,e21,h21⟩:=len1 h20
 obtain ⟨x22,r22,e22,h22⟩:=len1 h21
 obtain ⟨x23,r23,e23,h23⟩:=len1 h22
 obtain ⟨x24,r24,e24,h24⟩:=len1 h23
 obtain ⟨x25,r25,e25,h25⟩:=len1 h24
 obtain ⟨x26,r26,e26,h26⟩:=len1 h25
 obtain ⟨x27,r27,e27,h27⟩:=len1 h26
 obtain ⟨x28,r28,e28,h28⟩:=len1 h27
 obtain ⟨x29,r29,e29,h29⟩:=len1 h28
 have e30:=aF h29
 exact ⟨x0,x1,x2,x3,x4,x5,x6,x7,x8,x9,x10,x11,x12,x13,x14,x15,x16,x17,x18,x19,x20,x21,x22,x23,x24,x25,x26,x27,x28,x29,by rw [e0,e1,e2,e3,e4,e5,e6,e7,e8,e9,e10,e11,e12,e13,e14,e15,e16,e17,e18,e19,e20,e21,e22,e23,e24,e25,e26,e27,e28,e29,e30]⟩
abbrev Tr {H:Type} (enc:TypeId×Value->H) (W:World) (m:Nat) (t:TypeId) (cs:List Value) (y:DataW H×List MemPlace):Prop:=DataW.trod enc Tryz.prog W 0 (fun _=>true) true m t cs=some y
section
variable {H:Type} {enc:TypeId×Value->H} {W:World} {m:Nat} {t:TypeId} {v:Value} {y:DataW H×List MemPlace}
theorem fld {l:List Value} (h:Tr enc W m t (List.take (Tryz.prog.cellsOf t) (List.drop o l)) y) (hc:Tryz.prog.cellsOf t=c):Tr enc W m t (List.take c (List.drop o l)) y:=hc▸h
theorem fI {k:IntKind} (hu:Tryz.prog.underlying t=some (.int k)) (h:Tr enc W m t [v] y):∃d,v=.int k d/\y=(.lit (.int k d),[])/\(Lit.int k d).wf=true:=by
 obtain ⟨d,e,h2,h3⟩:=DataW.trod_int hu h
 exact ⟨d,by simpa using e,h2,h3⟩
theorem fB (hu:Tryz.prog.underlying t=some .bool) (h:Tr enc W m t [v] y):∃d,v=.bool d/\y=(.lit (.bool d),[]):=by
 obtain ⟨d,e,h2⟩:=DataW.trod_bool hu h
 exact ⟨d,by simpa using e,h2⟩
theorem fS (hu:Tryz.prog.underlying t=some .string) (h:Tr enc W m t [v] y):∃d:ByteArray,v=.string d/\y=(.lit (.string d.data.toList),[]):=by
 obtain ⟨d,e,h2,_⟩:=DataW.trod_string hu h
 exact ⟨d,by simpa using e,h2⟩
theorem rd_row1 {α:Type} {f:α->List Dat} {Q:α->Prop} {s:α->Nat} (hu:Tryz.prog.underlying t=some (.slice e)) (hR:Rds e f Q s) (hc:Tryz.prog.cellsOf e=sz) (hz:0 < sz) (hf:∀x,(f x).length=sz) (h:Tr enc W m t [v] y) :
  ∃(L:List α) (a:Option Addr) (c:Nat),v=.slice a L.length c/\Deep W Top (.row sz (L.flatMap f)) (.slice a L.length c)/\(∀x∈L,Q x)/\(L.map s).sum<=Rows.uptoBulk y.1:=by
 obtain ⟨L,a,c,e,h2⟩:=rd_row hu hR hc hz hf h
 exact ⟨L,a,c,by simpa using e,h2⟩
end
theorem rd_Rep:Rds 144 Rep.dat (fun x=>RepW x/\0<=x.2.1/\x.2.1 < 256) (fun x=>1):=by
 intro H enc W n cs y h
 obtain ⟨xs,m,_,rfl,hcs,hxs,hx⟩:=bB Tryz.underlying144 h
 rw [show Tryz.prog.cellsOf 144=7 by kernel_rfl] at hcs
 replace hxs:xs.length=7:=hxs
 obtain ⟨v0,v1,v2,v3,v4,v5,v6,rfl⟩:=lenN7 hcs
 obtain ⟨y0,y1,y2,y3,y4,y5,y6,rfl⟩:=lenN7 hxs
 clear hcs hxs
 obtain ⟨d0,rfl,rfl,w0⟩:=fI (v:=v0) Tryz.underlying51 (by have h:=fld (hx 0 _ rfl) (c:=1) (by kernel_rfl);exact h)
 obtain ⟨d1,rfl,rfl,w1⟩:=fI (v:=v1) Tryz.underlying5 (by have h:=fld (hx 1 _ rfl) (c:=1) (by kernel_rfl);exact h)
 obtain ⟨d2,rfl,rfl,w2⟩:=fI (v:=v2) Tryz.underlying51 (by have h:=fld (hx 2 _ rfl) (c:=1) (by kernel_rfl);exact h)
 obtain ⟨d3,rfl,rfl,w3⟩:=fI (v:=v3) Tryz.underlying51 (by have h:=fld (hx 3 _ rfl) (c:=1) (by kernel_rfl);exact h)
 obtain ⟨d4,rfl,rfl,w4⟩:=fI (v:=v4) Tryz.underlying51 (by have h:=fld (hx 4 _ rfl) (c:=1) (by kernel_rfl);exact h)
 obtain ⟨d5,rfl,rfl,w5⟩:=fI (v:=v5) Tryz.underlying51 (by have h:=fld (hx 5 _ rfl) (c:=1) (by kernel_rfl);exact h)
 obtain ⟨d6,rfl,rfl,w6⟩:=fI (v:=v6) Tryz.underlying51 (by have h:=fld (hx 6 _ rfl) (c:=1) (by kernel_rfl);exact h)
 clear hx
 exact ⟨(d0,d1,d2,d3,d4,d5,d6),dc (.one _) (dc (.one _) (dc (.one _) (dc (.one _) (dc (.one _) (dc (.one _) (dc (.one _) dn)))))),⟨⟨wfU (k:=.u32) rfl w0,wfU (k:=.u32) rfl w2,wfU (k:=.u32) rfl w3,wfU (k:=.u32) rfl w4,wfU (k:=.u32) rfl w5,wfU (k:=.u32) rfl w6⟩,wfU (k:=.u8) rfl w1⟩,bulk1 _⟩
theorem rd_Itm:Rds 149 Itm.dat (fun x=>0<=x.1/\x.1 < 256) (fun x=>1+x.2.size):=by
 intro H enc W n cs y h
 obtain ⟨xs,m,_,rfl,hcs,hxs,hx⟩:=bB Tryz.underlying149 h
 rw [show Tryz.prog.cellsOf 149=2 by kernel_rfl] at hcs
 replace hxs:xs.length=2:=hxs
 obtain ⟨v0,v1,rfl⟩:=lenN2 hcs
 obtain ⟨y0,y1,rfl⟩:=lenN2 hxs
 clear hcs hxs
 obtain ⟨d0,rfl,rfl,w0⟩:=fI (v:=v0) Tryz.underlying5 (by have h:=fld (hx 0 _ rfl) (c:=1) (by kernel_rfl);exact h)
 obtain ⟨d1,rfl,rfl⟩:=fS (v:=v1) Tryz.underlying9 (by have h:=fld (hx 1 _ rfl) (c:=1) (by kernel_rfl);exact h)
 clear hx
 exact ⟨(d0,d1),dc (.one _) (dc (.one _) dn),wfU (k:=.u8) rfl w0,by show 1+d1.size<=_;simp only [aX,List.map_nil,Rows.uptoBulk,Rows.uptoBulkAll,bD];show 1+d1.data.size<=_;omega⟩
theorem rd_Chk:Rds 147 Chk.dat (fun x=>u32R x.1/\∀i∈x.2,0<=i.1/\i.1 < 256) (fun x=>1+isz x.2):=by
 intro H enc W n cs y h
 obtain ⟨xs,m,_,rfl,hcs,hxs,hx⟩:=bB Tryz.underlying147 h
 rw [show Tryz.prog.cellsOf 147=2 by kernel_rfl] at hcs
 replace hxs:xs.length=2:=hxs
 obtain ⟨v0,v1,rfl⟩:=lenN2 hcs
 obtain ⟨y0,y1,rfl⟩:=lenN2 hxs
 clear hcs hxs
 obtain ⟨d0,rfl,rfl,w0⟩:=fI (v:=v0) Tryz.underlying51 (by have h:=fld (hx 0 _ rfl) (c:=1) (by kernel_rfl);exact h)
 obtain ⟨L1,a1,c1,rfl,D1,Q1,s1⟩:=rd_row1 (v:=v1) (sz:=2) Tryz.underlying145 rd_Itm (by kernel_rfl) (aO rfl) (fun _=>rfl) (by have h:=fld (hx 1 _ rfl) (c:=1) (by kernel_rfl);exact h)
 clear hx
 exact ⟨(d0,L1),dc (.one _) (dc D1 dn),⟨wfU (k:=.u32) rfl w0,Q1⟩,by show 1+isz L1<=_;rw [isz_sum];simp only [aX,List.map_nil,Rows.uptoBulk,Rows.uptoBulkAll];omega⟩
theorem rd_Par:Rds 151 Par.dat (fun x=>(0<=x.1/\x.1 < 65536)/\0<=x.2/\x.2 < 65536) (fun x=>1):=by
 intro H enc W n cs y h
 obtain ⟨xs,m,_,rfl,hcs,hxs,hx⟩:=bB Tryz.underlying151 h
 rw [show Tryz.prog.cellsOf 151=2 by kernel_rfl] at hcs
 replace hxs:xs.length=2:=hxs
 obtain ⟨v0,v1,rfl⟩:=lenN2 hcs
 obtain ⟨y0,y1,rfl⟩:=lenN2 hxs
 clear hcs hxs
 obtain ⟨d0,rfl,rfl,w0⟩:=fI (v:=v0) Tryz.underlying40 (by have h:=fld (hx 0 _ rfl) (c:=1) (by kernel_rfl);exact h)
 obtain ⟨d1,rfl,rfl,w1⟩:=fI (v:=v1) Tryz.underlying40 (by have h:=fld (hx 1 _ rfl) (c:=1) (by kernel_rfl);exact h)
 clear hx
 exact ⟨(d0,d1),dc (.one _) (dc (.one _) dn),⟨wfU (k:=.u16) rfl w0,wfU (k:=.u16) rfl w1⟩,bulk1 _⟩
theorem rd_Sli:Rds 153 Sli.dat (fun x=>(0<=x.1/\x.1 < 65536)/\(0<=x.2.1/\x.2.1 < 65536)/\0<=x.2.2/\x.2.2 < 256) (fun x=>1):=by
 intro H enc W n cs y h
 obtain ⟨xs,m,_,rfl,hcs,hxs,hx⟩:=bB Tryz.underlying153 h
 rw [show Tryz.prog.cellsOf 153=3 by kernel_rfl] at hcs
 replace hxs:xs.length=3:=hxs
 obtain ⟨v0,v1,v2,rfl⟩:=lenN3 hcs
 obtain ⟨y0,y1,y2,rfl⟩:=lenN3 hxs
 clear hcs hxs
 obtain ⟨d0,rfl,rfl,w0⟩:=fI (v:=v0) Tryz.underlying40 (by have h:=fld (hx 0 _ rfl) (c:=1) (by kernel_rfl);exact h)
 obtain ⟨d1,rfl,rfl,w1⟩:=fI (v:=v1) Tryz.underlying40 (by have h:=fld (hx 1 _ rfl) (c:=1) (by kernel_rfl);exact h)
 obtain ⟨d2,rfl,rfl,w2⟩:=fI (v:=v2) Tryz.underlying5 (by have h:=fld (hx 2 _ rfl) (c:=1) (by kernel_rfl);exact h)
 clear hx
 exact ⟨(d0,d1,d2),dc (.one _) (dc (.one _) (dc (.one _) dn)),⟨wfU (k:=.u16) rfl w0,wfU (k:=.u16) rfl w1,wfU (k:=.u8) rfl w2⟩,bulk1 _⟩
theorem rd_Ent:Rds 155 Ent.dat (fun x=>u32R x.1/\0<=x.2/\x.2 < 256) (fun x=>1):=by
 intro H enc W n cs y h
 obtain ⟨xs,m,_,rfl,hcs,hxs,hx⟩:=bB Tryz.underlying155 h
 rw [show Tryz.prog.cellsOf 155=2 by kernel_rfl] at hcs
 replace hxs:xs.length=2:=hxs
 obtain ⟨v0,v1,rfl⟩:=lenN2 hcs
 obtain ⟨y0,y1,rfl⟩:=lenN2 hxs
 clear hcs hxs
 obtain ⟨d0,rfl,rfl,w0⟩:=fI (v:=v0) Tryz.underlying51 (by have h:=fld (hx 0 _ rfl) (c:=1) (by kernel_rfl);exact h)
 obtain ⟨d1,rfl,rfl,w1⟩:=fI (v:=v1) Tryz.underlying5 (by have h:=fld (hx 1 _ rfl) (c:=1) (by kernel_rfl);exact h)
 clear hx
 exact ⟨(d0,d1),dc (.one _) (dc (.one _) dn),⟨wfU (k:=.u32) rfl w0,wfU (k:=.u8) rfl w1⟩,bulk1 _⟩
theorem rd_Met:Rds 160 Met.dat (fun x=>(0<=x.2.1/\x.2.1 < 256)/\0<=x.2.2/\x.2.2 < 65536) (fun x=>1):=by
 intro H enc W n cs y h
 obtain ⟨xs,m,_,rfl,hcs,hxs,hx⟩:=bB Tryz.underlying160 h
 rw [show Tryz.prog.cellsOf 160=3 by kernel_rfl] at hcs
 replace hxs:xs.length=3:=hxs
 obtain ⟨v0,v1,v2,rfl⟩:=lenN3 hcs
 obtain ⟨y0,y1,y2,rfl⟩:=lenN3 hxs
 clear hcs hxs
 obtain ⟨d0,rfl,rfl⟩:=fB (v:=v0) Tryz.underlying4 (by have h:=fld (hx 0 _ rfl) (c:=1) (by kernel_rfl);exact h)
 obtain ⟨d1,rfl,rfl,w1⟩:=fI (v:=v1) Tryz.underlying5 (by have h:=fld (hx 1 _ rfl) (c:=1) (by kernel_rfl);exact h)
 obtain ⟨d2,rfl,rfl,w2⟩:=fI (v:=v2) Tryz.underlying40 (by have h:=fld (hx 2 _ rfl) (c:=1) (by kernel_rfl);exact h)
 clear hx
 exact ⟨(d0,d1,d2),dc (.one _) (dc (.one _) (dc (.one _) dn)),⟨wfU (k:=.u8) rfl w1,wfU (k:=.u16) rfl w2⟩,bulk1 _⟩
theorem rd_Blo:Rds 158 Blo.dat (fun x=>u32R x.1/\(0<=x.2.1/\x.2.1 < 65536)/\∀m∈x.2.2,(0<=m.2.1/\m.2.1 < 256)/\0<=m.2.2/\m.2.2 < 65536) (fun x=>1+x.2.2.length):=by
 intro H enc W n cs y h
 obtain ⟨xs,m,_,rfl,hcs,hxs,hx⟩:=bB Tryz.underlying158 h
 rw [show Tryz.prog.cellsOf 158=3 by kernel_rfl] at hcs
 replace hxs:xs.length=3:=hxs
 obtain ⟨v0,v1,v2,rfl⟩:=lenN3 hcs
 obtain ⟨y0,y1,y2,rfl⟩:=lenN3 hxs
 clear hcs hxs
 obtain ⟨d0,rfl,rfl,w0⟩:=fI (v:=v0) Tryz.underlying51 (by have h:=fld (hx 0 _ rfl) (c:=1) (by kernel_rfl);exact h)
 obtain ⟨d1,rfl,rfl,w1⟩:=fI (v:=v1) Tryz.underlying40 (by have h:=fld (hx 1 _ rfl) (c:=1) (by kernel_rfl);exact h)
 obtain ⟨L2,a2,c2,rfl,D2,Q2,s2⟩:=rd_row1 (v:=v2) (sz:=3) Tryz.underlying156 rd_Met (by kernel_rfl) (aO rfl) (fun _=>rfl) (by have h:=fld (hx 2 _ rfl) (c:=1) (by kernel_rfl);exact h)
 clear hx
 exact ⟨(d0,d1,L2),dc (.one _) (dc (.one _) (dc D2 dn)),⟨wfU (k:=.u32) rfl w0,wfU (k:=.u16) rfl w1,Q2⟩,by rw [sum1] at s2;show 1+L2.length<=_;simp only [aX,List.map_nil,Rows.uptoBulk,Rows.uptoBulkAll];omega⟩
theorem rd_Sta:Rds 163 Sta.dat (fun x=>True) (fun x=>1+x.2.2.2.2.length):=by
 intro H enc W n cs y h
 obtain ⟨xs,m,_,rfl,hcs,hxs,hx⟩:=bB Tryz.underlying163 h
 rw [show Tryz.prog.cellsOf 163=5 by kernel_rfl] at hcs
 replace hxs:xs.length=5:=hxs
 obtain ⟨v0,v1,v2,v3,v4,rfl⟩:=lenN5 hcs
 obtain ⟨y0,y1,y2,y3,y4,rfl⟩:=lenN5 hxs
 clear hcs hxs
 obtain ⟨d0,rfl,rfl⟩:=fB (v:=v0) Tryz.underlying4 (by have h:=fld (hx 0 _ rfl) (c:=1) (by kernel_rfl);exact h)
 obtain ⟨d1,rfl,rfl,w1⟩:=fI (v:=v1) Tryz.underlying40 (by have h:=fld (hx 1 _ rfl) (c:=1) (by kernel_rfl);exact h)
 obtain ⟨d2,rfl,rfl,w2⟩:=fI (v:=v2) Tryz.underlying40 (by have h:=fld (hx 2 _ rfl) (c:=1) (by kernel_rfl);exact h)
 obtain ⟨d3,rfl,rfl,w3⟩:=fI (v:=v3) Tryz.underlying40 (by have h:=fld (hx 3 _ rfl) (c:=1) (by kernel_rfl);exact h)
 obtain ⟨L4,a4,c4,rfl,D4,Q4,s4⟩:=rd_row1 (v:=v4) (sz:=1) Tryz.underlying161 (rd_int Tryz.underlying40) (by kernel_rfl) (aO rfl) (fun _=>rfl) (by have h:=fld (hx 4 _ rfl) (c:=1) (by kernel_rfl);exact h)
 clear hx
 exact ⟨(d0,d1,d2,d3,L4),dc (.one _) (dc (.one _) (dc (.one _) (dc (.one _) (dc (by rw [oi_fl] at D4;exact D4) dn)))),trivial,by rw [sum1] at s4;show 1+L4.length<=_;simp only [aX,List.map_nil,Rows.uptoBulk,Rows.uptoBulkAll];omega⟩
theorem rd_Del:Rds 165 Del.dat (fun x=>True) (fun x=>1):=by
 intro H enc W n cs y h
 obtain ⟨xs,m,_,rfl,hcs,hxs,hx⟩:=bB Tryz.underlying165 h
 rw [show Tryz.prog.cellsOf 165=2 by kernel_rfl] at hcs
 replace hxs:xs.length=2:=hxs
 obtain ⟨v0,v1,rfl⟩:=lenN2 hcs
 obtain ⟨y0,y1,rfl⟩:=lenN2 hxs
 clear hcs hxs
 obtain ⟨d0,rfl,rfl,w0⟩:=fI (v:=v0) Tryz.underlying40 (by have h:=fld (hx 0 _ rfl) (c:=1) (by kernel_rfl);exact h)
 obtain ⟨d1,rfl,rfl,w1⟩:=fI (v:=v1) Tryz.underlying2 (by have h:=fld (hx 1 _ rfl) (c:=1) (by kernel_rfl);exact h)
 clear hx
 exact ⟨(d0,d1),dc (.one _) (dc (.one _) dn),trivial,bulk1 _⟩
structure PkW (p:Pk):Prop where
 s:u32R p.sender
 m:u32R p.media
 ntp:0<=p.ntp/\p.ntp < 18446744073709551616
 rtp:u32R p.rtp
 pks:u32R p.packets
 ocs:u32R p.octets
 tim:u32R p.time
 bt:u32R p.bits
 sub:0<=p.sub/\p.sub < 256
 reps:∀y∈p.reports,RepW y/\0<=y.2.1/\y.2.1 < 256
 chks:∀y∈p.chunks,u32R y.1/\∀i∈y.2,0<=i.1/\i.1 < 256
 srcs:∀y∈p.sources,u32R y
 prs:∀x∈p.pairs,(0<=x.1/\x.1 < 65536)/\0<=x.2/\x.2 < 65536
 sls:∀x∈p.slices,(0<=x.1/\x.1 < 65536)/\(0<=x.2.1/\x.2.1 < 65536)/\0<=x.2.2/\x.2.2 < 256
 ens:∀x∈p.entries,u32R x.1/\0<=x.2/\x.2 < 256
 bls:∀y∈p.blocks,u32R y.1/\(0<=y.2.1/\y.2.1 < 65536)/\∀m∈y.2.2,(0<=m.2.1/\m.2.1 < 256)/\0<=m.2.2/\m.2.2 < 65536
 ext:By p.ext
 dat:By p.data
theorem PkW.fo (h:PkW p) (hs:p.size<=1100000) (lo:0<=p.kind) (hi:p.kind<=13):FoOk p:=
 ⟨lo,hi,fun _=>hs,h.s,h.m,h.ntp,h.rtp,h.pks,h.ocs,h.tim,fun y hy=>(h.reps y hy).1,fun y hy=>(h.chks y hy).1,h.srcs,h.sub,h.prs,h.sls,fun y hy=>(h.ens y hy).1,h.bls,h.bt,fun _=>h.dat⟩
theorem PkW.by_ (h:PkW p):ByP p:=⟨h.ext,h.dat,fun y hy=>(h.reps y hy).2,fun y hy=>(h.chks y hy).2,fun y hy=>(h.ens y hy).2⟩
theorem rd_Pk:Rds 63 Pk.dat PkW Pk.size:=by
 intro H enc W n cs y h
 obtain ⟨xs,m,_,rfl,hcs,hxs,hx⟩:=bB Tryz.underlying63 h
 rw [show Tryz.prog.cellsOf 63=30 by kernel_rfl] at hcs
 replace hxs:xs.length=27:=hxs
 obtain ⟨v0,v1,v2,v3,v4,v5,v6,v7,v8,v9,v10,v11,v12,v13,v14,v15,v16,v17,v18,v19,v20,v21,v22,v23,v24,v25,v26,v27,v28,v29,rfl⟩:=lenN30 hcs
 obtain ⟨y0,y1,y2,y3,y4,y5,y6,y7,y8,y9,y10,y11,y12,y13,y14,y15,y16,y17,y18,y19,y20,y21,y22,y23,y24,y25,y26,rfl⟩:=lenN27 hxs
 clear hcs hxs
 obtain ⟨d0,rfl,rfl,w0⟩:=fI (v:=v0) Tryz.underlying3 (by have h:=fld (hx 0 _ rfl) (c:=1) (by kernel_rfl);exact h)
 obtain ⟨d1,rfl,rfl,w1⟩:=fI (v:=v1) Tryz.underlying51 (by have h:=fld (hx 1 _ rfl) (c:=1) (by kernel_rfl);exact h)
 obtain ⟨d2,rfl,rfl,w2⟩:=fI (v:=v2) Tryz.underlying51 (by have h:=fld (hx 2 _ rfl) (c:=1) (by kernel_rfl);exact h)
 obtain ⟨d3,rfl,rfl,w3⟩:=fI (v:=v3) Tryz.underlying52 (by have h:=fld (hx 3 _ rfl) (c:=1) (by kernel_rfl);exact h)
 obtain ⟨d4,rfl,rfl,w4⟩:=fI (v:=v4) Tryz.underlying51 (by have h:=fld (hx 4 _ rfl) (c:=1) (by kernel_rfl);exact h)
 obtain ⟨d5,rfl,rfl,w5⟩:=fI (v:=v5) Tryz.underlying51 (by have h:=fld (hx 5 _ rfl) (c:=1) (by kernel_rfl);exact h)
 obtain ⟨d6,rfl,rfl,w6⟩:=fI (v:=v6) Tryz.underlying51 (by have h:=fld (hx 6 _ rfl) (c:=1) (by kernel_rfl);exact h)
 obtain ⟨L7,a7,c7,rfl,D7,Q7,s7⟩:=rd_row1 (v:=v7) (sz:=7) Tryz.underlying53 rd_Rep (by kernel_rfl) (aO rfl) (fun _=>rfl) (by have h:=fld (hx 7 _ rfl) (c:=1) (by kernel_rfl);exact h)
 obtain ⟨L8,a8,c8,rfl,D8,Q8,s8⟩:=rd_row1 (v:=v8) (sz:=1) Tryz.underlying22 (rd_int Tryz.underlying5) (by kernel_rfl) (aO rfl) (fun _=>rfl) (by have h:=fld (hx 8 _ rfl) (c:=1) (by kernel_rfl);exact h)
 obtain ⟨L9,a9,c9,rfl,D9,Q9,s9⟩:=rd_row1 (v:=v9) (sz:=2) Tryz.underlying54 rd_Chk (by kernel_rfl) (aO rfl) (fun _=>rfl) (by have h:=fld (hx 9 _ rfl) (c:=1) (by kernel_rfl);exact h)
 obtain ⟨L10,a10,c10,rfl,D10,Q10,s10⟩:=rd_row1 (v:=v10) (sz:=1) Tryz.underlying55 (rd_int Tryz.underlying51) (by kernel_rfl) (aO rfl) (fun _=>rfl) (by have h:=fld (hx 10 _ rfl) (c:=1) (by kernel_rfl);exact h)
 obtain ⟨d11,rfl,rfl⟩:=fS (v:=v11) Tryz.underlying9 (by have h:=fld (hx 11 _ rfl) (c:=1) (by kernel_rfl);exact h)
 obtain ⟨d12,rfl,rfl,w12⟩:=fI (v:=v12) Tryz.underlying5 (by have h:=fld (hx 12 _ rfl) (c:=1) (by kernel_rfl);exact h)
 obtain ⟨L13,a13,c13,rfl,D13,Q13,s13⟩:=rd_row1 (v:=v13) (sz:=1) Tryz.underlying22 (rd_int Tryz.underlying5) (by kernel_rfl) (aO rfl) (fun _=>rfl) (by have h:=fld (hx 13 _ rfl) (c:=1) (by kernel_rfl);exact h)
 obtain ⟨L14,a14,c14,rfl,D14,Q14,s14⟩:=rd_row1 (v:=v14) (sz:=2) Tryz.underlying56 rd_Par (by kernel_rfl) (aO rfl) (fun _=>rfl) (by have h:=fld (hx 14 _ rfl) (c:=1) (by kernel_rfl);exact h)
 obtain ⟨L15,a15,c15,rfl,D15,Q15,s15⟩:=rd_row1 (v:=v15) (sz:=3) Tryz.underlying57 rd_Sli (by kernel_rfl) (aO rfl) (fun _=>rfl) (by have h:=fld (hx 15 _ rfl) (c:=1) (by kernel_rfl);exact h)
 obtain ⟨L16,a16,c16,rfl,D16,Q16,s16⟩:=rd_row1 (v:=v16) (sz:=2) Tryz.underlying58 rd_Ent (by kernel_rfl) (aO rfl) (fun _=>rfl) (by have h:=fld (hx 16 _ rfl) (c:=1) (by kernel_rfl);exact h)
 obtain ⟨d17,rfl,rfl,w17⟩:=fI (v:=v17) Tryz.underlying51 (by have h:=fld (hx 17 _ rfl) (c:=1) (by kernel_rfl);exact h)
 obtain ⟨L18,a18,c18,rfl,D18,Q18,s18⟩:=rd_row1 (v:=v18) (sz:=3) Tryz.underlying59 rd_Blo (by kernel_rfl) (aO rfl) (fun _=>rfl) (by have h:=fld (hx 18 _ rfl) (c:=1) (by kernel_rfl);exact h)
 obtain ⟨d19,rfl,rfl,w19⟩:=fI (v:=v19) Tryz.underlying51 (by have h:=fld (hx 19 _ rfl) (c:=1) (by kernel_rfl);exact h)
 obtain ⟨d20,rfl,rfl,w20⟩:=fI (v:=v20) Tryz.underlying40 (by have h:=fld (hx 20 _ rfl) (c:=1) (by kernel_rfl);exact h)
 obtain ⟨d21,rfl,rfl,w21⟩:=fI (v:=v21) Tryz.underlying40 (by have h:=fld (hx 21 _ rfl) (c:=1) (by kernel_rfl);exact h)
 obtain ⟨d22,rfl,rfl,w22⟩:=fI (v:=v22) Tryz.underlying51 (by have h:=fld (hx 22 _ rfl) (c:=1) (by kernel_rfl);exact h)
 obtain ⟨d23,rfl,rfl,w23⟩:=fI (v:=v23) Tryz.underlying5 (by have h:=fld (hx 23 _ rfl) (c:=1) (by kernel_rfl);exact h)
 obtain ⟨L24,a24,c24,rfl,D24,Q24,s24⟩:=rd_row1 (v:=v24) (sz:=5) Tryz.underlying60 rd_Sta (by kernel_rfl) (aO rfl) (fun _=>rfl) (by have h:=fld (hx 24 _ rfl) (c:=1) (by kernel_rfl);exact h)
 obtain ⟨L25,a25,c25,rfl,D25,Q25,s25⟩:=rd_row1 (v:=v25) (sz:=2) Tryz.underlying61 rd_Del (by kernel_rfl) (aO rfl) (fun _=>rfl) (by have h:=fld (hx 25 _ rfl) (c:=1) (by kernel_rfl);exact h)
 have h26:Tr enc W m 42 [v26,v27,v28,v29] y26:=(by have h:=fld (hx 26 _ rfl) (c:=4) (by kernel_rfl);exact h)
 clear hx
 have h:=h26
 clear h26
 obtain ⟨xs,m2,_,rfl,_,hxs,hx⟩:=bB Tryz.underlying42 h
 replace hxs:xs.length=4:=hxs
 obtain ⟨z0,z1,z2,z3,rfl⟩:=lenN4 hxs
 obtain ⟨f0,rfl,rfl⟩:=fB (v:=v26) Tryz.underlying4 (by have h:=fld (hx 0 _ rfl) (c:=1) (by kernel_rfl);exact h)
 obtain ⟨f1,rfl,rfl,_⟩:=fI (v:=v27) Tryz.underlying5 (by have h:=fld (hx 1 _ rfl) (c:=1) (by kernel_rfl);exact h)
 obtain ⟨f2,rfl,rfl,_⟩:=fI (v:=v28) Tryz.underlying5 (by have h:=fld (hx 2 _ rfl) (c:=1) (by kernel_rfl);exact h)
 obtain ⟨f3,rfl,rfl,_⟩:=fI (v:=v29) Tryz.underlying40 (by have h:=fld (hx 3 _ rfl) (c:=1) (by kernel_rfl);exact h)
 refine ⟨({ kind:=d0,sender:=d1,media:=d2,ntp:=d3,rtp:=d4,packets:=d5,octets:=d6,reports:=L7,ext:=L8,chunks:=L9,sources:=L10,text:=d11,sub:=d12,data:=L13,pairs:=L14,slices:=L15,entries:=L16,bits:=d17,blocks:=L18,time:=d19,base:=d20,count:=d21,ref:=d22,fb:=d23,statuses:=L24,deltas:=L25,hp:=f0,hc:=f1,ht:=f2,hl:=f3 }:Pk),dc (.one _) (dc (.one _) (dc (.one _) (dc (.one _) (dc (.one _) (dc (.one _) (dc (.one _) (dc D7 (dc (by rw [ob_fl] at D8;exact D8) (dc D9 (dc (by rw [oi_fl] at D10;exact D10) (dc (.one _) (dc (.one _) (dc (by rw [ob_fl] at D13;exact D13) (dc D14 (dc D15 (dc D16 (dc (.one _) (dc D18 (dc (.one _) (dc (.one _) (dc (.one _) (dc (.one _) (dc (.one _) (dc D24 (dc D25 (dc (.one _) (dc (.one _) (dc (.one _) (dc (.one _) dn))))))))))))))))))))))))))))),?_,?_⟩
 ·exact ⟨wfU (k:=.u32) rfl w1,wfU (k:=.u32) rfl w2,wfU (k:=.u64) rfl w3,wfU (k:=.u32) rfl w4,wfU (k:=.u32) rfl w5,wfU (k:=.u32) rfl w6,wfU (k:=.u32) rfl w19,wfU (k:=.u32) rfl w17,wfU (k:=.u8) rfl w12,Q7,Q9,fun y hy=>wfU (k:=.u32) rfl (Q10 y hy),Q14,Q15,Q16,Q18,fun y hy=>wfU (k:=.u8) rfl (Q8 y hy),fun y hy=>wfU (k:=.u8) rfl (Q13 y hy)⟩
 ·rw [sum1] at s7 s8 s10 s13 s14 s15 s16 s25
  rw [<-csz_sum] at s9
  rw [<-bsz_sum] at s18
  rw [<-ssz_sum] at s24
  show L7.length+L8.length+csz L9+L10.length+d11.size+L13.length+L14.length+L15.length+L16.length+bsz L18+ssz L24+L25.length<=_
  simp only [aX,List.map_nil,Rows.uptoBulk,Rows.uptoBulkAll,bD]
  show _+d11.data.size+_+_+_+_+_+_+_<=_
  omega
theorem sum2 {α:Type} (l:List α):(l.map fun _=>2).sum=2*l.length:=by
 induction l with
 | nil=>rfl
 | cons x r ih=>simp only [aX,bP,aA,ih];omega
theorem bulk_pk {H:Type} {enc:TypeId×Value->H} {cs:List Value} {y:DataW H×List MemPlace} (h:DataW.trod enc Tryz.prog W 0 (fun _=>true) true n 63 cs=some y):2<=Rows.uptoBulk y.1:=by
 obtain ⟨xs,m,_,rfl,_,hxs,_⟩:=bB Tryz.underlying63 h
 replace hxs:xs.length=27:=hxs
 obtain ⟨x,r,rfl,_⟩:=len1 hxs
 have:=bulk1 x.1
 simp only [aX,Rows.uptoBulk,Rows.uptoBulkAll]
 omega
theorem open_pks {H:Type} {enc:TypeId×Value->H} {cs:List Value} {y:DataW H×List MemPlace} (h:DataW.trod enc Tryz.prog W 0 (fun _=>true) true n 23 cs=some y) :
  ∃(L:List Pk) (a:Option Addr) (c:Nat),cs=[.slice a L.length c]/\Deep W Top (.row 30 (L.flatMap Pk.dat)) (.slice a L.length c)/\(∀p∈L,PkW p)/\(L.map Pk.size).sum<=Rows.uptoBulk y.1/\2*L.length<=Rows.uptoBulk y.1:=by
 obtain ⟨L,a,c,h1,h2,h3,h4⟩:=rd_row (sz:=30) Tryz.underlying23 rd_Pk (by kernel_rfl) (aO rfl) (fun _=>rfl) h
 obtain ⟨L2,a2,c2,k1,_,_,k4⟩:=rd_row (sz:=30) (f:=Pk.dat) (Q:=fun _=>True) (s:=fun _=>2) Tryz.underlying23 (fun H enc W n cs y h=>by obtain ⟨x,hx,_,_⟩:=rd_Pk H enc W n cs y h;exact ⟨x,hx,trivial,bulk_pk h⟩) (by kernel_rfl) (aO rfl) (fun _=>rfl) h
 rw [h1] at k1
 simp only [List.cons.injEq,bN,and_true] at k1
 rw [sum2] at k4
 exact ⟨L,a,c,h1,h2,h3,h4,by omega⟩
open Go.ChangeShapes Go.WideShapes Go.ChangeAt Go.WideMaps Go.WideElems Go.RowKit Go.Joins
theorem own:ownKnob Tryz.prog.godebug=none:=by kernel_rfl
theorem star : "*" ++ "errors.errorString" = "*errors.errorString" := by decide
theorem row296 (u:TypeId) (h:Tryz.prog.typeName? 3 u=some "*errors.errorString"):u=296:=
 typeName_ptr_named (nm := "errors.errorString") (by rw [star];kernel_rfl) (by kernel_rfl) (by decide) u (by rw [star];exact h)
theorem kept_grown {W':World} (may:MemPlace->Prop) (h:W.grownBy W' none):W.keptBut W' may:=by
 refine ⟨h.os,h.output,fun i hi=>?_⟩
 rw [h.block i hi (by simp)]
 cases W.heap[i]? with
 | none=>rfl
 | some o=>cases o<;>first
  | exact ⟨rfl,rfl,rfl,fun _ _=>rfl⟩
  | exact .inr ⟨rfl,rfl⟩
  | rfl
theorem ret_cond_and {H:Type} {enc:TypeId×Value->H} {a:Assume} {C:Checked} {os:Os} {fn:Func} {s:OpenSpec} {k:(H:Type)->List (DataW H)->Bool} (hk:s.cond=some k) {F:Stop.Interp} {conds:List PathCond} {apart fresh handsOn again:Bool} {X:World->Array Value->Prop}
  (hX:∀(w w':World) (args:Array Value),w.heap=w'.heap->X w args->X w' args)
  (own:ownKnob C.prog.godebug=none) (started:os.Started) (noInit:C.prog.inits.idxOf? f=none) (hfn:C.prog.funcs[f]?=some fn)
  (witness:∃(w:World) (tape:Tape) (i:Input),w.os=os/\(w.forCall tape i).Shaped C.prog/\i.vars=[]/\Input.okWide C.prog (w.forCall tape i) .any w.heap.size f i /\
   ((s.pre enc C.prog fn conds apart (w.forCall tape i).memory i.args/\X (w.forCall tape i).memory i.args)/\sizedMet enc C.prog fn s apart (w.forCall tape i).memory i.args)/\a.holds C.prog (lone (Frame.enter C.prog f i.args .normal) [] (w.forCall tape i)))
  (contract:∀(W:World) (base:Nat) (args:Array Value) (ds gs:List (DataW H)) (before:List MemPlace),
   (∀(j:Nat) t v,fn.params[j]?=some t->args[j]?=some v->Value.okWide C.prog W .any base t v) ->
   DataW.Whole enc C.prog fn.params.toList s.vars apart W args.toList ds gs before->k H (ds++gs)=true->X W args ->
   Calls C.prog f args W fun e W'=>∃v,e=.returned v/\(s.at F).post enc C.prog fn apart fresh handsOn again W args v W') :
  ReturnsInHanded a C os f .any (fun w args=>(s.pre enc C.prog fn conds apart w args/\X w args)/\sizedMet enc C.prog fn s apart w args) ((s.at F).post enc C.prog fn apart fresh handsOn again):=by
 refine returnsInHanded_of_calls own started noInit witness ?_
 intro w tape i _ _ _ hok hpre hholds
 obtain ⟨_,_,_,fn',hfn',_,_,_,_,hval⟩:=hok
 have e:fn'=fn:=Option.some.inj (hfn'.symm.trans hfn)
 subst e
 obtain ⟨⟨hp,hx⟩,_⟩:=hpre
 obtain ⟨ds,gs,before,hw,hc,hkk⟩:=(OpenSpec.pre_some hk conds apart _ _).1 hp
 have hw':=DataW.Whole.of_heap (w':=w.forCall tape i) (by rfl) hw
 refine (contract (w.forCall tape i) w.heap.size i.args ds gs before hval hw' hkk (hX _ _ _ (by rfl) hx)).mono fun e W' ⟨v,he,hp⟩=>?_
 subst he
 exact ChangeSpec.post_blind hp
theorem wit_cond {H:Type} {enc:TypeId×Value->H} {C:Checked} {os:Os} {fn:Func} {s:OpenSpec} {k:(H:Type)->List (DataW H)->Bool} (hk:s.cond=some k) {conds:List PathCond} {apart:Bool} {X:World->Array Value->Prop} (modest:Bool) (w0:World) (args:Array Value) (fuel:Nat) (hos:w0.os=os)
  (hsh:(w0.forCall (fun _ _=>0) ⟨#[],args,[]⟩).Shaped C.prog)
  (hok:Input.okWideB C.prog (w0.forCall (fun _ _=>0) ⟨#[],args,[]⟩) f ⟨#[],args,[]⟩=true)
  {x:List (DataW H)×List (DataW H)×List MemPlace} (hw:DataW.whole enc C.prog (w0.forCall (fun _ _=>0) ⟨#[],args,[]⟩).memory fn.params.toList s.vars apart args.toList fuel=some x)
  (hconds:conds.all (PathCond.test C.prog ⟨fn.params.toList,x.1,s.bare.plain.varTypes C.prog,x.2.1⟩)=true) (hkk:k H (x.1++x.2.1)=true)
  (hsz:s.bare.sizedB enc C.prog fn apart (w0.forCall (fun _ _=>0) ⟨#[],args,[]⟩).memory args fuel=true)
  (hx:X (w0.forCall (fun _ _=>0) ⟨#[],args,[]⟩).memory args) :
  ∃(w:World) (tape:Tape) (i:Input),w.os=os/\(w.forCall tape i).Shaped C.prog/\i.vars=[]/\Input.okWide C.prog (w.forCall tape i) .any w.heap.size f i /\
   ((s.pre enc C.prog fn conds apart (w.forCall tape i).memory i.args/\X (w.forCall tape i).memory i.args)/\sizedMet enc C.prog fn s apart (w.forCall tape i).memory i.args)/\({ modest:=modest }:Assume).holds C.prog (lone (Frame.enter C.prog f i.args .normal) [] (w.forCall tape i)):=
 ⟨w0,fun _ _=>0,⟨#[],args,[]⟩,hos,hsh,(Input.okWide_of_okWideB (base:=0) hok).1,(Input.okWide_of_okWideB hok).2,
  ⟨⟨(OpenSpec.pre_some hk conds apart _ _).2 ⟨x.1,x.2.1,x.2.2,DataW.Whole_of_whole hw,hconds,hkk⟩,hx⟩,sizedMet_of_sizedB hsz⟩,by
  simp only [Assume.holds]
  exact ⟨by simp,by simp,fun _=>Modest.zero,by simp,by simp⟩⟩
open Go.ChangeShapes Go.WideShapes Go.ChangeAt Go.WideMaps Go.WideElems Go.RowKit Go.Joins
def laid7:List (String×DataW Unit):=[("rtcppackets/pub/rtcp.errInvalidHeader",Rows.laid_rtcppackets_pub_rtcp_errInvalidHeader),("rtcppackets/pub/rtcp.errEmptyCompound",Rows.laid_rtcppackets_pub_rtcp_errEmptyCompound),("rtcppackets/pub/rtcp.errBadFirstPacket",Rows.laid_rtcppackets_pub_rtcp_errBadFirstPacket),("rtcppackets/pub/rtcp.errMissingCNAME",Rows.laid_rtcppackets_pub_rtcp_errMissingCNAME),("rtcppackets/pub/rtcp.errPacketBeforeCNAME",Rows.laid_rtcppackets_pub_rtcp_errPacketBeforeCNAME),("rtcppackets/pub/rtcp.errPacketTooShort",Rows.laid_rtcppackets_pub_rtcp_errPacketTooShort),("rtcppackets/pub/rtcp.errBadVersion",Rows.laid_rtcppackets_pub_rtcp_errBadVersion)]
theorem lerr {n:String} {text:List UInt8} {r:List (String×DataW Unit)} (h:laidMet Tryz.prog ((n,.iface "*errors.errorString" (.ptr (.agg [.lit (.string text)])))::r) W) (hg:Tryz.prog.globalNamed n=some g) (ht:(Tryz.prog.globals[g]?).map (·.type)=some 90):∃t v,W.cell? ⟨g,0,none⟩=some (.iface t v):=by
 obtain ⟨a,_,h0,_,_,_⟩:=laid_sentinel h hg ht Tryz.underlying90 row296 Tryz.underlying296 Tryz.underlying342 rfl rfl Tryz.underlying9 (by kernel_rfl) (by kernel_rfl)
 exact ⟨_,_,by simpa using World.var?_cell hg h0 0⟩
theorem errs7 (h:laidMetH Tryz.prog laid7 W):∀i,i < 7->∃t v,W.cell? ⟨i,0,none⟩=some (.iface t v):=by
 rw [MakeChecks.laidMetH_plain _ _ _ (by kernel_rfl)] at h
 have a0:=lerr (g:=0) h (by kernel_rfl) (by kernel_rfl)
 have a3:=lerr (g:=3) h.tail (by kernel_rfl) (by kernel_rfl)
 have a6:=lerr (g:=6) h.tail.tail (by kernel_rfl) (by kernel_rfl)
 have a5:=lerr (g:=5) h.tail.tail.tail (by kernel_rfl) (by kernel_rfl)
 have a4:=lerr (g:=4) h.tail.tail.tail.tail (by kernel_rfl) (by kernel_rfl)
 have a1:=lerr (g:=1) h.tail.tail.tail.tail.tail (by kernel_rfl) (by kernel_rfl)
 have a2:=lerr (g:=2) h.tail.tail.tail.tail.tail.tail (by kernel_rfl) (by kernel_rfl)
 intro i hi
 have hi:i=0\/i=1\/i=2\/i=3\/i=4\/i=5\/i=6:=by omega
 rcases hi with rfl | rfl | rfl | rfl | rfl | rfl | rfl<;>assumption
theorem door_met7 (os:Os) (args:Array Value):laidMetH Tryz.prog laid7 ((World.doorLaid Tryz.prog 20000 os).forCall (fun _ _=>0) ⟨#[],args,[]⟩).memory:=
 laidMetH_of_parts3 (fuel:=8) (laidMet_of_run' 8 (by kernel_rfl) (by kernel_rfl)) (by kernel_rfl) (by kernel_rfl)
theorem err7 (r:Ro) (h:laidMetH Tryz.prog laid7 W):∃C:List Ro,ErrC False (r::C)/\CErr (r::C)/\∀q∈C,∃i v,q=Ro.cell i 0 v/\W.cell? ⟨i,0,none⟩=some v:=by
 have h:=errs7 h
 obtain ⟨t0,v0,h0⟩:=h 0 (by decide)
 obtain ⟨t1,v1,h1⟩:=h 1 (by decide)
 obtain ⟨t2,v2,h2⟩:=h 2 (by decide)
 obtain ⟨t3,v3,h3⟩:=h 3 (by decide)
 obtain ⟨t4,v4,h4⟩:=h 4 (by decide)
 obtain ⟨t5,v5,h5⟩:=h 5 (by decide)
 obtain ⟨t6,v6,h6⟩:=h 6 (by decide)
 refine ⟨[.cell 0 0 (.iface t0 v0),.cell 1 0 (.iface t1 v1),.cell 2 0 (.iface t2 v2),.cell 3 0 (.iface t3 v3),.cell 4 0 (.iface t4 v4),.cell 5 0 (.iface t5 v5),.cell 6 0 (.iface t6 v6)],⟨fun i hi=>?_,fun hp=>hp.elim⟩,fun i hi=>?_,fun q hq=>?_⟩
 ·have hi:i=0\/i=1\/i=2:=by
   have:=List.elem_iff.1 (show List.elem i laidIds=true from hi)
   simp [laidIds] at this
   omega
  rcases hi with rfl | rfl | rfl
  ·exact ⟨.iface t0 v0,by simp,by simp [isIf],fun _=>by simp [isNilI]⟩
  ·exact ⟨.iface t1 v1,by simp,by simp [isIf],fun _=>by simp [isNilI]⟩
  ·exact ⟨.iface t2 v2,by simp,by simp [isIf],fun _=>by simp [isNilI]⟩
 ·rcases hi with rfl | rfl | rfl | rfl
  ·exact ⟨.iface t3 v3,by simp,by simp [isIf],by simp [isNilI]⟩
  ·exact ⟨.iface t4 v4,by simp,by simp [isIf],by simp [isNilI]⟩
  ·exact ⟨.iface t5 v5,by simp,by simp [isIf],by simp [isNilI]⟩
  ·exact ⟨.iface t6 v6,by simp,by simp [isIf],by simp [isNilI]⟩
 ·simp only [aI,List.not_mem_nil,or_false] at hq
  rcases hq with rfl | rfl | rfl | rfl | rfl | rfl | rfl
  ·exact ⟨_,_,rfl,h0⟩
  ·exact ⟨_,_,rfl,h1⟩
  ·exact ⟨_,_,rfl,h2⟩
  ·exact ⟨_,_,rfl,h3⟩
  ·exact ⟨_,_,rfl,h4⟩
  ·exact ⟨_,_,rfl,h5⟩
  ·exact ⟨_,_,rfl,h6⟩
end Go.Proofs.YtkdialecadjedaaGreatDoor
