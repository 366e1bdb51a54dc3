/- A part of a proof, joined by a program out of smaller texts (conditions: those that each theorem names). -/
import Derived.Test.YtkdialecadjedaaGreatDoorB5
namespace Go.Proofs.YtkdialecadjedaaGreatDoor
set_option linter.unusedVariables false
set_option linter.unusedSimpArgs false
set_option linter.unusedSectionVars false
set_option maxRecDepth 100000
set_option maxHeartbeats 8000000
open Go
theorem c40 {F:Fr} {w:World} {ex:List Ex} {ro:List Ro} {p:Pk} {cells:List Value} (H:Sat F w ex ro) (hp:Ro.deep p.dat cells∈ro) (hs:p.size<=1100000):Calls pg 40 #[.agg cells.toArray] w (KePost F ex ro p):=by
 have hK:(keyB p).length<=66000400:=by have:=keyB_sz p;omega
 unfold Pk.size at hs
 have z7:p.reports.length<=1100000:=by omega
 have z8:p.ext.length<=1100000:=by omega
 have z9:p.chunks.length<=1100000:=by have:=csz_len p.chunks;omega
 have z10:p.sources.length<=1100000:=by omega
 have zt:p.text.size<=1100000:=by omega
 have z13:p.data.length<=1100000:=by omega
 have z14:p.pairs.length<=1100000:=by omega
 have z15:p.slices.length<=1100000:=by omega
 have z16:p.entries.length<=1100000:=by omega
 have z18:p.blocks.length<=1100000:=by have:=bsz_len p.blocks;omega
 have z24:p.statuses.length<=1100000:=by have:=ssz_len p.statuses;omega
 have z25:p.deltas.length<=1100000:=by omega
 have hcm:∀B∈p.chunks,B.2.length<=1100000:=fun B hB=>by have:=csz_mem p.chunks B hB;omega
 have hbm:∀B∈p.blocks,B.2.2.length<=1100000:=fun B hB=>by have:=bsz_mem p.blocks B hB;omega
 have hsm:∀B∈p.statuses,B.2.2.2.2.length<=1100000:=fun B hB=>by have:=ssz_mem p.statuses B hB;omega
 clear hs
 obtain ⟨a7,a8,a9,a10,a13,a14,a15,a16,a18,a24,a25,c7,c8,c9,c10,c13,c14,c15,c16,c18,c24,c25,R,rfl,hr,H,m7,m8,m9,m10,m13,m14,m15,m16,m18,m24,m25⟩:=H.pkF hp
 obtain ⟨l1,l2,l3,l4,l5,l6,l7,l8⟩:=kb_le p
 apply of40
 refine sNew H ?_;clear H;intro b1 w _ H
 replace H:Sat F w (.blk b1 63 (pkC p a7 a8 a9 a10 a13 a14 a15 a16 a18 a24 a25 c7 c8 c9 c10 c13 c14 c15 c16 c18 c24 c25)::ex) R:=H
 refine sNew H ?_;clear H;intro b3 w _ H
 refine sNew H ?_;clear H;intro b5 w _ H
 refine sSt0 H (by rfl) (by kernel_rfl) (by rfl) (by rfl) ?_;clear H;intro w _ H
 replace H:Sat F w (.blk b5 140 [.func (.func 81) #[] #[.pointer (some ⟨b3,0,none⟩)]]::.blk b3 22 [.slice none 0 0]::.blk b1 63 (pkC p a7 a8 a9 a10 a13 a14 a15 a16 a18 a24 a25 c7 c8 c9 c10 c13 c14 c15 c16 c18 c24 c25)::ex) R:=H
 refine ⟨_,_,_,(by exact Ce rfl H.b0 rfl),?_⟩
 refine ⟨_,(H.b2.at0 rfl),?_⟩
 refine ⟨_,(H.b2.at0 rfl),?_⟩
 refine ⟨_,(H.b2.at0 rfl),?_⟩
 refine ⟨_,(H.b2.at0 rfl),?_⟩
 refine ⟨_,(H.b2.at0 rfl),?_⟩
 refine ⟨_,(H.b2.at0 rfl),?_⟩
 refine ⟨_,(H.b2.at0 rfl),?_⟩
 refine ⟨_,_,_,(H.b2.at0 rfl),?_⟩
 have H1:=H.r1.nilOwn 5 1
 clear H
 replace H1:Sat F w (KS b3 22 none 0 0 none [] (.blk b5 140 [.func (.func 81) #[] #[.pointer (some ⟨b3,0,none⟩)]]::.blk b1 63 (pkC p a7 a8 a9 a10 a13 a14 a15 a16 a18 a24 a25 c7 c8 c9 c10 c13 c14 c15 c16 c18 c24 c25)::ex)) R:=H1
 refine nK (k:=8) H1 [uw p.kind,uw p.sender,uw p.media,p.ntp,uw p.rtp,uw p.packets,uw p.octets,un p.reports.length] rfl (by omega) (by decide) ?_
 clear H1;intro a n c r w hn H
 rw [List.nil_append] at H
 refine ⟨fun _ w=>∃(a:Option Addr) (n c:Nat) (r:Option Nat),n=(kb1 p).length/\Sat F w (KS b3 22 a n c r (kb1 p) (.blk b5 140 [.func (.func 81) #[] #[.pointer (some ⟨b3,0,none⟩)]]::.blk b1 63 (pkC p a7 a8 a9 a10 a13 a14 a15 a16 a18 a24 a25 c7 c8 c9 c10 c13 c14 c15 c16 c18 c24 c25)::ex)) R,?_,?_⟩
 ·skip
  obtain ⟨B0,hB0⟩:∃B0,B0=kn [uw p.kind,uw p.sender,uw p.media,p.ntp,uw p.rtp,uw p.packets,uw p.octets,un p.reports.length]:=⟨_,rfl⟩
  rw [<-hB0] at H
  replace hn:n=B0.length:=by rw [hB0];simp only [kn_len,List.length_cons,List.length_nil];omega
  have hT:B0.length+(p.reports.flatMap kRep).length=(kb1 p).length:=by rw [hB0,<-List.length_append];rfl
  have hTb:B0.length+(p.reports.flatMap kRep).length<=66000400:=by omega
  clear hK l1 l2 l3 l4 l5 l6 l7 l8 z8 zt z13 z9 z10 z14 z15 z16 z18 z24 z25
  refine ⟨_,_,_,(H.b3.at0 rfl),?_⟩
  refine ⟨fun x q w=>∃(j:Nat) (a:Option Addr) (n c:Nat) (r:Option Nat),x=(j:Int)/\j+q=p.reports.length/\n=B0.length+((p.reports.take j).flatMap kRep).length/\Sat F w (KS b3 22 a n c r (B0++(p.reports.take j).flatMap kRep) (.blk b5 140 [.func (.func 81) #[] #[.pointer (some ⟨b3,0,none⟩)]]::.blk b1 63 (pkC p a7 a8 a9 a10 a13 a14 a15 a16 a18 a24 a25 c7 c8 c9 c10 c13 c14 c15 c16 c18 c24 c25)::ex)) R,⟨p.reports.length,0,a,n,c,r,rfl,by omega,by rw [List.take_zero,List.flatMap_nil,List.length_nil];omega,by rw [List.take_zero,List.flatMap_nil,List.append_nil];exact H⟩,?_⟩
  clear H;rintro dd x q w ⟨j,a,n,c,r,rfl,hjq,hn,H⟩
  refine ⟨fun hc=>?_,fun hc=>?_⟩
  ·rw [decide_eq_true_eq] at hc
   have hjl:j < p.reports.length:=by omega
   have htk:p.reports.take (j+1)=p.reports.take j++[p.reports[j]]:=by rw [List.take_add_one,List.getElem?_eq_getElem hjl];rfl
   have hpre:=pre_le kRep hjl
   obtain ⟨pp,us,e,hus,hcell,H1⟩:=H.eltF Rep.dat_len' (by decide) m7 (j:=j) hjl
   clear H
   generalize p.reports[j]=D at H1 htk hpre
   obtain ⟨d0,d1,d2,d3,d4,d5,d6⟩:=D
   refine ⟨pp,e,by omega,by omega,?_⟩
   obtain rfl:=H1.ones (us:=[.int .u32 d0,.int .u8 d1,.int .u32 d2,.int .u32 d3,.int .u32 d4,.int .u32 d5,.int .u32 d6]) ms
   refine ⟨_,_,_,_,_,_,_,LdC [.int .u32 d0,.int .u8 d1,.int .u32 d2,.int .u32 d3,.int .u32 d4,.int .u32 d5,.int .u32 d6] (by kernel_rfl) (by rw [show (j:Int).toNat*7=j*7 by omega];exact hcell),?_⟩
   have H:=H1.sub (List.Sublist.refl _) (fun r h=>mt h)
   clear H1 hcell
   refine sNew H ?_;clear H;intro b4 w _ H
   refine sSw0 H rfl (by kernel_rfl) (by rfl) (by rfl) ?_;clear H;intro w _ H
   replace H:=H.u2
   refine ⟨_,_,_,(by exact Ce rfl H.b3 rfl),?_⟩
   refine ⟨_,(H.b2.at0 rfl),?_⟩
   refine ⟨_,(H.b2.at0 rfl),?_⟩
   refine ⟨_,(H.b2.at0 rfl),?_⟩
   refine ⟨_,(H.b2.at0 rfl),?_⟩
   refine ⟨_,(H.b2.at0 rfl),?_⟩
   refine ⟨_,(H.b2.at0 rfl),?_⟩
   refine ⟨_,(H.b2.at0 rfl),?_⟩
   rw [kRep_len] at hpre
   refine nK (k:=7) H [uw d0,uw d1,uw d2,uw d3,uw d4,uw d5,uw d6] rfl (by omega) (by decide) ?_
   clear H;intro a2 n2 c2 r2 w hn2 H
   refine ⟨q - 1,by omega,j+1,a2,n2,c2,r2,by rw [wi64_of (by omega) (by omega)];simp,by omega,?_,?_⟩
   ·rw [htk,List.flatMap_append,List.length_append]
    simp only [fm1,fm2,fm3]
    rw [kRep_len];omega
   ·rw [fl1 (f:=kRep) htk B0]
    exact H.dr
  rw [decide_eq_false_iff_not] at hc
  obtain rfl:j=p.reports.length:=by omega
  rw [List.take_length] at H hn
  exact ⟨a,n,c,r,by omega,by rw [hB0] at H;exact H⟩
 clear H hn;rintro ddj w ⟨a,n,c,r,hn,H⟩
 have x8:(strOfNums p.ext).size=p.ext.length:=strOfNums_size _
 have x13:(strOfNums p.data).size=p.data.length:=strOfNums_size _
 refine ⟨_,_,_,(H.b3.at0 rfl),?_⟩
 refine ⟨_,_,sStr H m8 uSl uU8 uStr,?_⟩
 refine call_j (c82 H (strOfNums p.ext) (by omega)) ?_
 clear H;rintro _ w ⟨rfl,a,n2,c,r,hn2,H⟩
 refine ⟨rfl,?_⟩
 refine ⟨_,_,_,(by exact Ce rfl H.b2 rfl),?_⟩
 refine ⟨_,_,_,(H.b3.at0 rfl),?_⟩
 refine ⟨rfl,?_⟩
 refine nK (k:=1) H [un p.chunks.length] rfl (by omega) (by decide) ?_
 clear H;intro a n3 c r w hn3 H
 obtain rfl:n3=n+16+p.ext.length:=by omega
 have hnB:=hn
 clear hn
 obtain ⟨n0,hn0⟩:∃m,m=n:=⟨n,rfl⟩
 generalize hnq:n+16+p.ext.length=n at H
 have hn:n=n0+16+p.ext.length:=by omega
 refine ⟨fun _ w=>∃(a:Option Addr) (n c:Nat) (r:Option Nat),n=(kb2 p).length/\Sat F w (KS b3 22 a n c r (kb2 p) (.blk b5 140 [.func (.func 81) #[] #[.pointer (some ⟨b3,0,none⟩)]]::.blk b1 63 (pkC p a7 a8 a9 a10 a13 a14 a15 a16 a18 a24 a25 c7 c8 c9 c10 c13 c14 c15 c16 c18 c24 c25)::ex)) R,?_,?_⟩
 ·skip
  obtain ⟨B0,hB0⟩:∃B0,B0=kb1 p++kt (strOfNums p.ext)++kn [un p.chunks.length]:=⟨_,rfl⟩
  rw [<-hB0] at H
  replace hn:n=B0.length:=by rw [hB0];simp only [List.length_append,kn_len,kt_len,List.length_cons,List.length_nil,x8];omega
  have hT:B0.length+(p.chunks.flatMap kChk).length=(kb2 p).length:=by rw [hB0,<-List.length_append];rfl
  have hTb:B0.length+(p.chunks.flatMap kChk).length<=66000400:=by omega
  clear hK l1 l2 l3 l4 l5 l6 l7 l8 z8 zt z13 z7 z10 z14 z15 z16 z18 z24 z25
  refine ⟨_,_,_,(H.b3.at0 rfl),?_⟩
  refine ⟨fun x q w=>∃(j:Nat) (a:Option Addr) (n c:Nat) (r:Option Nat),x=(j:Int)/\j+q=p.chunks.length/\n=B0.length+((p.chunks.take j).flatMap kChk).length/\Sat F w (KS b3 22 a n c r (B0++(p.chunks.take j).flatMap kChk) (.blk b5 140 [.func (.func 81) #[] #[.pointer (some ⟨b3,0,none⟩)]]::.blk b1 63 (pkC p a7 a8 a9 a10 a13 a14 a15 a16 a18 a24 a25 c7 c8 c9 c10 c13 c14 c15 c16 c18 c24 c25)::ex)) R,⟨p.chunks.length,0,a,n,c,r,rfl,by omega,by rw [List.take_zero,List.flatMap_nil,List.length_nil];omega,by rw [List.take_zero,List.flatMap_nil,List.append_nil];exact H⟩,?_⟩
  clear H;rintro dd x q w ⟨j,a,n,c,r,rfl,hjq,hn,H⟩
  refine ⟨fun hc=>?_,fun hc=>?_⟩
  ·rw [decide_eq_true_eq] at hc
   have hjl:j < p.chunks.length:=by omega
   have htk:p.chunks.take (j+1)=p.chunks.take j++[p.chunks[j]]:=by rw [List.take_add_one,List.getElem?_eq_getElem hjl];rfl
   have hpre:=pre_le kChk hjl
   have hDm:=hcm p.chunks[j] (List.getElem_mem hjl)
   obtain ⟨pp,us,e,hus,hcell,H1⟩:=H.eltF Chk.dat_len' (by decide) m9 (j:=j) hjl
   clear H
   generalize p.chunks[j]=D at H1 htk hpre hDm
   obtain ⟨d0,msz⟩:=D
   replace hDm:msz.length<=1100000:=hDm
   refine ⟨pp,e,by omega,by omega,?_⟩
   obtain ⟨x0,us0,rfl,H2⟩:=H1.uncons ms
   obtain ⟨x1,us1,rfl,H3⟩:=H2.uncons (mt ms)
   obtain rfl:us1=[]:=by simpa using hus
   obtain rfl:=H2.one1 ms
   obtain ⟨sa,sn,sc,rfl,hsl2⟩:=H3.rowS ms
   rw [flat_len Itm.dat_len] at hsl2
   obtain rfl:sn=msz.length:=by omega
   refine ⟨_,_,_,_,LdC [.int .u32 d0,.slice sa msz.length sc] (by kernel_rfl) (by rw [show (j:Int).toNat*2=j*2 by omega];exact hcell),?_⟩
   have H:Sat F w _ (.deep [.row 2 (msz.flatMap Itm.dat)] [.slice sa msz.length sc]::R):=H3.sub (List.Sublist.refl _) (fun r h=>by
    rcases List.mem_cons.1 h with rfl | h
    ·exact ms
    ·simp [h])
   clear hcell H1 H2 H3
   refine sNew H ?_;clear H;intro b4 w _ H
   refine sSw0 H rfl (by kernel_rfl) (by rfl) (by rfl) ?_;clear H;intro w _ H
   replace H:=H.u2
   have hpl:(kChk (d0,msz)).length=16+(msz.flatMap kItm).length:=by simp only [kChk,List.length_append,kn_len,List.length_cons,List.length_nil]
   rw [hpl] at hpre
   refine ⟨_,_,_,(by exact Ce rfl H.b3 rfl),?_⟩
   refine ⟨_,(H.b2.at0 rfl),?_⟩
   refine ⟨_,_,_,(H.b2.at0 rfl),?_⟩
   refine nK (k:=2) H [uw d0,un msz.length] rfl (by omega) (by decide) ?_
   clear H;intro a n2 c r w hn2 H
   obtain ⟨B2,hB2⟩:∃B2,B2=B0++(p.chunks.take j).flatMap kChk++kn [uw d0,un msz.length]:=⟨_,rfl⟩
   rw [<-hB2] at H
   refine ⟨_,_,_,(H.b2.at0 rfl),?_⟩
   refine ⟨fun x2 q2 w=>∃(i:Nat) (a:Option Addr) (n3 c:Nat) (r:Option Nat),x2=(i:Int)/\i+q2=msz.length/\n3=n2+((msz.take i).flatMap kItm).length/\Sat F w (KS b3 22 a n3 c r (B2++(msz.take i).flatMap kItm) (.blk b4 147 [.int .u32 d0,.slice sa msz.length sc]::.blk b5 140 [.func (.func 81) #[] #[.pointer (some ⟨b3,0,none⟩)]]::.blk b1 63 (pkC p a7 a8 a9 a10 a13 a14 a15 a16 a18 a24 a25 c7 c8 c9 c10 c13 c14 c15 c16 c18 c24 c25)::ex)) (.deep [.row 2 (msz.flatMap Itm.dat)] [.slice sa msz.length sc]::R),⟨msz.length,0,a,n2,c,r,rfl,by omega,by rw [List.take_zero,List.flatMap_nil,List.length_nil];omega,by rw [List.take_zero,List.flatMap_nil,List.append_nil];exact H⟩,?_⟩
   clear H;rintro dd3 x2 q2 w ⟨i,a,n3,c,r,rfl,hiq,hn3,H⟩
   refine ⟨fun hc2=>?_,fun hc2=>?_⟩
   ·rw [decide_eq_true_eq] at hc2
    have hil:i < msz.length:=by omega
    have htk2:msz.take (i+1)=msz.take i++[msz[i]]:=by rw [List.take_add_one,List.getElem?_eq_getElem hil];rfl
    have hpre2:=pre_le kItm hil
    obtain ⟨p2,us2,eq2,hus2,hcell,H1⟩:=H.eltF Itm.dat_len (by decide) ms (j:=i) hil
    clear H
    generalize msz[i]=E at H1 htk2 hpre2
    obtain ⟨e0,e1⟩:=E
    refine ⟨p2,eq2,by omega,by omega,?_⟩
    obtain rfl:=H1.ones (us:=[.int .u8 e0,.string e1]) ms
    refine ⟨_,_,LdC [.int .u8 e0,.string e1] (by kernel_rfl) (by rw [show (i:Int).toNat*2=i*2 by omega];exact hcell),?_⟩
    have H:=H1.sub (List.Sublist.refl _) (fun r h=>mt h)
    clear H1 hcell
    refine sNew H ?_;clear H;intro b6 w _ H
    refine sSw0 H rfl (by kernel_rfl) (by rfl) (by rfl) ?_;clear H;intro w _ H
    replace H:=(H.u2).r4.u2
    refine ⟨_,_,_,(by exact Ce rfl H.b2 rfl),?_⟩
    refine ⟨_,(H.b3.at0 rfl),?_⟩
    refine ⟨rfl,?_⟩
    have hil2:(kItm (e0,e1)).length=16+e1.size:=by simp only [kItm,List.length_append,kn_len,kt_len,List.length_cons,List.length_nil];omega
    rw [hil2] at hpre2
    refine nK (k:=1) H [uw e0] rfl (by omega) (by decide) ?_
    clear H;intro a n4 c r w hn4 H
    refine ⟨_,(H.b3.at0 rfl),?_⟩
    refine call_j (c82 H e1 (by omega)) ?_
    clear H;rintro _ w ⟨rfl,a,n5,c,r,hn5,H⟩
    refine ⟨rfl,?_⟩
    replace hn4:n5=n3+(kItm (e0,e1)).length:=by omega
    clear hn5
    rw [List.append_assoc] at H
    refine ⟨q2 - 1,by omega,i+1,a,n5,c,r,by rw  [wi64_of (by omega) (by omega)];simp,by omega,?_,?_⟩
    ·rw [htk2,List.flatMap_append,List.length_append]
     simp only [fm1,fm2,fm3]
     omega
    ·rw [fl1 (f:=kItm) htk2 B2]
     exact ((H.r2).u4).sub sl2 (fun _ h=>h)
   rw [decide_eq_false_iff_not] at hc2
   obtain rfl:i=msz.length:=by omega
   rw [List.take_length] at H hn3
   refine ⟨q - 1,by omega,j+1,a,n3,c,r,by rw [wi64_of (by omega) (by omega)];simp,by omega,?_,?_⟩
   ·rw [htk,List.flatMap_append,List.length_append]
    simp only [fm1,fm2,fm3]
    rw [hpl];omega
   ·rw [fl1 (f:=kChk) htk B0]
    rw [hB2,List.append_assoc] at H
    exact H.ds (fun r h=>mt h)
  rw [decide_eq_false_iff_not] at hc
  obtain rfl:j=p.chunks.length:=by omega
  rw [List.take_length] at H hn
  exact ⟨a,n,c,r,by omega,by rw [hB0] at H;exact H⟩
 clear H;rintro ddj w ⟨a,n,c,r,hn,H⟩
 refine ⟨_,_,_,(by exact Ce rfl H.b2 rfl),?_⟩
 refine ⟨_,_,_,(H.b3.at0 rfl),?_⟩
 refine ⟨rfl,?_⟩
 refine nK (k:=1) H [un p.sources.length] rfl (by omega) (by decide) ?_
 clear H;intro a m1 c r w hm1 H
 replace hm1:m1=(kb2 p).length+8:=by omega
 clear hn n
 obtain ⟨n,rfl⟩:∃n,n=m1:=⟨_,rfl⟩
 have hn:=hm1
 clear hm1
 refine ⟨fun _ w=>∃(a:Option Addr) (n c:Nat) (r:Option Nat),n=(kb3 p).length/\Sat F w (KS b3 22 a n c r (kb3 p) (.blk b5 140 [.func (.func 81) #[] #[.pointer (some ⟨b3,0,none⟩)]]::.blk b1 63 (pkC p a7 a8 a9 a10 a13 a14 a15 a16 a18 a24 a25 c7 c8 c9 c10 c13 c14 c15 c16 c18 c24 c25)::ex)) R,?_,?_⟩
 ·skip
  obtain ⟨B0,hB0⟩:∃B0,B0=kb2 p++kn [un p.sources.length]:=⟨_,rfl⟩
  rw [<-hB0] at H
  replace hn:n=B0.length:=by rw [hB0];simp only [List.length_append,kn_len,kt_len,List.length_cons,List.length_nil];omega
  have hT:B0.length+(p.sources.flatMap kSrc).length=(kb3 p).length:=by rw [hB0,<-List.length_append];rfl
  have hTb:B0.length+(p.sources.flatMap kSrc).length<=66000400:=by omega
  clear hK l1 l2 l3 l4 l5 l6 l7 l8 z8 zt z13 z7 z9 z14 z15 z16 z18 z24 z25
  refine ⟨_,_,_,(H.b3.at0 rfl),?_⟩
  refine ⟨fun x q w=>∃(j:Nat) (a:Option Addr) (n c:Nat) (r:Option Nat),x=(j:Int)/\j+q=p.sources.length/\n=B0.length+((p.sources.take j).flatMap kSrc).length/\Sat F w (KS b3 22 a n c r (B0++(p.sources.take j).flatMap kSrc) (.blk b5 140 [.func (.func 81) #[] #[.pointer (some ⟨b3,0,none⟩)]]::.blk b1 63 (pkC p a7 a8 a9 a10 a13 a14 a15 a16 a18 a24 a25 c7 c8 c9 c10 c13 c14 c15 c16 c18 c24 c25)::ex)) R,⟨p.sources.length,0,a,n,c,r,rfl,by omega,by rw [List.take_zero,List.flatMap_nil,List.length_nil];omega,by rw [List.take_zero,List.flatMap_nil,List.append_nil];exact H⟩,?_⟩
  clear H;rintro dd x q w ⟨j,a,n,c,r,rfl,hjq,hn,H⟩
  refine ⟨fun hc=>?_,fun hc=>?_⟩
  ·rw [decide_eq_true_eq] at hc
   have hjl:j < p.sources.length:=by omega
   have htk:p.sources.take (j+1)=p.sources.take j++[p.sources[j]]:=by rw [List.take_add_one,List.getElem?_eq_getElem hjl];rfl
   have hpre:=pre_le kSrc hjl
   obtain ⟨bb,oo,hle,hcell⟩:=H.elt m10 (by omega)
   have hc1:=hcell j (.int .u32 p.sources[j]) (by rw [oi_get _ _ _ hjl];simp [List.getD,List.getElem?_eq_getElem hjl])
   refine ⟨_,hle,by omega,by omega,?_⟩
   refine ⟨_,(by rw [show (j:Int).toNat*1=j by omega,add_flat];exact hc1),?_⟩
   clear hcell hc1
   generalize p.sources[j]=d0 at htk hpre
   refine ⟨_,_,_,(by exact Ce rfl H.b2 rfl),?_⟩
   refine ⟨rfl,?_⟩
   rw [kSrc_len] at hpre
   refine nK (k:=1) H [uw d0] rfl (by omega) (by decide) ?_
   clear H;intro a2 n2 c2 r2 w hn2 H
   refine ⟨q - 1,by omega,j+1,a2,n2,c2,r2,by rw [wi64_of (by omega) (by omega)];simp,by omega,?_,?_⟩
   ·rw [htk,List.flatMap_append,List.length_append]
    simp only [fm1,fm2,fm3]
    rw [kSrc_len];omega
   ·rw [fl1 (f:=kSrc) htk B0]
    exact H.sub (by repeat (exact List.Sublist.refl _)) (fun _ h=>h)
  rw [decide_eq_false_iff_not] at hc
  obtain rfl:j=p.sources.length:=by omega
  rw [List.take_length] at H hn
  exact ⟨a,n,c,r,by omega,by rw [hB0] at H;exact H⟩
 clear H;rintro ddj w ⟨a,n,c,r,hn,H⟩
 refine ⟨_,(H.b3.at0 rfl),?_⟩
 refine call_j (c82 H p.text (by omega)) ?_
 clear H;rintro _ w ⟨rfl,a,m1,c,r,hm1,H⟩
 refine ⟨rfl,?_⟩
 replace hm1:m1=(kb3 p).length+8+p.text.size:=by omega
 clear hn n
 obtain ⟨n,rfl⟩:∃n,n=m1:=⟨_,rfl⟩
 have hn:=hm1
 clear hm1
 refine ⟨_,_,_,(by exact Ce rfl H.b2 rfl),?_⟩
 refine ⟨_,(H.b3.at0 rfl),?_⟩
 refine ⟨rfl,?_⟩
 refine nK (k:=1) H [uw p.sub] rfl (by omega) (by decide) ?_
 clear H;intro a m1 c r w hm1 H
 replace hm1:m1=(kb3 p).length+16+p.text.size:=by omega
 clear hn n
 obtain ⟨n,rfl⟩:∃n,n=m1:=⟨_,rfl⟩
 have hn:=hm1
 clear hm1
 refine ⟨_,_,_,(H.b3.at0 rfl),?_⟩
 refine ⟨_,_,sStr H m13 uSl uU8 uStr,?_⟩
 refine call_j (c82 H (strOfNums p.data) (by omega)) ?_
 clear H;rintro _ w ⟨rfl,a,m1,c,r,hm1,H⟩
 refine ⟨rfl,?_⟩
 replace hm1:m1=(kb3 p).length+24+p.text.size+p.data.length:=by omega
 clear hn n
 obtain ⟨n,rfl⟩:∃n,n=m1:=⟨_,rfl⟩
 have hn:=hm1
 clear hm1
 refine ⟨_,_,_,(by exact Ce rfl H.b2 rfl),?_⟩
 refine ⟨_,_,_,(H.b3.at0 rfl),?_⟩
 refine ⟨rfl,?_⟩
 refine nK (k:=1) H [un p.pairs.length] rfl (by omega) (by decide) ?_
 clear H;intro a m1 c r w hm1 H
 replace hm1:m1=(kb3 p).length+32+p.text.size+p.data.length:=by omega
 clear hn n
 obtain ⟨n,rfl⟩:∃n,n=m1:=⟨_,rfl⟩
 have hn:=hm1
 clear hm1
 refine ⟨fun _ w=>∃(a:Option Addr) (n c:Nat) (r:Option Nat),n=(kb4 p).length/\Sat F w (KS b3 22 a n c r (kb4 p) (.blk b5 140 [.func (.func 81) #[] #[.pointer (some ⟨b3,0,none⟩)]]::.blk b1 63 (pkC p a7 a8 a9 a10 a13 a14 a15 a16 a18 a24 a25 c7 c8 c9 c10 c13 c14 c15 c16 c18 c24 c25)::ex)) R,?_,?_⟩
 ·skip
  obtain ⟨B0,hB0⟩:∃B0,B0=kb3 p++kt p.text++kn [uw p.sub]++kt (strOfNums p.data)++kn [un p.pairs.length]:=⟨_,rfl⟩
  rw [<-hB0] at H
  replace hn:n=B0.length:=by rw [hB0];simp only [List.length_append,kn_len,kt_len,List.length_cons,List.length_nil,x13];omega
  have hT:B0.length+(p.pairs.flatMap kPar).length=(kb4 p).length:=by rw [hB0,<-List.length_append];rfl
  have hTb:B0.length+(p.pairs.flatMap kPar).length<=66000400:=by omega
  clear hK l1 l2 l3 l4 l5 l6 l7 l8 z8 zt z13 z7 z9 z10 z15 z16 z18 z24 z25
  refine ⟨_,_,_,(H.b3.at0 rfl),?_⟩
  refine ⟨fun x q w=>∃(j:Nat) (a:Option Addr) (n c:Nat) (r:Option Nat),x=(j:Int)/\j+q=p.pairs.length/\n=B0.length+((p.pairs.take j).flatMap kPar).length/\Sat F w (KS b3 22 a n c r (B0++(p.pairs.take j).flatMap kPar) (.blk b5 140 [.func (.func 81) #[] #[.pointer (some ⟨b3,0,none⟩)]]::.blk b1 63 (pkC p a7 a8 a9 a10 a13 a14 a15 a16 a18 a24 a25 c7 c8 c9 c10 c13 c14 c15 c16 c18 c24 c25)::ex)) R,⟨p.pairs.length,0,a,n,c,r,rfl,by omega,by rw [List.take_zero,List.flatMap_nil,List.length_nil];omega,by rw [List.take_zero,List.flatMap_nil,List.append_nil];exact H⟩,?_⟩
  clear H;rintro dd x q w ⟨j,a,n,c,r,rfl,hjq,hn,H⟩
  refine ⟨fun hc=>?_,fun hc=>?_⟩
  ·rw [decide_eq_true_eq] at hc
   have hjl:j < p.pairs.length:=by omega
   have htk:p.pairs.take (j+1)=p.pairs.take j++[p.pairs[j]]:=by rw [List.take_add_one,List.getElem?_eq_getElem hjl];rfl
   have hpre:=pre_le kPar hjl
   obtain ⟨pp,us,e,hus,hcell,H1⟩:=H.eltF Par.dat_lenK (by decide) m14 (j:=j) hjl
   clear H
   generalize p.pairs[j]=D at H1 htk hpre
   obtain ⟨d0,d1⟩:=D
   refine ⟨pp,e,by omega,by omega,?_⟩
   obtain rfl:=H1.ones (us:=[.int .u16 d0,.int .u16 d1]) ms
   refine ⟨_,_,LdC [.int .u16 d0,.int .u16 d1] (by kernel_rfl) (by rw [show (j:Int).toNat*2=j*2 by omega];exact hcell),?_⟩
   have H:=H1.sub (List.Sublist.refl _) (fun r h=>mt h)
   clear H1 hcell
   refine sNew H ?_;clear H;intro b4 w _ H
   refine sSw0 H rfl (by kernel_rfl) (by rfl) (by rfl) ?_;clear H;intro w _ H
   replace H:=H.u2
   refine ⟨_,_,_,(by exact Ce rfl H.b3 rfl),?_⟩
   refine ⟨_,(H.b2.at0 rfl),?_⟩
   refine ⟨_,(H.b2.at0 rfl),?_⟩
   rw [kPar_len] at hpre
   refine nK (k:=2) H [uw d0,uw d1] rfl (by omega) (by decide) ?_
   clear H;intro a2 n2 c2 r2 w hn2 H
   refine ⟨q - 1,by omega,j+1,a2,n2,c2,r2,by rw [wi64_of (by omega) (by omega)];simp,by omega,?_,?_⟩
   ·rw [htk,List.flatMap_append,List.length_append]
    simp only [fm1,fm2,fm3]
    rw [kPar_len];omega
   ·rw [fl1 (f:=kPar) htk B0]
    exact H.dr
  rw [decide_eq_false_iff_not] at hc
  obtain rfl:j=p.pairs.length:=by omega
  rw [List.take_length] at H hn
  exact ⟨a,n,c,r,by omega,by rw [hB0] at H;exact H⟩
 clear H;rintro ddj w ⟨a,n,c,r,hn,H⟩
 refine ⟨_,_,_,(by exact Ce rfl H.b2 rfl),?_⟩
 refine ⟨_,_,_,(H.b3.at0 rfl),?_⟩
 refine ⟨rfl,?_⟩
 refine nK (k:=1) H [un p.slices.length] rfl (by omega) (by decide) ?_
 clear H;intro a m1 c r w hm1 H
 replace hm1:m1=(kb4 p).length+8:=by omega
 clear hn n
 obtain ⟨n,rfl⟩:∃n,n=m1:=⟨_,rfl⟩
 have hn:=hm1
 clear hm1
 refine ⟨fun _ w=>∃(a:Option Addr) (n c:Nat) (r:Option Nat),n=(kb5 p).length/\Sat F w (KS b3 22 a n c r (kb5 p) (.blk b5 140 [.func (.func 81) #[] #[.pointer (some ⟨b3,0,none⟩)]]::.blk b1 63 (pkC p a7 a8 a9 a10 a13 a14 a15 a16 a18 a24 a25 c7 c8 c9 c10 c13 c14 c15 c16 c18 c24 c25)::ex)) R,?_,?_⟩
 ·skip
  obtain ⟨B0,hB0⟩:∃B0,B0=kb4 p++kn [un p.slices.length]:=⟨_,rfl⟩
  rw [<-hB0] at H
  replace hn:n=B0.length:=by rw [hB0];simp only [List.length_append,kn_len,kt_len,List.length_cons,List.length_nil];omega
  have hT:B0.length+(p.slices.flatMap kSli).length=(kb5 p).length:=by rw [hB0,<-List.length_append];rfl
  have hTb:B0.length+(p.slices.flatMap kSli).length<=66000400:=by omega
  clear hK l1 l2 l3 l4 l5 l6 l7 l8 z8 zt z13 z7 z9 z10 z14 z16 z18 z24 z25
  refine ⟨_,_,_,(H.b3.at0 rfl),?_⟩
  refine ⟨fun x q w=>∃(j:Nat) (a:Option Addr) (n c:Nat) (r:Option Nat),x=(j:Int)/\j+q=p.slices.length/\n=B0.length+((p.slices.take j).flatMap kSli).length/\Sat F w (KS b3 22 a n c r (B0++(p.slices.take j).flatMap kSli) (.blk b5 140 [.func (.func 81) #[] #[.pointer (some ⟨b3,0,none⟩)]]::.blk b1 63 (pkC p a7 a8 a9 a10 a13 a14 a15 a16 a18 a24 a25 c7 c8 c9 c10 c13 c14 c15 c16 c18 c24 c25)::ex)) R,⟨p.slices.length,0,a,n,c,r,rfl,by omega,by rw [List.take_zero,List.flatMap_nil,List.length_nil];omega,by rw [List.take_zero,List.flatMap_nil,List.append_nil];exact H⟩,?_⟩
  clear H;rintro dd x q w ⟨j,a,n,c,r,rfl,hjq,hn,H⟩
  refine ⟨fun hc=>?_,fun hc=>?_⟩
  ·rw [decide_eq_true_eq] at hc
   have hjl:j < p.slices.length:=by omega
   have htk:p.slices.take (j+1)=p.slices.take j++[p.slices[j]]:=by rw [List.take_add_one,List.getElem?_eq_getElem hjl];rfl
   have hpre:=pre_le kSli hjl
   obtain ⟨pp,us,e,hus,hcell,H1⟩:=H.eltF Sli.dat_lenK (by decide) m15 (j:=j) hjl
   clear H
   generalize p.slices[j]=D at H1 htk hpre
   obtain ⟨d0,d1,d2⟩:=D
   refine ⟨pp,e,by omega,by omega,?_⟩
   obtain rfl:=H1.ones (us:=[.int .u16 d0,.int .u16 d1,.int .u8 d2]) ms
   refine ⟨_,_,_,LdC [.int .u16 d0,.int .u16 d1,.int .u8 d2] (by kernel_rfl) (by rw [show (j:Int).toNat*3=j*3 by omega];exact hcell),?_⟩
   have H:=H1.sub (List.Sublist.refl _) (fun r h=>mt h)
   clear H1 hcell
   refine sNew H ?_;clear H;intro b4 w _ H
   refine sSw0 H rfl (by kernel_rfl) (by rfl) (by rfl) ?_;clear H;intro w _ H
   replace H:=H.u2
   refine ⟨_,_,_,(by exact Ce rfl H.b3 rfl),?_⟩
   refine ⟨_,(H.b2.at0 rfl),?_⟩
   refine ⟨_,(H.b2.at0 rfl),?_⟩
   refine ⟨_,(H.b2.at0 rfl),?_⟩
   rw [kSli_len] at hpre
   refine nK (k:=3) H [uw d0,uw d1,uw d2] rfl (by omega) (by decide) ?_
   clear H;intro a2 n2 c2 r2 w hn2 H
   refine ⟨q - 1,by omega,j+1,a2,n2,c2,r2,by rw [wi64_of (by omega) (by omega)];simp,by omega,?_,?_⟩
   ·rw [htk,List.flatMap_append,List.length_append]
    simp only [fm1,fm2,fm3]
    rw [kSli_len];omega
   ·rw [fl1 (f:=kSli) htk B0]
    exact H.dr
  rw [decide_eq_false_iff_not] at hc
  obtain rfl:j=p.slices.length:=by omega
  rw [List.take_length] at H hn
  exact ⟨a,n,c,r,by omega,by rw [hB0] at H;exact H⟩
 clear H;rintro ddj w ⟨a,n,c,r,hn,H⟩
 refine ⟨_,_,_,(by exact Ce rfl H.b2 rfl),?_⟩
 refine ⟨_,_,_,(H.b3.at0 rfl),?_⟩
 refine ⟨rfl,?_⟩
 refine nK (k:=1) H [un p.entries.length] rfl (by omega) (by decide) ?_
 clear H;intro a m1 c r w hm1 H
 replace hm1:m1=(kb5 p).length+8:=by omega
 clear hn n
 obtain ⟨n,rfl⟩:∃n,n=m1:=⟨_,rfl⟩
 have hn:=hm1
 clear hm1
 refine ⟨fun _ w=>∃(a:Option Addr) (n c:Nat) (r:Option Nat),n=(kb6 p).length/\Sat F w (KS b3 22 a n c r (kb6 p) (.blk b5 140 [.func (.func 81) #[] #[.pointer (some ⟨b3,0,none⟩)]]::.blk b1 63 (pkC p a7 a8 a9 a10 a13 a14 a15 a16 a18 a24 a25 c7 c8 c9 c10 c13 c14 c15 c16 c18 c24 c25)::ex)) R,?_,?_⟩
 ·skip
  obtain ⟨B0,hB0⟩:∃B0,B0=kb5 p++kn [un p.entries.length]:=⟨_,rfl⟩
  rw [<-hB0] at H
  replace hn:n=B0.length:=by rw [hB0];simp only [List.length_append,kn_len,kt_len,List.length_cons,List.length_nil];omega
  have hT:B0.length+(p.entries.flatMap kEnt).length=(kb6 p).length:=by rw [hB0,<-List.length_append];rfl
  have hTb:B0.length+(p.entries.flatMap kEnt).length<=66000400:=by omega
  clear hK l1 l2 l3 l4 l5 l6 l7 l8 z8 zt z13 z7 z9 z10 z14 z15 z18 z24 z25
  refine ⟨_,_,_,(H.b3.at0 rfl),?_⟩
  refine ⟨fun x q w=>∃(j:Nat) (a:Option Addr) (n c:Nat) (r:Option Nat),x=(j:Int)/\j+q=p.entries.length/\n=B0.length+((p.entries.take j).flatMap kEnt).length/\Sat F w (KS b3 22 a n c r (B0++(p.entries.take j).flatMap kEnt) (.blk b5 140 [.func (.func 81) #[] #[.pointer (some ⟨b3,0,none⟩)]]::.blk b1 63 (pkC p a7 a8 a9 a10 a13 a14 a15 a16 a18 a24 a25 c7 c8 c9 c10 c13 c14 c15 c16 c18 c24 c25)::ex)) R,⟨p.entries.length,0,a,n,c,r,rfl,by omega,by rw [List.take_zero,List.flatMap_nil,List.length_nil];omega,by rw [List.take_zero,List.flatMap_nil,List.append_nil];exact H⟩,?_⟩
  clear H;rintro dd x q w ⟨j,a,n,c,r,rfl,hjq,hn,H⟩
  refine ⟨fun hc=>?_,fun hc=>?_⟩
  ·rw [decide_eq_true_eq] at hc
   have hjl:j < p.entries.length:=by omega
   have htk:p.entries.take (j+1)=p.entries.take j++[p.entries[j]]:=by rw [List.take_add_one,List.getElem?_eq_getElem hjl];rfl
   have hpre:=pre_le kEnt hjl
   obtain ⟨pp,us,e,hus,hcell,H1⟩:=H.eltF Ent.dat_lenK (by decide) m16 (j:=j) hjl
   clear H
   generalize p.entries[j]=D at H1 htk hpre
   obtain ⟨d0,d1⟩:=D
   refine ⟨pp,e,by omega,by omega,?_⟩
   obtain rfl:=H1.ones (us:=[.int .u32 d0,.int .u8 d1]) ms
   refine ⟨_,_,LdC [.int .u32 d0,.int .u8 d1] (by kernel_rfl) (by rw [show (j:Int).toNat*2=j*2 by omega];exact hcell),?_⟩
   have H:=H1.sub (List.Sublist.refl _) (fun r h=>mt h)
   clear H1 hcell
   refine sNew H ?_;clear H;intro b4 w _ H
   refine sSw0 H rfl (by kernel_rfl) (by rfl) (by rfl) ?_;clear H;intro w _ H
   replace H:=H.u2
   refine ⟨_,_,_,(by exact Ce rfl H.b3 rfl),?_⟩
   refine ⟨_,(H.b2.at0 rfl),?_⟩
   refine ⟨_,(H.b2.at0 rfl),?_⟩
   rw [kEnt_len] at hpre
   refine nK (k:=2) H [uw d0,uw d1] rfl (by omega) (by decide) ?_
   clear H;intro a2 n2 c2 r2 w hn2 H
   refine ⟨q - 1,by omega,j+1,a2,n2,c2,r2,by rw [wi64_of (by omega) (by omega)];simp,by omega,?_,?_⟩
   ·rw [htk,List.flatMap_append,List.length_append]
    simp only [fm1,fm2,fm3]
    rw [kEnt_len];omega
   ·rw [fl1 (f:=kEnt) htk B0]
    exact H.dr
  rw [decide_eq_false_iff_not] at hc
  obtain rfl:j=p.entries.length:=by omega
  rw [List.take_length] at H hn
  exact ⟨a,n,c,r,by omega,by rw [hB0] at H;exact H⟩
 clear H;rintro ddj w ⟨a,n,c,r,hn,H⟩
 refine ⟨_,_,_,(by exact Ce rfl H.b2 rfl),?_⟩
 refine ⟨_,(H.b3.at0 rfl),?_⟩
 refine ⟨_,_,_,(H.b3.at0 rfl),?_⟩
 refine nK (k:=2) H [uw p.bits,un p.blocks.length] rfl (by omega) (by decide) ?_
 clear H;intro a m1 c r w hm1 H
 replace hm1:m1=(kb6 p).length+16:=by omega
 clear hn n
 obtain ⟨n,rfl⟩:∃n,n=m1:=⟨_,rfl⟩
 have hn:=hm1
 clear hm1
 refine ⟨fun _ w=>∃(a:Option Addr) (n c:Nat) (r:Option Nat),n=(kb7 p).length/\Sat F w (KS b3 22 a n c r (kb7 p) (.blk b5 140 [.func (.func 81) #[] #[.pointer (some ⟨b3,0,none⟩)]]::.blk b1 63 (pkC p a7 a8 a9 a10 a13 a14 a15 a16 a18 a24 a25 c7 c8 c9 c10 c13 c14 c15 c16 c18 c24 c25)::ex)) R,?_,?_⟩
 ·skip
  obtain ⟨B0,hB0⟩:∃B0,B0=kb6 p++kn [uw p.bits,un p.blocks.length]:=⟨_,rfl⟩
  rw [<-hB0] at H
  replace hn:n=B0.length:=by rw [hB0];simp only [List.length_append,kn_len,kt_len,List.length_cons,List.length_nil];omega
  have hT:B0.length+(p.blocks.flatMap kBlo).length=(kb7 p).length:=by rw [hB0,<-List.length_append];rfl
  have hTb:B0.length+(p.blocks.flatMap kBlo).length<=66000400:=by omega
  clear hK l1 l2 l3 l4 l5 l6 l7 l8 z8 zt z13 z7 z9 z10 z14 z15 z16 z24 z25
  refine ⟨_,_,_,(H.b3.at0 rfl),?_⟩
  refine ⟨fun x q w=>∃(j:Nat) (a:Option Addr) (n c:Nat) (r:Option Nat),x=(j:Int)/\j+q=p.blocks.length/\n=B0.length+((p.blocks.take j).flatMap kBlo).length/\Sat F w (KS b3 22 a n c r (B0++(p.blocks.take j).flatMap kBlo) (.blk b5 140 [.func (.func 81) #[] #[.pointer (some ⟨b3,0,none⟩)]]::.blk b1 63 (pkC p a7 a8 a9 a10 a13 a14 a15 a16 a18 a24 a25 c7 c8 c9 c10 c13 c14 c15 c16 c18 c24 c25)::ex)) R,⟨p.blocks.length,0,a,n,c,r,rfl,by omega,by rw [List.take_zero,List.flatMap_nil,List.length_nil];omega,by rw [List.take_zero,List.flatMap_nil,List.append_nil];exact H⟩,?_⟩
  clear H;rintro dd x q w ⟨j,a,n,c,r,rfl,hjq,hn,H⟩
  refine ⟨fun hc=>?_,fun hc=>?_⟩
  ·rw [decide_eq_true_eq] at hc
   have hjl:j < p.blocks.length:=by omega
   have htk:p.blocks.take (j+1)=p.blocks.take j++[p.blocks[j]]:=by rw [List.take_add_one,List.getElem?_eq_getElem hjl];rfl
   have hpre:=pre_le kBlo hjl
   have hDm:=hbm p.blocks[j] (List.getElem_mem hjl)
   obtain ⟨pp,us,e,hus,hcell,H1⟩:=H.eltF Blo.dat_len' (by decide) m18 (j:=j) hjl
   clear H
   generalize p.blocks[j]=D at H1 htk hpre hDm
   obtain ⟨d0,d1,msz⟩:=D
   replace hDm:msz.length<=1100000:=hDm
   refine ⟨pp,e,by omega,by omega,?_⟩
   obtain ⟨x0,us0,rfl,H2⟩:=H1.uncons ms
   obtain ⟨x1,us1,rfl,H3⟩:=H2.uncons (mt ms)
   obtain ⟨x2,us2,rfl,H4⟩:=H3.uncons (mt ms)
   obtain rfl:us2=[]:=by simpa using hus
   obtain rfl:=H2.one1 ms
   obtain rfl:=H3.one1 ms
   obtain ⟨sa,sn,sc,rfl,hsl2⟩:=H4.rowS ms
   rw [flat_len Met.dat_len'] at hsl2
   obtain rfl:sn=msz.length:=by omega
   refine ⟨_,_,_,_,_,LdC [.int .u32 d0,.int .u16 d1,.slice sa msz.length sc] (by kernel_rfl) (by rw [show (j:Int).toNat*3=j*3 by omega];exact hcell),?_⟩
   have H:Sat F w _ (.deep [.row 3 (msz.flatMap Met.dat)] [.slice sa msz.length sc]::R):=H4.sub (List.Sublist.refl _) (fun r h=>by
    rcases List.mem_cons.1 h with rfl | h
    ·exact ms
    ·simp [h])
   clear hcell H1 H2 H3 H4
   refine sNew H ?_;clear H;intro b4 w _ H
   refine sSw0 H rfl (by kernel_rfl) (by rfl) (by rfl) ?_;clear H;intro w _ H
   replace H:=H.u2
   have hpl:(kBlo (d0,d1,msz)).length=24+(msz.flatMap kMet).length:=by simp only [kBlo,List.length_append,kn_len,List.length_cons,List.length_nil]
   rw [hpl] at hpre
   refine ⟨_,_,_,(by exact Ce rfl H.b3 rfl),?_⟩
   refine ⟨_,(H.b2.at0 rfl),?_⟩
   refine ⟨_,(H.b2.at0 rfl),?_⟩
   refine ⟨_,_,_,(H.b2.at0 rfl),?_⟩
   refine nK (k:=3) H [uw d0,uw d1,un msz.length] rfl (by omega) (by decide) ?_
   clear H;intro a n2 c r w hn2 H
   obtain ⟨B2,hB2⟩:∃B2,B2=B0++(p.blocks.take j).flatMap kBlo++kn [uw d0,uw d1,un msz.length]:=⟨_,rfl⟩
   rw [<-hB2] at H
   refine ⟨_,_,_,(H.b2.at0 rfl),?_⟩
   refine ⟨fun x2 q2 w=>∃(i:Nat) (a:Option Addr) (n3 c:Nat) (r:Option Nat),x2=(i:Int)/\i+q2=msz.length/\n3=n2+((msz.take i).flatMap kMet).length/\Sat F w (KS b3 22 a n3 c r (B2++(msz.take i).flatMap kMet) (.blk b4 158 [.int .u32 d0,.int .u16 d1,.slice sa msz.length sc]::.blk b5 140 [.func (.func 81) #[] #[.pointer (some ⟨b3,0,none⟩)]]::.blk b1 63 (pkC p a7 a8 a9 a10 a13 a14 a15 a16 a18 a24 a25 c7 c8 c9 c10 c13 c14 c15 c16 c18 c24 c25)::ex)) (.deep [.row 3 (msz.flatMap Met.dat)] [.slice sa msz.length sc]::R),⟨msz.length,0,a,n2,c,r,rfl,by omega,by rw [List.take_zero,List.flatMap_nil,List.length_nil];omega,by rw [List.take_zero,List.flatMap_nil,List.append_nil];exact H⟩,?_⟩
   clear H;rintro dd3 x2 q2 w ⟨i,a,n3,c,r,rfl,hiq,hn3,H⟩
   refine ⟨fun hc2=>?_,fun hc2=>?_⟩
   ·rw [decide_eq_true_eq] at hc2
    have hil:i < msz.length:=by omega
    have htk2:msz.take (i+1)=msz.take i++[msz[i]]:=by rw [List.take_add_one,List.getElem?_eq_getElem hil];rfl
    have hpre2:=pre_le kMet hil
    obtain ⟨p2,us2,eq2,hus2,hcell,H1⟩:=H.eltF Met.dat_len' (by decide) ms (j:=i) hil
    clear H
    generalize msz[i]=E at H1 htk2 hpre2
    obtain ⟨e0,e1,e2⟩:=E
    refine ⟨p2,eq2,by omega,by omega,?_⟩
    obtain rfl:=H1.ones (us:=[.bool e0,.int .u8 e1,.int .u16 e2]) ms
    refine ⟨_,_,_,LdC [.bool e0,.int .u8 e1,.int .u16 e2] (by kernel_rfl) (by rw [show (i:Int).toNat*3=i*3 by omega];exact hcell),?_⟩
    have H:=H1.sub (List.Sublist.refl _) (fun r h=>mt h)
    clear H1 hcell
    refine sNew H ?_;clear H;intro b6 w _ H
    refine sSw0 H rfl (by kernel_rfl) (by rfl) (by rfl) ?_;clear H;intro w _ H
    replace H:=H.u2
    refine ⟨none,?_⟩
    replace H:=H.drew;generalize w.drew=w at H ⊢
    have K:=grew_refl w none
    refine ⟨nn0,H.b4.row,_,_,_,(by exact Ce rfl H.b4 rfl),?_⟩
    refine ⟨nn0,H.b2.row,_,(H.b2.at0 rfl),?_⟩
    refine ⟨nn0,H.b2.row,_,(H.b2.at0 rfl),?_⟩
    refine ⟨nn0,H.b2.row,_,(H.b2.at0 rfl),?_⟩
    refine call_j c83 ?_
    rintro _ w2 ⟨rfl,rfl⟩
    refine ⟨_,rfl,K,?_⟩
    rw [kMet_len] at hpre2
    refine nKg (k:=3) H K [ub e0,uw e1,uw e2] rfl (by omega) (by decide) ?_
    clear H;intro a n4 c r w hn4 H
    refine ⟨q2 - 1,by omega,i+1,a,n4,c,r,by rw  [wi64_of (by omega) (by omega)];simp,by omega,?_,?_⟩
    ·rw [htk2,List.flatMap_append,List.length_append]
     simp only [fm1,fm2,fm3]
     rw [kMet_len];omega
    ·rw [fl1 (f:=kMet) htk2 B2]
     exact H.dr
   rw [decide_eq_false_iff_not] at hc2
   obtain rfl:i=msz.length:=by omega
   rw [List.take_length] at H hn3
   refine ⟨q - 1,by omega,j+1,a,n3,c,r,by rw [wi64_of (by omega) (by omega)];simp,by omega,?_,?_⟩
   ·rw [htk,List.flatMap_append,List.length_append]
    simp only [fm1,fm2,fm3]
    rw [hpl];omega
   ·rw [fl1 (f:=kBlo) htk B0]
    rw [hB2,List.append_assoc] at H
    exact H.ds (fun r h=>mt h)
  rw [decide_eq_false_iff_not] at hc
  obtain rfl:j=p.blocks.length:=by omega
  rw [List.take_length] at H hn
  exact ⟨a,n,c,r,by omega,by rw [hB0] at H;exact H⟩
 clear H;rintro ddj w ⟨a,n,c,r,hn,H⟩
 refine ⟨_,_,_,(by exact Ce rfl H.b2 rfl),?_⟩
 refine ⟨_,(H.b3.at0 rfl),?_⟩
 refine ⟨_,(H.b3.at0 rfl),?_⟩
 refine ⟨_,(H.b3.at0 rfl),?_⟩
 refine ⟨_,(H.b3.at0 rfl),?_⟩
 refine ⟨_,(H.b3.at0 rfl),?_⟩
 refine ⟨_,_,_,(H.b3.at0 rfl),?_⟩
 refine nK (k:=6) H [uw p.time,uw p.base,uw p.count,uw p.ref,uw p.fb,un p.statuses.length] rfl (by omega) (by decide) ?_
 clear H;intro a m1 c r w hm1 H
 replace hm1:m1=(kb7 p).length+48:=by omega
 clear hn n
 obtain ⟨n,rfl⟩:∃n,n=m1:=⟨_,rfl⟩
 have hn:=hm1
 clear hm1
 refine ⟨fun _ w=>∃(a:Option Addr) (n c:Nat) (r:Option Nat),n=(kb8 p).length/\Sat F w (KS b3 22 a n c r (kb8 p) (.blk b5 140 [.func (.func 81) #[] #[.pointer (some ⟨b3,0,none⟩)]]::.blk b1 63 (pkC p a7 a8 a9 a10 a13 a14 a15 a16 a18 a24 a25 c7 c8 c9 c10 c13 c14 c15 c16 c18 c24 c25)::ex)) R,?_,?_⟩
 ·skip
  obtain ⟨B0,hB0⟩:∃B0,B0=kb7 p++kn [uw p.time,uw p.base,uw p.count,uw p.ref,uw p.fb,un p.statuses.length]:=⟨_,rfl⟩
  rw [<-hB0] at H
  replace hn:n=B0.length:=by rw [hB0];simp only [List.length_append,kn_len,kt_len,List.length_cons,List.length_nil];omega
  have hT:B0.length+(p.statuses.flatMap kSta).length=(kb8 p).length:=by rw [hB0,<-List.length_append];rfl
  have hTb:B0.length+(p.statuses.flatMap kSta).length<=66000400:=by omega
  clear hK l1 l2 l3 l4 l5 l6 l7 l8 z8 zt z13 z7 z9 z10 z14 z15 z16 z18 z25
  refine ⟨_,_,_,(H.b3.at0 rfl),?_⟩
  refine ⟨fun x q w=>∃(j:Nat) (a:Option Addr) (n c:Nat) (r:Option Nat),x=(j:Int)/\j+q=p.statuses.length/\n=B0.length+((p.statuses.take j).flatMap kSta).length/\Sat F w (KS b3 22 a n c r (B0++(p.statuses.take j).flatMap kSta) (.blk b5 140 [.func (.func 81) #[] #[.pointer (some ⟨b3,0,none⟩)]]::.blk b1 63 (pkC p a7 a8 a9 a10 a13 a14 a15 a16 a18 a24 a25 c7 c8 c9 c10 c13 c14 c15 c16 c18 c24 c25)::ex)) R,⟨p.statuses.length,0,a,n,c,r,rfl,by omega,by rw [List.take_zero,List.flatMap_nil,List.length_nil];omega,by rw [List.take_zero,List.flatMap_nil,List.append_nil];exact H⟩,?_⟩
  clear H;rintro dd x q w ⟨j,a,n,c,r,rfl,hjq,hn,H⟩
  refine ⟨fun hc=>?_,fun hc=>?_⟩
  ·rw [decide_eq_true_eq] at hc
   have hjl:j < p.statuses.length:=by omega
   have htk:p.statuses.take (j+1)=p.statuses.take j++[p.statuses[j]]:=by rw [List.take_add_one,List.getElem?_eq_getElem hjl];rfl
   have hpre:=pre_le kSta hjl
   have hDm:=hsm p.statuses[j] (List.getElem_mem hjl)
   obtain ⟨pp,us,e,hus,hcell,H1⟩:=H.eltF Sta.dat_lenK (by decide) m24 (j:=j) hjl
   clear H
   generalize p.statuses[j]=D at H1 htk hpre hDm
   obtain ⟨V,d0,d1,d2,msz⟩:=D
   replace hDm:msz.length<=1100000:=hDm
   refine ⟨pp,e,by omega,by omega,?_⟩
   obtain ⟨sa,sc,rfl,H2⟩:=H1.sta5 ms
   refine ⟨_,_,_,_,_,_,_,LdC [.bool V,.int .u16 d0,.int .u16 d1,.int .u16 d2,.slice sa msz.length sc] (by kernel_rfl) (by rw [show (j:Int).toNat*5=j*5 by omega];exact hcell),?_⟩
   have H:Sat F w _ (.deep [.row 1 (oi .u16 msz)] [.slice sa msz.length sc]::R):=H2.sub (List.Sublist.refl _) (fun r h=>by
    rcases List.mem_cons.1 h with rfl | h
    ·exact ms
    ·simp [h])
   clear H1 H2 hcell
   refine sNew H ?_;clear H;intro b4 w _ H
   refine sSw0 H rfl (by kernel_rfl) (by rfl) (by rfl) ?_;clear H;intro w _ H
   replace H:=H.u2
   have hpl:(kSta (V,d0,d1,d2,msz)).length=40+(msz.flatMap kSrc).length:=by simp only [kSta,List.length_append,kn_len,List.length_cons,List.length_nil]
   rw [hpl] at hpre
   refine ⟨none,?_⟩
   replace H:=H.drew;generalize w.drew=w at H ⊢
   have K:=grew_refl w none
   refine ⟨nn0,H.b3.row,_,_,_,(by exact Ce rfl H.b3 rfl),?_⟩
   refine ⟨nn0,H.b2.row,_,(H.b2.at0 rfl),?_⟩
   refine ⟨nn0,H.b2.row,_,(H.b2.at0 rfl),?_⟩
   refine ⟨nn0,H.b2.row,_,(H.b2.at0 rfl),?_⟩
   refine ⟨nn0,H.b2.row,_,(H.b2.at0 rfl),?_⟩
   refine ⟨nn0,H.b2.row,_,_,_,(H.b2.at0 rfl),?_⟩
   refine call_j c83 ?_
   rintro _ w2 ⟨rfl,rfl⟩
   refine ⟨_,rfl,K,?_⟩
   refine nKg (k:=5) H K [ub V,uw d0,uw d1,uw d2,un msz.length] rfl (by omega) (by decide) ?_
   clear H;intro a n2 c r w hn2 H
   obtain ⟨B2,hB2⟩:∃B2,B2=B0++(p.statuses.take j).flatMap kSta++kn [ub V,uw d0,uw d1,uw d2,un msz.length]:=⟨_,rfl⟩
   rw [<-hB2] at H
   refine ⟨_,_,_,(H.b2.at0 rfl),?_⟩
   refine ⟨fun x2 q2 w=>∃(i:Nat) (a:Option Addr) (n3 c:Nat) (r:Option Nat),x2=(i:Int)/\i+q2=msz.length/\n3=n2+((msz.take i).flatMap kSrc).length/\Sat F w (KS b3 22 a n3 c r (B2++(msz.take i).flatMap kSrc) (.blk b4 163 [.bool V,.int .u16 d0,.int .u16 d1,.int .u16 d2,.slice sa msz.length sc]::.blk b5 140 [.func (.func 81) #[] #[.pointer (some ⟨b3,0,none⟩)]]::.blk b1 63 (pkC p a7 a8 a9 a10 a13 a14 a15 a16 a18 a24 a25 c7 c8 c9 c10 c13 c14 c15 c16 c18 c24 c25)::ex)) (.deep [.row 1 (oi .u16 msz)] [.slice sa msz.length sc]::R),⟨msz.length,0,a,n2,c,r,rfl,by omega,by rw [List.take_zero,List.flatMap_nil,List.length_nil];omega,by rw [List.take_zero,List.flatMap_nil,List.append_nil];exact H⟩,?_⟩
   clear H;rintro dd3 x2 q2 w ⟨i,a,n3,c,r,rfl,hiq,hn3,H⟩
   refine ⟨fun hc2=>?_,fun hc2=>?_⟩
   ·rw [decide_eq_true_eq] at hc2
    have hil:i < msz.length:=by omega
    have htk2:msz.take (i+1)=msz.take i++[msz[i]]:=by rw [List.take_add_one,List.getElem?_eq_getElem hil];rfl
    have hpre2:=pre_le kSrc hil
    obtain ⟨bb,oo,hle,hcell⟩:=H.elt ms (by omega)
    have hc1:=hcell i (.int .u16 msz[i]) (by rw [oi_get _ _ _ hil];simp [List.getD,List.getElem?_eq_getElem hil])
    refine ⟨_,hle,by omega,by omega,?_⟩
    refine ⟨_,(by rw [show (i:Int).toNat*1=i by omega,add_flat];exact hc1),?_⟩
    clear hcell hc1
    generalize msz[i]=e0 at htk2 hpre2
    refine ⟨_,_,_,(by exact Ce rfl H.b3 rfl),?_⟩
    refine ⟨rfl,?_⟩
    rw [kSrc_len] at hpre2
    refine nK (k:=1) H [uw e0] rfl (by omega) (by decide) ?_
    clear H;intro a n4 c r w hn4 H
    refine ⟨q2 - 1,by omega,i+1,a,n4,c,r,by rw  [wi64_of (by omega) (by omega)];simp,by omega,?_,?_⟩
    ·rw [htk2,List.flatMap_append,List.length_append]
     simp only [fm1,fm2,fm3]
     rw [kSrc_len];omega
    ·rw [fl1 (f:=kSrc) htk2 B2]
     exact H.sub (by repeat (exact List.Sublist.refl _)) (fun _ h=>h)
   rw [decide_eq_false_iff_not] at hc2
   obtain rfl:i=msz.length:=by omega
   rw [List.take_length] at H hn3
   refine ⟨q - 1,by omega,j+1,a,n3,c,r,by rw [wi64_of (by omega) (by omega)];simp,by omega,?_,?_⟩
   ·rw [htk,List.flatMap_append,List.length_append]
    simp only [fm1,fm2,fm3]
    rw [hpl];omega
   ·rw [fl1 (f:=kSta) htk B0]
    rw [hB2,List.append_assoc] at H
    exact H.ds (fun r h=>mt h)
  rw [decide_eq_false_iff_not] at hc
  obtain rfl:j=p.statuses.length:=by omega
  rw [List.take_length] at H hn
  exact ⟨a,n,c,r,by omega,by rw [hB0] at H;exact H⟩
 clear H;rintro ddj w ⟨a,n,c,r,hn,H⟩
 refine ⟨_,_,_,(by exact Ce rfl H.b2 rfl),?_⟩
 refine ⟨_,_,_,(H.b3.at0 rfl),?_⟩
 refine ⟨rfl,?_⟩
 refine nK (k:=1) H [un p.deltas.length] rfl (by omega) (by decide) ?_
 clear H;intro a m1 c r w hm1 H
 replace hm1:m1=(kb8 p).length+8:=by omega
 clear hn n
 obtain ⟨n,rfl⟩:∃n,n=m1:=⟨_,rfl⟩
 have hn:=hm1
 clear hm1
 refine ⟨fun _ w=>∃(a:Option Addr) (n c:Nat) (r:Option Nat),n=(keyB p).length/\Sat F w (KS b3 22 a n c r (keyB p) (.blk b5 140 [.func (.func 81) #[] #[.pointer (some ⟨b3,0,none⟩)]]::.blk b1 63 (pkC p a7 a8 a9 a10 a13 a14 a15 a16 a18 a24 a25 c7 c8 c9 c10 c13 c14 c15 c16 c18 c24 c25)::ex)) R,?_,?_⟩
 ·skip
  obtain ⟨B0,hB0⟩:∃B0,B0=kb8 p++kn [un p.deltas.length]:=⟨_,rfl⟩
  rw [<-hB0] at H
  replace hn:n=B0.length:=by rw [hB0];simp only [List.length_append,kn_len,kt_len,List.length_cons,List.length_nil];omega
  have hT:B0.length+(p.deltas.flatMap kDel).length=(keyB p).length:=by rw [hB0,<-List.length_append];rfl
  have hTb:B0.length+(p.deltas.flatMap kDel).length<=66000400:=by omega
  clear hK l1 l2 l3 l4 l5 l6 l7 l8 z8 zt z13 z7 z9 z10 z14 z15 z16 z18 z24
  refine ⟨_,_,_,(H.b3.at0 rfl),?_⟩
  refine ⟨fun x q w=>∃(j:Nat) (a:Option Addr) (n c:Nat) (r:Option Nat),x=(j:Int)/\j+q=p.deltas.length/\n=B0.length+((p.deltas.take j).flatMap kDel).length/\Sat F w (KS b3 22 a n c r (B0++(p.deltas.take j).flatMap kDel) (.blk b5 140 [.func (.func 81) #[] #[.pointer (some ⟨b3,0,none⟩)]]::.blk b1 63 (pkC p a7 a8 a9 a10 a13 a14 a15 a16 a18 a24 a25 c7 c8 c9 c10 c13 c14 c15 c16 c18 c24 c25)::ex)) R,⟨p.deltas.length,0,a,n,c,r,rfl,by omega,by rw [List.take_zero,List.flatMap_nil,List.length_nil];omega,by rw [List.take_zero,List.flatMap_nil,List.append_nil];exact H⟩,?_⟩
  clear H;rintro dd x q w ⟨j,a,n,c,r,rfl,hjq,hn,H⟩
  refine ⟨fun hc=>?_,fun hc=>?_⟩
  ·rw [decide_eq_true_eq] at hc
   have hjl:j < p.deltas.length:=by omega
   have htk:p.deltas.take (j+1)=p.deltas.take j++[p.deltas[j]]:=by rw [List.take_add_one,List.getElem?_eq_getElem hjl];rfl
   have hpre:=pre_le kDel hjl
   obtain ⟨pp,us,e,hus,hcell,H1⟩:=H.eltF Del.dat_lenK (by decide) m25 (j:=j) hjl
   clear H
   generalize p.deltas[j]=D at H1 htk hpre
   obtain ⟨d0,d1⟩:=D
   refine ⟨pp,e,by omega,by omega,?_⟩
   obtain rfl:=H1.ones (us:=[.int .u16 d0,.int .i64 d1]) ms
   refine ⟨_,_,LdC [.int .u16 d0,.int .i64 d1] (by kernel_rfl) (by rw [show (j:Int).toNat*2=j*2 by omega];exact hcell),?_⟩
   have H:=H1.sub (List.Sublist.refl _) (fun r h=>mt h)
   clear H1 hcell
   refine sNew H ?_;clear H;intro b4 w _ H
   refine sSw0 H rfl (by kernel_rfl) (by rfl) (by rfl) ?_;clear H;intro w _ H
   replace H:=H.u2
   refine ⟨_,_,_,(by exact Ce rfl H.b3 rfl),?_⟩
   refine ⟨_,(H.b2.at0 rfl),?_⟩
   refine ⟨_,(H.b2.at0 rfl),?_⟩
   rw [kDel_len] at hpre
   refine nK (k:=2) H [uw d0,uw d1] rfl (by omega) (by decide) ?_
   clear H;intro a2 n2 c2 r2 w hn2 H
   refine ⟨q - 1,by omega,j+1,a2,n2,c2,r2,by rw [wi64_of (by omega) (by omega)];simp,by omega,?_,?_⟩
   ·rw [htk,List.flatMap_append,List.length_append]
    simp only [fm1,fm2,fm3]
    rw [kDel_len];omega
   ·rw [fl1 (f:=kDel) htk B0]
    exact H.dr
  rw [decide_eq_false_iff_not] at hc
  obtain rfl:j=p.deltas.length:=by omega
  rw [List.take_length] at H hn
  exact ⟨a,n,c,r,by omega,by rw [hB0] at H;exact H⟩
 clear H;rintro ddj w ⟨a,n,c,r,hn,H⟩
 obtain ⟨B,hBe⟩:∃B,B=keyB p:=⟨_,rfl⟩
 rw [<-hBe] at H hn
 subst hn
 refine ⟨_,_,_,(by exact Ce rfl H.b1 rfl),?_⟩
 have H2:=H.freeze
 clear H
 refine ⟨_,_,sStr (xs:=B) (a:=a) (n:=B.length) (c:=c) H2 ms uSl uU8 uStr,?_⟩
 refine ⟨by rw [hBe],H2.sub sl1 (fun r h=>mt (hr r h))⟩
theorem row_of {w:World} {a:Addr} {v:Value} (h:w.cell? (a.add 0)=some v):∃c ty f,w.heap[a.block]?=some (.cells c ty f):=by
 have hb:(a.add 0).block=a.block:=by unfold Addr.add;split<;>rfl
 unfold World.cell? at h
 split at h
 ·rename_i cc e f hq;exact ⟨cc,e,f,by rw [<-hb];exact hq⟩
 ·cases h
theorem c14 {F:Fr} {w:World} {ex:List Ex} {ro:List Ro} {L:List Pk} {a b:Option Addr} {ac bc:Nat} (H:Sat F w ex ro) (ha:Ro.deep [.row 30 (L.flatMap Pk.dat)] [.slice a L.length ac]∈ro) (hb:Ro.deep [.row 30 (L.flatMap Pk.dat)] [.slice b L.length bc]∈ro) (hn:L.length<=2000000) (hs:∀p∈L,p.size<=1100000) :
  Calls pg 14 #[.slice a L.length ac,.slice b L.length bc] w fun en w'=>en=.returned (.bool true)/\Sat F w' ex ro:=by
 apply of14
 refine ⟨fun h=>by simp at h,fun _=>?_⟩
 refine ⟨fun x m w=>∃j:Nat,x=(j:Int)/\j+m=L.length/\Sat F w ex ro,⟨L.length,0,rfl,by omega,H⟩,?_⟩
 clear H;rintro dd2 x m w ⟨j,rfl,hjm,H⟩
 refine ⟨fun hc=>?_,fun _=>⟨rfl,H⟩⟩
 rw [decide_eq_true_eq] at hc
 have hjl:j < L.length:=by omega
 have hsj:=hs L[j] (List.getElem_mem hjl)
 replace H:=H.drew
 refine ⟨none,?_⟩
 generalize w.drew=w at H ⊢
 obtain ⟨p1,us1,e1,hus1,hc1,H1⟩:=H.eltF Pk.dat_lenN (by decide) ha (j:=j) hjl
 clear H
 obtain ⟨p2,us2,e2,hus2,hc2,H2⟩:=H1.eltF Pk.dat_lenN (by decide) (mt hb) (j:=j) hjl
 clear H1
 generalize L[j]=D at H2 hsj
 obtain ⟨a7,a8,a9,a10,a13,a14,a15,a16,a18,a24,a25,c7,c8,c9,c10,c13,c14,c15,c16,c18,c24,c25,R,rfl,hr,H,_⟩:=H2.pkF (mt ms)
 clear H2
 obtain ⟨e7,e8,e9,e10,e13,e14,e15,e16,e18,e24,e25,f7,f8,f9,f10,f13,f14,f15,f16,f18,f24,f25,R2,rfl,hr2,H,_⟩:=H.pkF (hr _ ms)
 have hi:(j:Int).toNat*30=j*30:=by omega
 refine ⟨p1,e1,by omega,by omega,nn0,by rw [hi];exact row_of (hc1 0 _ rfl),?_⟩
 refine ⟨_,LdC (pkC D a7 a8 a9 a10 a13 a14 a15 a16 a18 a24 a25 c7 c8 c9 c10 c13 c14 c15 c16 c18 c24 c25) (by kernel_rfl) (by rw [hi];exact hc1),?_⟩
 refine ⟨p2,e2,by omega,by omega,nn0,by rw [hi];exact row_of (hc2 0 _ rfl),?_⟩
 refine ⟨_,LdC (pkC D e7 e8 e9 e10 e13 e14 e15 e16 e18 e24 e25 f7 f8 f9 f10 f13 f14 f15 f16 f18 f24 f25) (by kernel_rfl) (by rw [hi];exact hc2),?_⟩
 clear hc1 hc2
 obtain ⟨ex2,S,back⟩:=H.still
 refine call_j (c40 S (hr2 _ (hr _ (mt ms))) hsj) ?_
 clear S;rintro _ w1 ⟨rfl,S⟩
 refine ⟨_,rfl,(back _ _ S).1,?_⟩
 refine call_j (c40 S (hr2 _ (hr _ ms)) hsj) ?_
 clear S;rintro _ w2 ⟨rfl,S⟩
 refine ⟨_,rfl,(back _ _ S).1,?_⟩
 refine ⟨fun h=>by simp at h,fun _=>?_⟩
 exact ⟨m - 1,by omega,j+1,by rw [wi64_of (by omega) (by omega)];simp,by omega,((back _ _ S).2).sub (by repeat (exact List.Sublist.refl _)) (fun r h=>hr2 r (hr r (mt (mt h))))⟩
theorem c4 {w:World} {ro:List Ro} {L:List Pk} {l:Option Addr} {c:Nat} (H:Sat ⟨w,fun _=>False⟩ w [] ro) (hl:Ro.deep [.row 30 (L.flatMap Pk.dat)] [.slice l L.length c]∈ro) (hL:L.length<=1000000) (hs:∀p∈L,p.size<=1100000) (hF:∀p∈L,0<=p.kind->p.kind<=13->FoOk p) (hB:∀p∈L,ByP p) (hE:ErrC False ro) :
  Calls pg 4 #[.slice l L.length c] w fun en w'=>en=.returned (.bool true)/\w.grownBy w' none:=by
 have hG:∀{w':World} {ex:List Ex} {ro:List Ro},Sat ⟨w,fun _=>False⟩ w' ex ro->w.grownBy w' none:=fun h=>Gr.none h.gr (fun _ _ h=>h)
 generalize hFr:(⟨w,fun _=>False⟩:Fr)=F at H hG
 apply of4
 refine call_j (c16 H hl (by omega) hs) ?_
 clear H;rintro _ w1 ⟨b,rfl,H⟩
 refine ⟨_,rfl,fun _=>⟨rfl,hG H⟩,fun _=>?_⟩
 refine call_j (c17 H hl (by omega) hF) ?_
 clear H;rintro _ w2 (⟨o,n,oc,a,k,c2,rfl,H⟩ | ⟨o,oc,a,k,c2,R,rfl,hr,H,hm,hne,hlg,hXl⟩)
 ·refine ⟨_,_,_,_,_,_,_,rfl,fun _=>⟨rfl,hG H⟩,fun h=>absurd h (by decide)⟩
 have hO:=ls_ok hlg hXl hB
 refine ⟨_,_,_,_,_,_,_,rfl,fun h=>absurd h (by decide),fun _=>?_⟩
 have hml:(L.map trim).length=L.length:=List.length_map ..
 have hMl:(L.map trim).length<=1000000:=by rw [hml];exact hL
 have hMe:L.map trim≠[]:=fun e=>hne (List.map_eq_nil_iff.1 e)
 have hsum:(L.map trim).flatMap wrOne=L.flatMap wrOne:=hO.fl
 rw [<-hml] at hm ⊢
 obtain ⟨M,hM⟩:∃M,M=L.map trim:=⟨_,rfl⟩
 obtain ⟨X,hX⟩:∃X,X=L.flatMap wrOne:=⟨_,rfl⟩
 obtain ⟨o1,o2,o3,o4,o5,o6,o7⟩:=hO
 rw [<-hM] at hm hMl hMe hsum o1 o2 o3 o4 o6 o7 ⊢
 rw [<-hX] at hXl hsum o4 o5 o6
 clear o7
 refine call_j (c19 H hm (by omega) o3) ?_
 clear H;rintro _ w3 ⟨g,gc,rfl,H⟩
 refine ⟨_,_,_,rfl,?_⟩
 refine call_j (c18 H ms hMl o2 o1 (by rw [hsum];omega)) ?_
 clear H;rintro _ w4 ⟨x,xc,R2,rfl,hr2,H,hx⟩
 rw [hsum] at hx
 refine ⟨_,_,_,_,rfl,?_⟩
 rw [hsum]
 refine call_j (c12 H hx o5 (hE.mono (fun r h=>hr2 r (mt (hr r h)))) (by omega) hMe o6 o4 hMl) ?_
 clear H;rintro _ w5 ⟨y,yc,R3,rfl,hr3,H,hy⟩
 refine ⟨_,_,_,_,rfl,?_⟩
 refine ⟨fun _=>⟨fun _=>?_,fun h=>absurd h (by decide)⟩,fun h=>absurd h (by decide)⟩
 refine call_j (c15 H hy (by omega) o3) ?_
 clear H;rintro _ w6 ⟨z,zc,rfl,H⟩
 refine ⟨_,_,_,rfl,?_⟩
 refine call_j (c14 H ms (mt (hr3 _ (hr2 _ (mt hm)))) (by omega) o3) ?_
 clear H;rintro _ w7 ⟨rfl,H⟩
 exact ⟨_,rfl,rfl,hG H⟩
abbrev Top:Nat->Prop:=fun _=>True
theorem bulk1 {H:Type} (d:DataW H):1<=Rows.uptoBulk d:=by
 cases d with
 | lit l=>cases l<;>simp [Rows.uptoBulk]
 | _=>simp [Rows.uptoBulk]
theorem bulk_app {H:Type}:∀(l:List (DataW H)) (d:DataW H),Rows.uptoBulkAll (l++[d])=Rows.uptoBulkAll l+Rows.uptoBulk d
 | [],d=>by simp [Rows.uptoBulkAll]
 | x::r,d=>by
  have:=bulk_app r d
  simp only [List.cons_append,Rows.uptoBulkAll]
  omega
theorem wfU {k:IntKind} {n:Int} (hk:k.signed=false) (h:(Lit.int k n).wf=true):0<=n/\n < 2 ^ k.bits:=by
 simp only [Lit.wf,Bool.and_eq_true,decide_eq_true_eq,IntKind.min,IntKind.max,hk,Bool.false_eq_true,if_false] at h
 omega
theorem spotN {w:World} {a:Addr} {v:Value} (h:w.cell? a=some v):a=⟨a.block,a.off,none⟩:=by
 obtain ⟨b,o,s⟩:=a
 cases s with
 | none=>rfl
 | some s=>
  exfalso
  simp only [World.cell?] at h
  split at h<;>simp_all
theorem cells_get {W:World} {p:Addr} {n:Nat} {cs:List Value} (h:W.cells? 0 p n=some cs):cs.length=n/\∀j,j < n->W.cell? (p.add j)=cs[j]?:=by
 unfold World.cells? at h
 rw [if_pos (Nat.zero_le _)] at h
 exact ⟨by simpa using mapM_some_length h,fun j hj=>by simpa using mapM_some_get h j j (by simp [hj])⟩
theorem len1 {α:Type} {l:List α} {n:Nat} (h:l.length=n+1):∃x r,l=x::r/\r.length=n:=by
 cases l with
 | nil=>simp at h
 | cons x r=>exact ⟨x,r,rfl,by simpa using h⟩
def Rds {α:Type} (e:TypeId) (f:α->List Dat) (Q:α->Prop) (s:α->Nat):Prop:=∀(H:Type) (enc:TypeId×Value->H) (W:World) (n:Nat) (cs:List Value) (y:DataW H×List MemPlace),DataW.trod enc Tryz.prog W 0 (fun _=>true) true n e cs=some y->∃x:α,DeepL W Top (f x) cs/\Q x/\s x<=Rows.uptoBulk y.1
theorem rd_int {t:TypeId} {k:IntKind} (hu:Tryz.prog.underlying t=some (.int k)):Rds t (fun x:Int=>[.one (.int k x)]) (fun x=>(Lit.int k x).wf=true) (fun _=>1):=by
 intro H enc W n cs y h
 obtain ⟨x,rfl,rfl,hw⟩:=DataW.trod_int hu h
 exact ⟨x,DeepL.ones [_],hw,bulk1 _⟩
theorem rd_row {α:Type} {t e:TypeId} {sz:Nat} {f:α->List Dat} {Q:α->Prop} {s:α->Nat} (hu:Tryz.prog.underlying t=some (.slice e)) (hR:Rds e f Q s) (hc:Tryz.prog.cellsOf e=sz) (hz:0 < sz) (hf:∀x,(f x).length=sz)
  {H:Type} {enc:TypeId×Value->H} {W:World} {n:Nat} {cs:List Value} {y:DataW H×List MemPlace} (h:DataW.trod enc Tryz.prog W 0 (fun _=>true) true n t cs=some y) :
  ∃(L:List α) (a:Option Addr) (c:Nat),cs=[.slice a L.length c]/\Deep W Top (.row sz (L.flatMap f)) (.slice a L.length c)/\(∀x∈L,Q x)/\(L.map s).sum<=Rows.uptoBulk y.1:=by
 rcases DataW.trod_slice hu h with ⟨rfl,rfl⟩ | ⟨a,len,cap,elems,rest,m,hn,rfl,rfl,_,hl,hm,hel,helem,hsp,_⟩
 ·exact ⟨[],none,0,rfl,.emp _ _,by simp,Nat.zero_le _⟩
 obtain ⟨hr,hrest⟩:=hsp rfl
 rw [hc] at helem hrest
 rcases Nat.eq_zero_or_pos cap with h0 | h0
 ·obtain rfl:len=0:=by omega
  subst h0
  exact ⟨[],some a,0,rfl,.emp _ _,by simp,Nat.zero_le _⟩
 have hc0:∃v,W.cell? (a.add 0)=some v:=by
  have aux:∀(k:Nat) (y:DataW H×List MemPlace),k=0->(W.cells? 0 (a.add (k*sz)) sz).bind (DataW.trod enc Tryz.prog W 0 (fun _=>true) true m e)=some y->∃v,W.cell? (a.add 0)=some v:=by
   intro k y hk hy
   subst hk
   rw [Nat.zero_mul] at hy
   obtain ⟨cs',hcs,_⟩:=Option.bind_eq_some_iff.1 hy
   obtain ⟨h1,h2⟩:=cells_get hcs
   have h3:=h2 0 hz
   rw [List.getElem?_eq_getElem (by omega)] at h3
   exact ⟨_,h3⟩
  rcases Nat.eq_zero_or_pos len with hl0 | hl0
  ·have h1:=hrest 0 (by omega)
   rw [List.getElem?_eq_getElem (by omega)] at h1
   exact aux _ _ (by omega) h1
  ·have h1:=helem 0 hl0
   rw [List.getElem?_eq_getElem (by omega)] at h1
   exact aux _ _ rfl h1
 obtain ⟨v0,hv0⟩:=hc0
 rw [show a.add 0=a from rfl] at hv0
 have hlt:=World.block_lt_of_cell? _ _ hv0
 have hsp:=spotN hv0
 obtain ⟨b,o,hab⟩:∃b o,a=⟨b,o,none⟩:=⟨_,_,hsp⟩
 subst hab
 have key:∀k,k<=len->∃(L:List α) (vs:List Value),L.length=k/\vs.length=k*sz/\(∀(i:Nat) (v:Value),vs[i]?=some v->W.cell? ⟨b,o+i,none⟩=some v)/\DeepL W Top (L.flatMap f) vs/\(∀x∈L,Q x)/\(L.map s).sum<=Rows.uptoBulkAll ((elems.take k).map (·.1)):=by
  intro k
  induction k with
  | zero=>intro _;exact ⟨[],[],rfl,by simp,by simp,DeepL.nil _ _,by simp,by simp⟩
  | succ k ih=>
   intro hk
   obtain ⟨L,vs,h1,h2,h3,h4,h5,h6⟩:=ih (by omega)
   have he:=helem k (by omega)
   rw [List.getElem?_eq_getElem (by omega)] at he
   obtain ⟨cs',hcs,htr⟩:=Option.bind_eq_some_iff.1 he
   obtain ⟨x,hx,hq,hsx⟩:=hR _ _ _ _ _ _ htr
   obtain ⟨hcl,hcg⟩:=cells_get hcs
   refine ⟨L++[x],vs++cs',by simp [h1],by rw [List.length_append,h2,hcl,Nat.succ_mul],fun i v hv=>?_,?_,fun z hz=>?_,?_⟩
   ·by_cases hi:i < vs.length
    ·rw [List.getElem?_append_left hi] at hv
     exact h3 i v hv
    ·rw [List.getElem?_append_right (by omega)] at hv
     have hi2:i - vs.length < sz:=by
      have:=(List.getElem?_eq_some_iff.1 hv).1
      omega
     have:=hcg (i - vs.length) hi2
     rw [hv,add_flat,add_flat] at this
     rw [show o+i=o+k*sz+(i - vs.length) by omega]
     exact this
   ·rw [List.flatMap_append]
    simp only [fm1,fm2,fm3]
    exact h4.append hx
   ·rcases List.mem_append.1 hz with hz | hz
    ·exact h5 z hz
    ·rw [List.mem_singleton.1 hz];exact hq
   ·rw [List.map_append,List.sum_append,List.take_add_one,List.getElem?_eq_getElem (by omega),Option.toList_some,List.map_append]
    simp only [List.map_cons,List.map_nil,List.sum_cons,List.sum_nil,bulk_app]
    omega
 obtain ⟨L,vs,h1,h2,h3,h4,h5,h6⟩:=key len (Nat.le_refl _)
 subst h1
 have hlen:(L.flatMap f).length=L.length*sz:=flat_len hf L
 refine ⟨L,some ⟨b,o,none⟩,cap,rfl,.row sz b o L.length cap _ vs hl hm hlt trivial hlen (by rw [h2,hlen]) h3 h4.2,h5,?_⟩
 rw [List.take_of_length_le (by omega)] at h6
 simp only [Rows.uptoBulk]
 omega
theorem oi_fl (k:IntKind):∀l:List Int,l.flatMap (fun x=>[Dat.one (.int k x)])=oi k l
 | []=>rfl
 | x::r=>by rw [List.flatMap_cons,oi_fl k r];rfl
theorem ob_fl (l:List Int):l.flatMap (fun x=>[Dat.one (.int .u8 x)])=ob l:=by rw [oi_fl];rfl
theorem sum1 {α:Type} (l:List α):(l.map fun _=>1).sum=l.length:=by
 induction l with
 | nil=>rfl
 | cons x r ih=>simp only [List.map_cons,List.sum_cons,List.length_cons,ih];omega
theorem isz_sum:∀l:List Itm,isz l=(l.map fun i=>1+i.2.size).sum
 | []=>rfl
 | i::r=>by simp only [isz,List.map_cons,List.sum_cons,isz_sum r]
theorem csz_sum:∀l:List Chk,csz l=(l.map fun i=>1+isz i.2).sum
 | []=>rfl
 | i::r=>by simp only [csz,List.map_cons,List.sum_cons,csz_sum r]
theorem bsz_sum:∀l:List Blo,bsz l=(l.map fun i=>1+i.2.2.length).sum
 | []=>rfl
 | i::r=>by simp only [bsz,List.map_cons,List.sum_cons,bsz_sum r]
theorem ssz_sum:∀l:List Sta,ssz l=(l.map fun i=>1+i.2.2.2.2.length).sum
 | []=>rfl
 | i::r=>by simp only [ssz,List.map_cons,List.sum_cons,ssz_sum r]
theorem lenN2 {α:Type} {l:List α} (h:l.length=2):∃x0 x1,l=[x0,x1]:=by
 obtain ⟨x0,r0,e0,h0⟩:=len1 h
 obtain ⟨x1,r1,e1,h1⟩:=len1 h0
 have e2:=List.eq_nil_of_length_eq_zero h1
 exact ⟨x0,x1,by rw [e0,e1,e2]⟩
theorem lenN3 {α:Type} {l:List α} (h:l.length=3):∃x0 x1 x2,l=[x0,x1,x2]:=by
 obtain ⟨x0,r0,e0,h0⟩:=len1 h
 obtain ⟨x1,r1,e1,h1⟩:=len1 h0
 obtain ⟨x2,r2,e2,h2⟩:=len1 h1
 have e3:=List.eq_nil_of_length_eq_zero h2
 exact ⟨x0,x1,x2,by rw [e0,e1,e2,e3]⟩
theorem lenN4 {α:Type} {l:List α} (h:l.length=4):∃x0 x1 x2 x3,l=[x0,x1,x2,x3]:=by
 obtain ⟨x0,r0,e0,h0⟩:=len1 h
 obtain ⟨x1,r1,e1,h1⟩:=len1 h0
 obtain ⟨x2,r2,e2,h2⟩:=len1 h1
 obtain ⟨x3,r3,e3,h3⟩:=len1 h2
 have e4:=List.eq_nil_of_length_eq_zero h3
 exact ⟨x0,x1,x2,x3,by rw [e0,e1,e2,e3,e4]⟩
theorem lenN5 {α:Type} {l:List α} (h:l.length=5):∃x0 x1 x2 x3 x4,l=[x0,x1,x2,x3,x4]:=by
 obtain ⟨x0,r0,e0,h0⟩:=len1 h
 obtain ⟨x1,r1,e1,h1⟩:=len1 h0
 obtain ⟨x2,r2,e2,h2⟩:=len1 h1
 obtain ⟨x3,r3,e3,h3⟩:=len1 h2
 obtain ⟨x4,r4,e4,h4⟩:=len1 h3
 have e5:=List.eq_nil_of_length_eq_zero h4
 exact ⟨x0,x1,x2,x3,x4,by rw [e0,e1,e2,e3,e4,e5]⟩
theorem lenN7 {α:Type} {l:List α} (h:l.length=7):∃x0 x1 x2 x3 x4 x5 x6,l=[x0,x1,x2,x3,x4,x5,x6]:=by
 obtain ⟨x0,r0,e0,h0⟩:=len1 h
 obtain ⟨x1,r1,e1,h1⟩:=len1 h0
 obtain ⟨x2,r2,e2,h2⟩:=len1 h1
 obtain ⟨x3,r3,e3,h3⟩:=len1 h2
 obtain ⟨x4,r4,e4,h4⟩:=len1 h3
 obtain ⟨x5,r5,e5,h5⟩:=len1 h4
 obtain ⟨x6,r6,e6,h6⟩:=len1 h5
 have e7:=List.eq_nil_of_length_eq_zero h6
 exact ⟨x0,x1,x2,x3,x4,x5,x6,by rw [e0,e1,e2,e3,e4,e5,e6,e7]⟩
theorem lenN27 {α:Type} {l:List α} (h:l.length=27):∃x0 x1 x2 x3 x4 x5 x6 x7 x8 x9 x10 x11 x12 x13 x14 x15 x16 x17 x18 x19 x20 x21 x22 x23 x24 x25 x26,l=[x0,x1,x2,x3,x4,x5,x6,x7,x8,x9,x10,x11,x12,x13,x14,x15,x16,x17,x18,x19,x20,x21,x22,x23,x24,x25,x26]:=by
 obtain ⟨x0,r0,e0,h0⟩:=len1 h
 obtain ⟨x1,r1,e1,h1⟩:=len1 h0
 obtain ⟨x2,r2,e2,h2⟩:=len1 h1
 obtain ⟨x3,r3,e3,h3⟩:=len1 h2
 obtain ⟨x4,r4,e4,h4⟩:=len1 h3
 obtain ⟨x5,r5,e5,h5⟩:=len1 h4
 obtain ⟨x6,r6,e6,h6⟩:=len1 h5
 obtain ⟨x7,r7,e7,h7⟩:=len1 h6
 obtain ⟨x8,r8,e8,h8⟩:=len1 h7
 obtain ⟨x9,r9,e9,h9⟩:=len1 h8
 obtain ⟨x10,r10,e10,h10⟩:=len1 h9
 obtain ⟨x11,r11,e11,h11⟩:=len1 h10
 obtain ⟨x12,r12,e12,h12⟩:=len1 h11
 obtain ⟨x13,r13,e13,h13⟩:=len1 h12
 obtain ⟨x14,r14,e14,h14⟩:=len1 h13
 obtain ⟨x15,r15,e15,h15⟩:=len1 h14
 obtain ⟨x16,r16,e16,h16⟩:=len1 h15
 obtain ⟨x17,r17,e17,h17⟩:=len1 h16
 obtain ⟨x18,r18,e18,h18⟩:=len1 h17
 obtain ⟨x19,r19,e19,h19⟩:=len1 h18
 obtain ⟨x20,r20,e20,h20⟩:=len1 h19
 obtain ⟨x21,r21,e21,h21⟩:=len1 h20
 obtain ⟨x22,r22,e22,h22⟩:=len1 h21
 obtain ⟨x23,r23,e23,h23⟩:=len1 h22
 obtain ⟨x24,r24,e24,h24⟩:=len1 h23
 obtain ⟨x25,r25,e25,h25⟩:=len1 h24
 obtain ⟨x26,r26,e26,h26⟩:=len1 h25
 have e27:=List.eq_nil_of_length_eq_zero h26
 exact ⟨x0,x1,x2,x3,x4,x5,x6,x7,x8,x9,x10,x11,x12,x13,x14,x15,x16,x17,x18,x19,x20,x21,x22,x23,x24,x25,x26,by rw [e0,e1,e2,e3,e4,e5,e6,e7,e8,e9,e10,e11,e12,e13,e14,e15,e16,e17,e18,e19,e20,e21,e22,e23,e24,e25,e26,e27]⟩
theorem lenN30 {α:Type} {l:List α} (h:l.length=30):∃x0 x1 x2 x3 x4 x5 x6 x7 x8 x9 x10 x11 x12 x13 x14 x15 x16 x17 x18 x19 x20 x21 x22 x23 x24 x25 x26 x27 x28 x29,l=[x0,x1,x2,x3,x4,x5,x6,x7,x8,x9,x10,x11,x12,x13,x14,x15,x16,x17,x18,x19,x20,x21,x22,x23,x24,x25,x26,x27,x28,x29]:=by
 obtain ⟨x0,r0,e0,h0⟩:=len1 h
 obtain ⟨x1,r1,e1,h1⟩:=len1 h0
 obtain ⟨x2,r2,e2,h2⟩:=len1 h1
 obtain ⟨x3,r3,e3,h3⟩:=len1 h2
 obtain ⟨x4,r4,e4,h4⟩:=len1 h3
 obtain ⟨x5,r5,e5,h5⟩:=len1 h4
 obtain ⟨x6,r6,e6,h6⟩:=len1 h5
 obtain ⟨x7,r7,e7,h7⟩:=len1 h6
 obtain ⟨x8,r8,e8,h8⟩:=len1 h7
 obtain ⟨x9,r9,e9,h9⟩:=len1 h8
 obtain ⟨x10,r10,e10,h10⟩:=len1 h9
 obtain ⟨x11,r11,e11,h11⟩:=len1 h10
 obtain ⟨x12,r12,e12,h12⟩:=len1 h11
 obtain ⟨x13,r13,e13,h13⟩:=len1 h12
 obtain ⟨x14,r14,e14,h14⟩:=len1 h13
 obtain ⟨x15,r15,e15,h15⟩:=len1 h14
 obtain ⟨x16,r16,e16,h16⟩:=len1 h15
 obtain ⟨x17,r17,e17,h17⟩:=len1 h16
 obtain ⟨x18,r18,e18,h18⟩:=len1 h17
 obtain ⟨x19,r19,e19,h19⟩:=len1 h18
 obtain ⟨x20,r20,e20,h20⟩:=len1 h19
 obtain ⟨x21,r21,e21,h21⟩:=len1 h20
 obtain ⟨x22,r22,e22,h22⟩:=len1 h21
 obtain ⟨x23,r23,e23,h23⟩:=len1 h22
 obtain ⟨x24,r24,e24,h24⟩:=len1 h23
 obtain ⟨x25,r25,e25,h25⟩:=len1 h24
 obtain ⟨x26,r26,e26,h26⟩:=len1 h25
 obtain ⟨x27,r27,e27,h27⟩:=len1 h26
 obtain ⟨x28,r28,e28,h28⟩:=len1 h27
 obtain ⟨x29,r29,e29,h29⟩:=len1 h28
 have e30:=List.eq_nil_of_length_eq_zero h29
 exact ⟨x0,x1,x2,x3,x4,x5,x6,x7,x8,x9,x10,x11,x12,x13,x14,x15,x16,x17,x18,x19,x20,x21,x22,x23,x24,x25,x26,x27,x28,x29,by rw [e0,e1,e2,e3,e4,e5,e6,e7,e8,e9,e10,e11,e12,e13,e14,e15,e16,e17,e18,e19,e20,e21,e22,e23,e24,e25,e26,e27,e28,e29,e30]⟩
abbrev Tr {H:Type} (enc:TypeId×Value->H) (W:World) (m:Nat) (t:TypeId) (cs:List Value) (y:DataW H×List MemPlace):Prop:=DataW.trod enc Tryz.prog W 0 (fun _=>true) true m t cs=some y
section
variable {H:Type} {enc:TypeId×Value->H} {W:World} {m:Nat} {t:TypeId} {v:Value} {y:DataW H×List MemPlace}
theorem fld {o c:Nat} {l:List Value} (h:Tr enc W m t (List.take (Tryz.prog.cellsOf t) (List.drop o l)) y) (hc:Tryz.prog.cellsOf t=c):Tr enc W m t (List.take c (List.drop o l)) y:=hc▸h
theorem fI {k:IntKind} (hu:Tryz.prog.underlying t=some (.int k)) (h:Tr enc W m t [v] y):∃d,v=.int k d/\y=(.lit (.int k d),[])/\(Lit.int k d).wf=true:=by
 obtain ⟨d,e,h2,h3⟩:=DataW.trod_int hu h
 exact ⟨d,by simpa using e,h2,h3⟩
theorem fB (hu:Tryz.prog.underlying t=some .bool) (h:Tr enc W m t [v] y):∃d,v=.bool d/\y=(.lit (.bool d),[]):=by
 obtain ⟨d,e,h2⟩:=DataW.trod_bool hu h
 exact ⟨d,by simpa using e,h2⟩
theorem fS (hu:Tryz.prog.underlying t=some .string) (h:Tr enc W m t [v] y):∃d:ByteArray,v=.string d/\y=(.lit (.string d.data.toList),[]):=by
 obtain ⟨d,e,h2,_⟩:=DataW.trod_string hu h
 exact ⟨d,by simpa using e,h2⟩
theorem rd_row1 {α:Type} {e:TypeId} {sz:Nat} {f:α->List Dat} {Q:α->Prop} {s:α->Nat} (hu:Tryz.prog.underlying t=some (.slice e)) (hR:Rds e f Q s) (hc:Tryz.prog.cellsOf e=sz) (hz:0 < sz) (hf:∀x,(f x).length=sz) (h:Tr enc W m t [v] y) :
  ∃(L:List α) (a:Option Addr) (c:Nat),v=.slice a L.length c/\Deep W Top (.row sz (L.flatMap f)) (.slice a L.length c)/\(∀x∈L,Q x)/\(L.map s).sum<=Rows.uptoBulk y.1:=by
 obtain ⟨L,a,c,e,h2⟩:=rd_row hu hR hc hz hf h
 exact ⟨L,a,c,by simpa using e,h2⟩
end
theorem rd_Rep:Rds 144 Rep.dat (fun x=>RepW x/\0<=x.2.1/\x.2.1 < 256) (fun x=>1):=by
 intro H enc W n cs y h
 obtain ⟨xs,m,_,rfl,hcs,hxs,hx⟩:=DataW.trod_struct Tryz.underlying144 h
 rw [show Tryz.prog.cellsOf 144=7 by kernel_rfl] at hcs
 replace hxs:xs.length=7:=hxs
 obtain ⟨v0,v1,v2,v3,v4,v5,v6,rfl⟩:=lenN7 hcs
 obtain ⟨y0,y1,y2,y3,y4,y5,y6,rfl⟩:=lenN7 hxs
 clear hcs hxs
 obtain ⟨d0,rfl,rfl,w0⟩:=fI (v:=v0) Tryz.underlying51 (by have h:=fld (hx 0 _ rfl) (c:=1) (by kernel_rfl);exact h)
 obtain ⟨d1,rfl,rfl,w1⟩:=fI (v:=v1) Tryz.underlying5 (by have h:=fld (hx 1 _ rfl) (c:=1) (by kernel_rfl);exact h)
 obtain ⟨d2,rfl,rfl,w2⟩:=fI (v:=v2) Tryz.underlying51 (by have h:=fld (hx 2 _ rfl) (c:=1) (by kernel_rfl);exact h)
 obtain ⟨d3,rfl,rfl,w3⟩:=fI (v:=v3) Tryz.underlying51 (by have h:=fld (hx 3 _ rfl) (c:=1) (by kernel_rfl);exact h)
 obtain ⟨d4,rfl,rfl,w4⟩:=fI (v:=v4) Tryz.underlying51 (by have h:=fld (hx 4 _ rfl) (c:=1) (by kernel_rfl);exact h)
 obtain ⟨d5,rfl,rfl,w5⟩:=fI (v:=v5) Tryz.underlying51 (by have h:=fld (hx 5 _ rfl) (c:=1) (by kernel_rfl);exact h)
 obtain ⟨d6,rfl,rfl,w6⟩:=fI (v:=v6) Tryz.underlying51 (by have h:=fld (hx 6 _ rfl) (c:=1) (by kernel_rfl);exact h)
 clear hx
 exact ⟨(d0,d1,d2,d3,d4,d5,d6),dc (.one _) (dc (.one _) (dc (.one _) (dc (.one _) (dc (.one _) (dc (.one _) (dc (.one _) dn)))))),⟨⟨wfU (k:=.u32) rfl w0,wfU (k:=.u32) rfl w2,wfU (k:=.u32) rfl w3,wfU (k:=.u32) rfl w4,wfU (k:=.u32) rfl w5,wfU (k:=.u32) rfl w6⟩,wfU (k:=.u8) rfl w1⟩,bulk1 _⟩
theorem rd_Itm:Rds 149 Itm.dat (fun x=>0<=x.1/\x.1 < 256) (fun x=>1+x.2.size):=by
 intro H enc W n cs y h
 obtain ⟨xs,m,_,rfl,hcs,hxs,hx⟩:=DataW.trod_struct Tryz.underlying149 h
 rw [show Tryz.prog.cellsOf 149=2 by kernel_rfl] at hcs
 replace hxs:xs.length=2:=hxs
 obtain ⟨v0,v1,rfl⟩:=lenN2 hcs
 obtain ⟨y0,y1,rfl⟩:=lenN2 hxs
 clear hcs hxs
 obtain ⟨d0,rfl,rfl,w0⟩:=fI (v:=v0) Tryz.underlying5 (by have h:=fld (hx 0 _ rfl) (c:=1) (by kernel_rfl);exact h)
 obtain ⟨d1,rfl,rfl⟩:=fS (v:=v1) Tryz.underlying9 (by have h:=fld (hx 1 _ rfl) (c:=1) (by kernel_rfl);exact h)
 clear hx
 exact ⟨(d0,d1),dc (.one _) (dc (.one _) dn),wfU (k:=.u8) rfl w0,by show 1+d1.size<=_;simp only [List.map_cons,List.map_nil,Rows.uptoBulk,Rows.uptoBulkAll,Array.length_toList];show 1+d1.data.size<=_;omega⟩
theorem rd_Chk:Rds 147 Chk.dat (fun x=>u32R x.1/\∀i∈x.2,0<=i.1/\i.1 < 256) (fun x=>1+isz x.2):=by
 intro H enc W n cs y h
 obtain ⟨xs,m,_,rfl,hcs,hxs,hx⟩:=DataW.trod_struct Tryz.underlying147 h
 rw [show Tryz.prog.cellsOf 147=2 by kernel_rfl] at hcs
 replace hxs:xs.length=2:=hxs
 obtain ⟨v0,v1,rfl⟩:=lenN2 hcs
 obtain ⟨y0,y1,rfl⟩:=lenN2 hxs
 clear hcs hxs
 obtain ⟨d0,rfl,rfl,w0⟩:=fI (v:=v0) Tryz.underlying51 (by have h:=fld (hx 0 _ rfl) (c:=1) (by kernel_rfl);exact h)
 obtain ⟨L1,a1,c1,rfl,D1,Q1,s1⟩:=rd_row1 (v:=v1) (sz:=2) Tryz.underlying145 rd_Itm (by kernel_rfl) (of_decide_eq_true rfl) (fun _=>rfl) (by have h:=fld (hx 1 _ rfl) (c:=1) (by kernel_rfl);exact h)
 clear hx
 exact ⟨(d0,L1),dc (.one _) (dc D1 dn),⟨wfU (k:=.u32) rfl w0,Q1⟩,by show 1+isz L1<=_;rw [isz_sum];simp only [List.map_cons,List.map_nil,Rows.uptoBulk,Rows.uptoBulkAll];omega⟩
theorem rd_Par:Rds 151 Par.dat (fun x=>(0<=x.1/\x.1 < 65536)/\0<=x.2/\x.2 < 65536) (fun x=>1):=by
 intro H enc W n cs y h
 obtain ⟨xs,m,_,rfl,hcs,hxs,hx⟩:=DataW.trod_struct Tryz.underlying151 h
 rw [show Tryz.prog.cellsOf 151=2 by kernel_rfl] at hcs
 replace hxs:xs.length=2:=hxs
 obtain ⟨v0,v1,rfl⟩:=lenN2 hcs
 obtain ⟨y0,y1,rfl⟩:=lenN2 hxs
 clear hcs hxs
 obtain ⟨d0,rfl,rfl,w0⟩:=fI (v:=v0) Tryz.underlying40 (by have h:=fld (hx 0 _ rfl) (c:=1) (by kernel_rfl);exact h)
 obtain ⟨d1,rfl,rfl,w1⟩:=fI (v:=v1) Tryz.underlying40 (by have h:=fld (hx 1 _ rfl) (c:=1) (by kernel_rfl);exact h)
 clear hx
 exact ⟨(d0,d1),dc (.one _) (dc (.one _) dn),⟨wfU (k:=.u16) rfl w0,wfU (k:=.u16) rfl w1⟩,bulk1 _⟩
theorem rd_Sli:Rds 153 Sli.dat (fun x=>(0<=x.1/\x.1 < 65536)/\(0<=x.2.1/\x.2.1 < 65536)/\0<=x.2.2/\x.2.2 < 256) (fun x=>1):=by
 intro H enc W n cs y h
 obtain ⟨xs,m,_,rfl,hcs,hxs,hx⟩:=DataW.trod_struct Tryz.underlying153 h
 rw [show Tryz.prog.cellsOf 153=3 by kernel_rfl] at hcs
 replace hxs:xs.length=3:=hxs
 obtain ⟨v0,v1,v2,rfl⟩:=lenN3 hcs
 obtain ⟨y0,y1,y2,rfl⟩:=lenN3 hxs
 clear hcs hxs
 obtain ⟨d0,rfl,rfl,w0⟩:=fI (v:=v0) Tryz.underlying40 (by have h:=fld (hx 0 _ rfl) (c:=1) (by kernel_rfl);exact h)
 obtain ⟨d1,rfl,rfl,w1⟩:=fI (v:=v1) Tryz.underlying40 (by have h:=fld (hx 1 _ rfl) (c:=1) (by kernel_rfl);exact h)
 obtain ⟨d2,rfl,rfl,w2⟩:=fI (v:=v2) Tryz.underlying5 (by have h:=fld (hx 2 _ rfl) (c:=1) (by kernel_rfl);exact h)
 clear hx
 exact ⟨(d0,d1,d2),dc (.one _) (dc (.one _) (dc (.one _) dn)),⟨wfU (k:=.u16) rfl w0,wfU (k:=.u16) rfl w1,wfU (k:=.u8) rfl w2⟩,bulk1 _⟩
theorem rd_Ent:Rds 155 Ent.dat (fun x=>u32R x.1/\0<=x.2/\x.2 < 256) (fun x=>1):=by
 intro H enc W n cs y h
 obtain ⟨xs,m,_,rfl,hcs,hxs,hx⟩:=DataW.trod_struct Tryz.underlying155 h
 rw [show Tryz.prog.cellsOf 155=2 by kernel_rfl] at hcs
 replace hxs:xs.length=2:=hxs
 obtain ⟨v0,v1,rfl⟩:=lenN2 hcs
 obtain ⟨y0,y1,rfl⟩:=lenN2 hxs
 clear hcs hxs
 obtain ⟨d0,rfl,rfl,w0⟩:=fI (v:=v0) Tryz.underlying51 (by have h:=fld (hx 0 _ rfl) (c:=1) (by kernel_rfl);exact h)
 obtain ⟨d1,rfl,rfl,w1⟩:=fI (v:=v1) Tryz.underlying5 (by have h:=fld (hx 1 _ rfl) (c:=1) (by kernel_rfl);exact h)
 clear hx
 exact ⟨(d0,d1),dc (.one _) (dc (.one _) dn),⟨wfU (k:=.u32) rfl w0,wfU (k:=.u8) rfl w1⟩,bulk1 _⟩
theorem rd_Met:Rds 160 Met.dat (fun x=>(0<=x.2.1/\x.2.1 < 256)/\0<=x.2.2/\x.2.2 < 65536) (fun x=>1):=by
 intro H enc W n cs y h
 obtain ⟨xs,m,_,rfl,hcs,hxs,hx⟩:=DataW.trod_struct Tryz.underlying160 h
 rw [show Tryz.prog.cellsOf 160=3 by kernel_rfl] at hcs
 replace hxs:xs.length=3:=hxs
 obtain ⟨v0,v1,v2,rfl⟩:=lenN3 hcs
 obtain ⟨y0,y1,y2,rfl⟩:=lenN3 hxs
 clear hcs hxs
 obtain ⟨d0,rfl,rfl⟩:=fB (v:=v0) Tryz.underlying4 (by have h:=fld (hx 0 _ rfl) (c:=1) (by kernel_rfl);exact h)
 obtain ⟨d1,rfl,rfl,w1⟩:=fI (v:=v1) Tryz.underlying5 (by have h:=fld (hx 1 _ rfl) (c:=1) (by kernel_rfl);exact h)
 obtain ⟨d2,rfl,rfl,w2⟩:=fI (v:=v2) Tryz.underlying40 (by have h:=fld (hx 2 _ rfl) (c:=1) (by kernel_rfl);exact h)
 clear hx
 exact ⟨(d0,d1,d2),dc (.one _) (dc (.one _) (dc (.one _) dn)),⟨wfU (k:=.u8) rfl w1,wfU (k:=.u16) rfl w2⟩,bulk1 _⟩
theorem rd_Blo:Rds 158 Blo.dat (fun x=>u32R x.1/\(0<=x.2.1/\x.2.1 < 65536)/\∀m∈x.2.2,(0<=m.2.1/\m.2.1 < 256)/\0<=m.2.2/\m.2.2 < 65536) (fun x=>1+x.2.2.length):=by
 intro H enc W n cs y h
 obtain ⟨xs,m,_,rfl,hcs,hxs,hx⟩:=DataW.trod_struct Tryz.underlying158 h
 rw [show Tryz.prog.cellsOf 158=3 by kernel_rfl] at hcs
 replace hxs:xs.length=3:=hxs
 obtain ⟨v0,v1,v2,rfl⟩:=lenN3 hcs
 obtain ⟨y0,y1,y2,rfl⟩:=lenN3 hxs
 clear hcs hxs
 obtain ⟨d0,rfl,rfl,w0⟩:=fI (v:=v0) Tryz.underlying51 (by have h:=fld (hx 0 _ rfl) (c:=1) (by kernel_rfl);exact h)
 obtain ⟨d1,rfl,rfl,w1⟩:=fI (v:=v1) Tryz.underlying40 (by have h:=fld (hx 1 _ rfl) (c:=1) (by kernel_rfl);exact h)
 obtain ⟨L2,a2,c2,rfl,D2,Q2,s2⟩:=rd_row1 (v:=v2) (sz:=3) Tryz.underlying156 rd_Met (by kernel_rfl) (of_decide_eq_true rfl) (fun _=>rfl) (by have h:=fld (hx 2 _ rfl) (c:=1) (by kernel_rfl);exact h)
 clear hx
 exact ⟨(d0,d1,L2),dc (.one _) (dc (.one _) (dc D2 dn)),⟨wfU (k:=.u32) rfl w0,wfU (k:=.u16) rfl w1,Q2⟩,by rw [sum1] at s2;show 1+L2.length<=_;simp only [List.map_cons,List.map_nil,Rows.uptoBulk,Rows.uptoBulkAll];omega⟩
theorem rd_Sta:Rds 163 Sta.dat (fun x=>True) (fun x=>1+x.2.2.2.2.length):=by
 intro H enc W n cs y h
 obtain ⟨xs,m,_,rfl,hcs,hxs,hx⟩:=DataW.trod_struct Tryz.underlying163 h
 rw [show Tryz.prog.cellsOf 163=5 by kernel_rfl] at hcs
 replace hxs:xs.length=5:=hxs
 obtain ⟨v0,v1,v2,v3,v4,rfl⟩:=lenN5 hcs
 obtain ⟨y0,y1,y2,y3,y4,rfl⟩:=lenN5 hxs
 clear hcs hxs
 obtain ⟨d0,rfl,rfl⟩:=fB (v:=v0) Tryz.underlying4 (by have h:=fld (hx 0 _ rfl) (c:=1) (by kernel_rfl);exact h)
 obtain ⟨d1,rfl,rfl,w1⟩:=fI (v:=v1) Tryz.underlying40 (by have h:=fld (hx 1 _ rfl) (c:=1) (by kernel_rfl);exact h)
 obtain ⟨d2,rfl,rfl,w2⟩:=fI (v:=v2) Tryz.underlying40 (by have h:=fld (hx 2 _ rfl) (c:=1) (by kernel_rfl);exact h)
 obtain ⟨d3,rfl,rfl,w3⟩:=fI (v:=v3) Tryz.underlying40 (by have h:=fld (hx 3 _ rfl) (c:=1) (by kernel_rfl);exact h)
 obtain ⟨L4,a4,c4,rfl,D4,Q4,s4⟩:=rd_row1 (v:=v4) (sz:=1) Tryz.underlying161 (rd_int Tryz.underlying40) (by kernel_rfl) (of_decide_eq_true rfl) (fun _=>rfl) (by have h:=fld (hx 4 _ rfl) (c:=1) (by kernel_rfl);exact h)
 clear hx
 exact ⟨(d0,d1,d2,d3,L4),dc (.one _) (dc (.one _) (dc (.one _) (dc (.one _) (dc (by rw [oi_fl] at D4;exact D4) dn)))),trivial,by rw [sum1] at s4;show 1+L4.length<=_;simp only [List.map_cons,List.map_nil,Rows.uptoBulk,Rows.uptoBulkAll];omega⟩
theorem rd_Del:Rds 165 Del.dat (fun x=>True) (fun x=>1):=by
 intro H enc W n cs y h
 obtain ⟨xs,m,_,rfl,hcs,hxs,hx⟩:=DataW.trod_struct Tryz.underlying165 h
 rw [show Tryz.prog.cellsOf 165=2 by kernel_rfl] at hcs
 replace hxs:xs.length=2:=hxs
 obtain ⟨v0,v1,rfl⟩:=lenN2 hcs
 obtain ⟨y0,y1,rfl⟩:=lenN2 hxs
 clear hcs hxs
 obtain ⟨d0,rfl,rfl,w0⟩:=fI (v:=v0) Tryz.underlying40 (by have h:=fld (hx 0 _ rfl) (c:=1) (by kernel_rfl);exact h)
 obtain ⟨d1,rfl,rfl,w1⟩:=fI (v:=v1) Tryz.underlying2 (by have h:=fld (hx 1 _ rfl) (c:=1) (by kernel_rfl);exact h)
 clear hx
 exact ⟨(d0,d1),dc (.one _) (dc (.one _) dn),trivial,bulk1 _⟩
structure PkW (p:Pk):Prop where
 s:u32R p.sender
 m:u32R p.media
 ntp:0<=p.ntp/\p.ntp < 18446744073709551616
 rtp:u32R p.rtp
 pks:u32R p.packets
 ocs:u32R p.octets
 tim:u32R p.time
 bt:u32R p.bits
 sub:0<=p.sub/\p.sub < 256
 reps:∀y∈p.reports,RepW y/\0<=y.2.1/\y.2.1 < 256
 chks:∀y∈p.chunks,u32R y.1/\∀i∈y.2,0<=i.1/\i.1 < 256
 srcs:∀y∈p.sources,u32R y
 prs:∀x∈p.pairs,(0<=x.1/\x.1 < 65536)/\0<=x.2/\x.2 < 65536
 sls:∀x∈p.slices,(0<=x.1/\x.1 < 65536)/\(0<=x.2.1/\x.2.1 < 65536)/\0<=x.2.2/\x.2.2 < 256
 ens:∀x∈p.entries,u32R x.1/\0<=x.2/\x.2 < 256
 bls:∀y∈p.blocks,u32R y.1/\(0<=y.2.1/\y.2.1 < 65536)/\∀m∈y.2.2,(0<=m.2.1/\m.2.1 < 256)/\0<=m.2.2/\m.2.2 < 65536
 ext:By p.ext
 dat:By p.data
theorem PkW.fo {p:Pk} (h:PkW p) (hs:p.size<=1100000) (lo:0<=p.kind) (hi:p.kind<=13):FoOk p:=
 ⟨lo,hi,fun _=>hs,h.s,h.m,h.ntp,h.rtp,h.pks,h.ocs,h.tim,fun y hy=>(h.reps y hy).1,fun y hy=>(h.chks y hy).1,h.srcs,h.sub,h.prs,h.sls,fun y hy=>(h.ens y hy).1,h.bls,h.bt,fun _=>h.dat⟩
theorem PkW.by_ {p:Pk} (h:PkW p):ByP p:=⟨h.ext,h.dat,fun y hy=>(h.reps y hy).2,fun y hy=>(h.chks y hy).2,fun y hy=>(h.ens y hy).2⟩
theorem rd_Pk:Rds 63 Pk.dat PkW Pk.size:=by
 intro H enc W n cs y h
 obtain ⟨xs,m,_,rfl,hcs,hxs,hx⟩:=DataW.trod_struct Tryz.underlying63 h
 rw [show Tryz.prog.cellsOf 63=30 by kernel_rfl] at hcs
 replace hxs:xs.length=27:=hxs
 obtain ⟨v0,v1,v2,v3,v4,v5,v6,v7,v8,v9,v10,v11,v12,v13,v14,v15,v16,v17,v18,v19,v20,v21,v22,v23,v24,v25,v26,v27,v28,v29,rfl⟩:=lenN30 hcs
 obtain ⟨y0,y1,y2,y3,y4,y5,y6,y7,y8,y9,y10,y11,y12,y13,y14,y15,y16,y17,y18,y19,y20,y21,y22,y23,y24,y25,y26,rfl⟩:=lenN27 hxs
 clear hcs hxs
 obtain ⟨d0,rfl,rfl,w0⟩:=fI (v:=v0) Tryz.underlying3 (by have h:=fld (hx 0 _ rfl) (c:=1) (by kernel_rfl);exact h)
 obtain ⟨d1,rfl,rfl,w1⟩:=fI (v:=v1) Tryz.underlying51 (by have h:=fld (hx 1 _ rfl) (c:=1) (by kernel_rfl);exact h)
 obtain ⟨d2,rfl,rfl,w2⟩:=fI (v:=v2) Tryz.underlying51 (by have h:=fld (hx 2 _ rfl) (c:=1) (by kernel_rfl);exact h)
 obtain ⟨d3,rfl,rfl,w3⟩:=fI (v:=v3) Tryz.underlying52 (by have h:=fld (hx 3 _ rfl) (c:=1) (by kernel_rfl);exact h)
 obtain ⟨d4,rfl,rfl,w4⟩:=fI (v:=v4) Tryz.underlying51 (by have h:=fld (hx 4 _ rfl) (c:=1) (by kernel_rfl);exact h)
 obtain ⟨d5,rfl,rfl,w5⟩:=fI (v:=v5) Tryz.underlying51 (by have h:=fld (hx 5 _ rfl) (c:=1) (by kernel_rfl);exact h)
 obtain ⟨d6,rfl,rfl,w6⟩:=fI (v:=v6) Tryz.underlying51 (by have h:=fld (hx 6 _ rfl) (c:=1) (by kernel_rfl);exact h)
 obtain ⟨L7,a7,c7,rfl,D7,Q7,s7⟩:=rd_row1 (v:=v7) (sz:=7) Tryz.underlying53 rd_Rep (by kernel_rfl) (of_decide_eq_true rfl) (fun _=>rfl) (by have h:=fld (hx 7 _ rfl) (c:=1) (by kernel_rfl);exact h)
 obtain ⟨L8,a8,c8,rfl,D8,Q8,s8⟩:=rd_row1 (v:=v8) (sz:=1) Tryz.underlying22 (rd_int Tryz.underlying5) (by kernel_rfl) (of_decide_eq_true rfl) (fun _=>rfl) (by have h:=fld (hx 8 _ rfl) (c:=1) (by kernel_rfl);exact h)
 obtain ⟨L9,a9,c9,rfl,D9,Q9,s9⟩:=rd_row1 (v:=v9) (sz:=2) Tryz.underlying54 rd_Chk (by kernel_rfl) (of_decide_eq_true rfl) (fun _=>rfl) (by have h:=fld (hx 9 _ rfl) (c:=1) (by kernel_rfl);exact h)
 obtain ⟨L10,a10,c10,rfl,D10,Q10,s10⟩:=rd_row1 (v:=v10) (sz:=1) Tryz.underlying55 (rd_int Tryz.underlying51) (by kernel_rfl) (of_decide_eq_true rfl) (fun _=>rfl) (by have h:=fld (hx 10 _ rfl) (c:=1) (by kernel_rfl);exact h)
 obtain ⟨d11,rfl,rfl⟩:=fS (v:=v11) Tryz.underlying9 (by have h:=fld (hx 11 _ rfl) (c:=1) (by kernel_rfl);exact h)
 obtain ⟨d12,rfl,rfl,w12⟩:=fI (v:=v12) Tryz.underlying5 (by have h:=fld (hx 12 _ rfl) (c:=1) (by kernel_rfl);exact h)
 obtain ⟨L13,a13,c13,rfl,D13,Q13,s13⟩:=rd_row1 (v:=v13) (sz:=1) Tryz.underlying22 (rd_int Tryz.underlying5) (by kernel_rfl) (of_decide_eq_true rfl) (fun _=>rfl) (by have h:=fld (hx 13 _ rfl) (c:=1) (by kernel_rfl);exact h)
 obtain ⟨L14,a14,c14,rfl,D14,Q14,s14⟩:=rd_row1 (v:=v14) (sz:=2) Tryz.underlying56 rd_Par (by kernel_rfl) (of_decide_eq_true rfl) (fun _=>rfl) (by have h:=fld (hx 14 _ rfl) (c:=1) (by kernel_rfl);exact h)
 obtain ⟨L15,a15,c15,rfl,D15,Q15,s15⟩:=rd_row1 (v:=v15) (sz:=3) Tryz.underlying57 rd_Sli (by kernel_rfl) (of_decide_eq_true rfl) (fun _=>rfl) (by have h:=fld (hx 15 _ rfl) (c:=1) (by kernel_rfl);exact h)
 obtain ⟨L16,a16,c16,rfl,D16,Q16,s16⟩:=rd_row1 (v:=v16) (sz:=2) Tryz.underlying58 rd_Ent (by kernel_rfl) (of_decide_eq_true rfl) (fun _=>rfl) (by have h:=fld (hx 16 _ rfl) (c:=1) (by kernel_rfl);exact h)
 obtain ⟨d17,rfl,rfl,w17⟩:=fI (v:=v17) Tryz.underlying51 (by have h:=fld (hx 17 _ rfl) (c:=1) (by kernel_rfl);exact h)
 obtain ⟨L18,a18,c18,rfl,D18,Q18,s18⟩:=rd_row1 (v:=v18) (sz:=3) Tryz.underlying59 rd_Blo (by kernel_rfl) (of_decide_eq_true rfl) (fun _=>rfl) (by have h:=fld (hx 18 _ rfl) (c:=1) (by kernel_rfl);exact h)
 obtain ⟨d19,rfl,rfl,w19⟩:=fI (v:=v19) Tryz.underlying51 (by have h:=fld (hx 19 _ rfl) (c:=1) (by kernel_rfl);exact h)
 obtain ⟨d20,rfl,rfl,w20⟩:=fI (v:=v20) Tryz.underlying40 (by have h:=fld (hx 20 _ rfl) (c:=1) (by kernel_rfl);exact h)
 obtain ⟨d21,rfl,rfl,w21⟩:=fI (v:=v21) Tryz.underlying40 (by have h:=fld (hx 21 _ rfl) (c:=1) (by kernel_rfl);exact h)
 obtain ⟨d22,rfl,rfl,w22⟩:=fI (v:=v22) Tryz.underlying51 (by have h:=fld (hx 22 _ rfl) (c:=1) (by kernel_rfl);exact h)
 obtain ⟨d23,rfl,rfl,w23⟩:=fI (v:=v23) Tryz.underlying5 (by have h:=fld (hx 23 _ rfl) (c:=1) (by kernel_rfl);exact h)
 obtain ⟨L24,a24,c24,rfl,D24,Q24,s24⟩:=rd_row1 (v:=v24) (sz:=5) Tryz.underlying60 rd_Sta (by kernel_rfl) (of_decide_eq_true rfl) (fun _=>rfl) (by have h:=fld (hx 24 _ rfl) (c:=1) (by kernel_rfl);exact h)
 obtain ⟨L25,a25,c25,rfl,D25,Q25,s25⟩:=rd_row1 (v:=v25) (sz:=2) Tryz.underlying61 rd_Del (by kernel_rfl) (of_decide_eq_true rfl) (fun _=>rfl) (by have h:=fld (hx 25 _ rfl) (c:=1) (by kernel_rfl);exact h)
 have h26:Tr enc W m 42 [v26,v27,v28,v29] y26:=(by have h:=fld (hx 26 _ rfl) (c:=4) (by kernel_rfl);exact h)
 clear hx
 have h:=h26
 clear h26
 obtain ⟨xs,m2,_,rfl,_,hxs,hx⟩:=DataW.trod_struct Tryz.underlying42 h
 replace hxs:xs.length=4:=hxs
 obtain ⟨z0,z1,z2,z3,rfl⟩:=lenN4 hxs
 obtain ⟨f0,rfl,rfl⟩:=fB (v:=v26) Tryz.underlying4 (by have h:=fld (hx 0 _ rfl) (c:=1) (by kernel_rfl);exact h)
 obtain ⟨f1,rfl,rfl,_⟩:=fI (v:=v27) Tryz.underlying5 (by have h:=fld (hx 1 _ rfl) (c:=1) (by kernel_rfl);exact h)
 obtain ⟨f2,rfl,rfl,_⟩:=fI (v:=v28) Tryz.underlying5 (by have h:=fld (hx 2 _ rfl) (c:=1) (by kernel_rfl);exact h)
 obtain ⟨f3,rfl,rfl,_⟩:=fI (v:=v29) Tryz.underlying40 (by have h:=fld (hx 3 _ rfl) (c:=1) (by kernel_rfl);exact h)
 refine ⟨({ kind:=d0,sender:=d1,media:=d2,ntp:=d3,rtp:=d4,packets:=d5,octets:=d6,reports:=L7,ext:=L8,chunks:=L9,sources:=L10,text:=d11,sub:=d12,data:=L13,pairs:=L14,slices:=L15,entries:=L16,bits:=d17,blocks:=L18,time:=d19,base:=d20,count:=d21,ref:=d22,fb:=d23,statuses:=L24,deltas:=L25,hp:=f0,hc:=f1,ht:=f2,hl:=f3 }:Pk),dc (.one _) (dc (.one _) (dc (.one _) (dc (.one _) (dc (.one _) (dc (.one _) (dc (.one _) (dc D7 (dc (by rw [ob_fl] at D8;exact D8) (dc D9 (dc (by rw [oi_fl] at D10;exact D10) (dc (.one _) (dc (.one _) (dc (by rw [ob_fl] at D13;exact D13) (dc D14 (dc D15 (dc D16 (dc (.one _) (dc D18 (dc (.one _) (dc (.one _) (dc (.one _) (dc (.one _) (dc (.one _) (dc D24 (dc D25 (dc (.one _) (dc (.one _) (dc (.one _) (dc (.one _) dn))))))))))))))))))))))))))))),?_,?_⟩
 ·exact ⟨wfU (k:=.u32) rfl w1,wfU (k:=.u32) rfl w2,wfU (k:=.u64) rfl w3,wfU (k:=.u32) rfl w4,wfU (k:=.u32) rfl w5,wfU (k:=.u32) rfl w6,wfU (k:=.u32) rfl w19,wfU (k:=.u32) rfl w17,wfU (k:=.u8) rfl w12,Q7,Q9,fun y hy=>wfU (k:=.u32) rfl (Q10 y hy),Q14,Q15,Q16,Q18,fun y hy=>wfU (k:=.u8) rfl (Q8 y hy),fun y hy=>wfU (k:=.u8) rfl (Q13 y hy)⟩
 ·rw [sum1] at s7 s8 s10 s13 s14 s15 s16 s25
  rw [<-csz_sum] at s9
  rw [<-bsz_sum] at s18
  rw [<-ssz_sum] at s24
  show L7.length+L8.length+csz L9+L10.length+d11.size+L13.length+L14.length+L15.length+L16.length+bsz L18+ssz L24+L25.length<=_
  simp only [List.map_cons,List.map_nil,Rows.uptoBulk,Rows.uptoBulkAll,Array.length_toList]
  show _+d11.data.size+_+_+_+_+_+_+_<=_
  omega
theorem sum2 {α:Type} (l:List α):(l.map fun _=>2).sum=2*l.length:=by
 induction l with
 | nil=>rfl
 | cons x r ih=>simp only [List.map_cons,List.sum_cons,List.length_cons,ih];omega
theorem bulk_pk {H:Type} {enc:TypeId×Value->H} {W:World} {n:Nat} {cs:List Value} {y:DataW H×List MemPlace} (h:DataW.trod enc Tryz.prog W 0 (fun _=>true) true n 63 cs=some y):2<=Rows.uptoBulk y.1:=by
 obtain ⟨xs,m,_,rfl,_,hxs,_⟩:=DataW.trod_struct Tryz.underlying63 h
 replace hxs:xs.length=27:=hxs
 obtain ⟨x,r,rfl,_⟩:=len1 hxs
 have:=bulk1 x.1
 simp only [List.map_cons,Rows.uptoBulk,Rows.uptoBulkAll]
 omega
theorem open_pks {H:Type} {enc:TypeId×Value->H} {W:World} {n:Nat} {cs:List Value} {y:DataW H×List MemPlace} (h:DataW.trod enc Tryz.prog W 0 (fun _=>true) true n 23 cs=some y) :
  ∃(L:List Pk) (a:Option Addr) (c:Nat),cs=[.slice a L.length c]/\Deep W Top (.row 30 (L.flatMap Pk.dat)) (.slice a L.length c)/\(∀p∈L,PkW p)/\(L.map Pk.size).sum<=Rows.uptoBulk y.1/\2*L.length<=Rows.uptoBulk y.1:=by
 obtain ⟨L,a,c,h1,h2,h3,h4⟩:=rd_row (sz:=30) Tryz.underlying23 rd_Pk (by kernel_rfl) (of_decide_eq_true rfl) (fun _=>rfl) h
 obtain ⟨L2,a2,c2,k1,_,_,k4⟩:=rd_row (sz:=30) (f:=Pk.dat) (Q:=fun _=>True) (s:=fun _=>2) Tryz.underlying23 (fun H enc W n cs y h=>by obtain ⟨x,hx,_,_⟩:=rd_Pk H enc W n cs y h;exact ⟨x,hx,trivial,bulk_pk h⟩) (by kernel_rfl) (of_decide_eq_true rfl) (fun _=>rfl) h
 rw [h1] at k1
 simp only [List.cons.injEq,Value.slice.injEq,and_true] at k1
 rw [sum2] at k4
 exact ⟨L,a,c,h1,h2,h3,h4,by omega⟩
open Go.ChangeShapes Go.WideShapes Go.ChangeAt Go.WideMaps Go.WideElems Go.RowKit Go.Joins
theorem own:ownKnob Tryz.prog.godebug=none:=by kernel_rfl
def laid3:List (String×DataW Unit):=[("rtcppackets/pub/rtcp.errInvalidHeader",Rows.laid_rtcppackets_pub_rtcp_errInvalidHeader),("rtcppackets/pub/rtcp.errPacketTooShort",Rows.laid_rtcppackets_pub_rtcp_errPacketTooShort),("rtcppackets/pub/rtcp.errBadVersion",Rows.laid_rtcppackets_pub_rtcp_errBadVersion)]
theorem gE0:Tryz.prog.globalNamed "rtcppackets/pub/rtcp.errInvalidHeader" = some 0:=by kernel_rfl
theorem gE1:Tryz.prog.globalNamed "rtcppackets/pub/rtcp.errPacketTooShort" = some 1:=by kernel_rfl
theorem gE2:Tryz.prog.globalNamed "rtcppackets/pub/rtcp.errBadVersion" = some 2:=by kernel_rfl
theorem tE0:(Tryz.prog.globals[0]?).map (·.type)=some 90:=by kernel_rfl
theorem tE1:(Tryz.prog.globals[1]?).map (·.type)=some 90:=by kernel_rfl
theorem tE2:(Tryz.prog.globals[2]?).map (·.type)=some 90:=by kernel_rfl
theorem star : "*" ++ "errors.errorString" = "*errors.errorString" := by decide
theorem row296 (u:TypeId) (h:Tryz.prog.typeName? 3 u=some "*errors.errorString"):u=296:=
 typeName_ptr_named (nm := "errors.errorString") (by rw [star];kernel_rfl) (by kernel_rfl) (by decide) u (by rw [star];exact h)
theorem errs_of_laid {W:World} (h:laidMetH Tryz.prog laid3 W):Errs W:=by
 rw [MakeChecks.laidMetH_plain _ _ _ (by kernel_rfl)] at h
 obtain ⟨a0,_,h0,_,_,_⟩:=laid_sentinel h gE0 tE0 Tryz.underlying90 row296 Tryz.underlying296 Tryz.underlying342 rfl rfl Tryz.underlying9 (by kernel_rfl) (by kernel_rfl)
 obtain ⟨a1,_,h1,_,_,_⟩:=laid_sentinel h.tail gE1 tE1 Tryz.underlying90 row296 Tryz.underlying296 Tryz.underlying342 rfl rfl Tryz.underlying9 (by kernel_rfl) (by kernel_rfl)
 obtain ⟨a2,_,h2,_,_,_⟩:=laid_sentinel h.tail.tail gE2 tE2 Tryz.underlying90 row296 Tryz.underlying296 Tryz.underlying342 rfl rfl Tryz.underlying9 (by kernel_rfl) (by kernel_rfl)
 exact ⟨⟨_,_,by simpa using World.var?_cell gE0 h0 0⟩,⟨_,_,by simpa using World.var?_cell gE1 h1 0⟩,⟨_,_,by simpa using World.var?_cell gE2 h2 0⟩⟩
theorem door_met (os:Os) (args:Array Value):laidMetH Tryz.prog laid3 ((World.doorLaid Tryz.prog 20000 os).forCall (fun _ _=>0) ⟨#[],args,[]⟩).memory:=
 laidMetH_of_parts3 (fuel:=8) (laidMet_of_run' 8 (by kernel_rfl) (by kernel_rfl)) (by kernel_rfl) (by kernel_rfl)
theorem kept_grown {W W':World} (may:MemPlace->Prop) (h:W.grownBy W' none):W.keptBut W' may:=by
 refine ⟨h.os,h.output,fun i hi=>?_⟩
 rw [h.block i hi (by simp)]
 cases W.heap[i]? with
 | none=>rfl
 | some o=>cases o<;>first
  | exact ⟨rfl,rfl,rfl,fun _ _=>rfl⟩
  | exact .inr ⟨rfl,rfl⟩
  | rfl
theorem errC_laid {W:World} {r:Ro} (h:Errs W):∃v0 v1 v2,ErrC False [r,.cell 0 0 v0,.cell 1 0 v1,.cell 2 0 v2]/\W.cell? ⟨0,0,none⟩=some v0/\W.cell? ⟨1,0,none⟩=some v1/\W.cell? ⟨2,0,none⟩=some v2:=by
 obtain ⟨⟨t0,v0,h0⟩,⟨t1,v1,h1⟩,⟨t2,v2,h2⟩⟩:=h
 refine ⟨_,_,_,⟨fun i hi=>?_,fun hp=>hp.elim⟩,h0,h1,h2⟩
 have hi:i=0\/i=1\/i=2:=by
  have:=List.elem_iff.1 (show List.elem i laidIds=true from hi)
  simp [laidIds] at this
  omega
 rcases hi with rfl | rfl | rfl
 ·exact ⟨.iface t0 v0,by simp,by simp [isIf],fun _=>by simp [isNilI]⟩
 ·exact ⟨.iface t1 v1,by simp,by simp [isIf],fun _=>by simp [isNilI]⟩
 ·exact ⟨.iface t2 v2,by simp,by simp [isIf],fun _=>by simp [isNilI]⟩
theorem ret_cond_and {H:Type} {enc:TypeId×Value->H} {a:Assume} {C:Checked} {os:Os} {f:FuncId} {fn:Func} {s:OpenSpec} {k:(H:Type)->List (DataW H)->Bool} (hk:s.cond=some k) {F:Stop.Interp} {conds:List PathCond} {apart fresh handsOn again:Bool} {X:World->Array Value->Prop}
  (hX:∀(w w':World) (args:Array Value),w.heap=w'.heap->X w args->X w' args)
  (own:ownKnob C.prog.godebug=none) (started:os.Started) (noInit:C.prog.inits.idxOf? f=none) (hfn:C.prog.funcs[f]?=some fn)
  (witness:∃(w:World) (tape:Tape) (i:Input),w.os=os/\(w.forCall tape i).Shaped C.prog/\i.vars=[]/\Input.okWide C.prog (w.forCall tape i) .any w.heap.size f i /\
   ((s.pre enc C.prog fn conds apart (w.forCall tape i).memory i.args/\X (w.forCall tape i).memory i.args)/\sizedMet enc C.prog fn s apart (w.forCall tape i).memory i.args)/\a.holds C.prog (lone (Frame.enter C.prog f i.args .normal) [] (w.forCall tape i)))
  (contract:∀(W:World) (base:Nat) (args:Array Value) (ds gs:List (DataW H)) (before:List MemPlace),
   (∀(j:Nat) t v,fn.params[j]?=some t->args[j]?=some v->Value.okWide C.prog W .any base t v) ->
   DataW.Whole enc C.prog fn.params.toList s.vars apart W args.toList ds gs before->k H (ds++gs)=true->X W args ->
   Calls C.prog f args W fun e W'=>∃v,e=.returned v/\(s.at F).post enc C.prog fn apart fresh handsOn again W args v W') :
  ReturnsInHanded a C os f .any (fun w args=>(s.pre enc C.prog fn conds apart w args/\X w args)/\sizedMet enc C.prog fn s apart w args) ((s.at F).post enc C.prog fn apart fresh handsOn again):=by
 refine returnsInHanded_of_calls own started noInit witness ?_
 intro w tape i _ _ _ hok hpre hholds
 obtain ⟨_,_,_,fn',hfn',_,_,_,_,hval⟩:=hok
 have e:fn'=fn:=Option.some.inj (hfn'.symm.trans hfn)
 subst e
 obtain ⟨⟨hp,hx⟩,_⟩:=hpre
 obtain ⟨ds,gs,before,hw,hc,hkk⟩:=(OpenSpec.pre_some hk conds apart _ _).1 hp
 have hw':=DataW.Whole.of_heap (w':=w.forCall tape i) (by rfl) hw
 refine (contract (w.forCall tape i) w.heap.size i.args ds gs before hval hw' hkk (hX _ _ _ (by rfl) hx)).mono fun e W' ⟨v,he,hp⟩=>?_
 subst he
 exact ChangeSpec.post_blind hp
theorem wit_cond {H:Type} {enc:TypeId×Value->H} {C:Checked} {os:Os} {f:FuncId} {fn:Func} {s:OpenSpec} {k:(H:Type)->List (DataW H)->Bool} (hk:s.cond=some k) {conds:List PathCond} {apart:Bool} {X:World->Array Value->Prop} (modest:Bool) (w0:World) (args:Array Value) (fuel:Nat) (hos:w0.os=os)
  (hsh:(w0.forCall (fun _ _=>0) ⟨#[],args,[]⟩).Shaped C.prog)
  (hok:Input.okWideB C.prog (w0.forCall (fun _ _=>0) ⟨#[],args,[]⟩) f ⟨#[],args,[]⟩=true)
  {x:List (DataW H)×List (DataW H)×List MemPlace} (hw:DataW.whole enc C.prog (w0.forCall (fun _ _=>0) ⟨#[],args,[]⟩).memory fn.params.toList s.vars apart args.toList fuel=some x)
  (hconds:conds.all (PathCond.test C.prog ⟨fn.params.toList,x.1,s.bare.plain.varTypes C.prog,x.2.1⟩)=true) (hkk:k H (x.1++x.2.1)=true)
  (hsz:s.bare.sizedB enc C.prog fn apart (w0.forCall (fun _ _=>0) ⟨#[],args,[]⟩).memory args fuel=true)
  (hx:X (w0.forCall (fun _ _=>0) ⟨#[],args,[]⟩).memory args) :
  ∃(w:World) (tape:Tape) (i:Input),w.os=os/\(w.forCall tape i).Shaped C.prog/\i.vars=[]/\Input.okWide C.prog (w.forCall tape i) .any w.heap.size f i /\
   ((s.pre enc C.prog fn conds apart (w.forCall tape i).memory i.args/\X (w.forCall tape i).memory i.args)/\sizedMet enc C.prog fn s apart (w.forCall tape i).memory i.args)/\({ modest:=modest }:Assume).holds C.prog (lone (Frame.enter C.prog f i.args .normal) [] (w.forCall tape i)):=
 ⟨w0,fun _ _=>0,⟨#[],args,[]⟩,hos,hsh,(Input.okWide_of_okWideB (base:=0) hok).1,(Input.okWide_of_okWideB hok).2,
  ⟨⟨(OpenSpec.pre_some hk conds apart _ _).2 ⟨x.1,x.2.1,x.2.2,DataW.Whole_of_whole hw,hconds,hkk⟩,hx⟩,sizedMet_of_sizedB hsz⟩,by
  simp only [Assume.holds]
  exact ⟨by simp,by simp,fun _=>Modest.zero,by simp,by simp⟩⟩
end Go.Proofs.YtkdialecadjedaaGreatDoor
