/- A part of a proof, joined by a program out of smaller texts (conditions: those that each theorem names). -/
import Derived.Test.YtkdialecadjedaaGreatDoorC3
namespace Go.Proofs.YtkdialecadjedaaGreatDoor
set_option linter.unusedVariables false
set_option linter.unusedSimpArgs false
set_option linter.unusedSectionVars false
set_option maxRecDepth 100000
set_option maxHeartbeats 8000000
open Go IntKind
variable {P:Program} {w w' W:World} {n c b k m i j o g M sz bytes p1 p3:Nat} {t ty T e:TypeId} {a l:Option Addr} {v c0 c1:Value} {xs ys A:List Int} {cells vs:List Value} {r:Option Nat} {f:FuncId} {s x:Int} {G:Nat->Prop} {K:Option Addr->Nat->Nat->World->Prop} {Q:Value->Prop} {R:Ending->World->Prop} {F:Fr} {ex exs:List Ex} {ro ro':List Ro} {e0 e1 e2:Ex} {ds:List Dat} {d:Dat} {p:Pk} {L:List Pk}
theorem c175 {xn xk:Nat} {sub:Int} {nm:ByteArray} {x:Option Addr} (H:Sat F w ex ro) (hxs:Ro.B xs x xn xk∈ro) (hsub:0<=sub/\sub < 32) (hs:u32R s) (hnm:nm.size=4) (h4:xn % 4=0) (hx:xn<=65520) :
  Calls pg 175 #[.agg #[.int .u8 sub,.int .u32 s,.string nm,.slice x xn xk]] w (MPost F ex ro (wrApp sub s nm xs)):=by
 apply of175
 have hxl:=H.lenB hxs
 refine sNew H ?_;clear H;intro b1 w _ H
 refine ⟨_,_,_,(H.b0.at0 rfl),?_⟩
 refine ⟨fun h=>by rw [ah] at h;omega,fun _=>?_⟩
 refine ⟨_,(H.b0.at0 rfl),?_⟩
 refine ⟨fun h=>by rw [hnm] at h;exact absurd h (by decide),fun _=>?_⟩
 refine ⟨by decide,?_⟩
 have ht:((xn:Nat):Int).tmod 4=0:=by rw [bz (by omega)];omega
 rw [ht]
 refine fT ?_
 refine call_j (c176 (show w.cell? ⟨b1,3,none⟩=some (.slice x xn xk) from H.b0.cell rfl) (by omega) h4) ?_
 rintro _ w' ⟨rfl,rfl⟩
 refine ⟨_,rfl,?_⟩
 refine ⟨by decide,?_⟩
 refine ⟨_,(H.b0.at0 rfl),?_⟩
 refine sNew H ?_;clear H;intro b10 w _ H
 rw [aY (by omega),wi64_of (n:=((12+xn:Nat):Int) / 4) (by omega) (by omega),wi64_of (n:=((12+xn:Nat):Int) / 4 - 1) (by omega) (by omega),wu16,show (((12+xn:Nat):Int) / 4 - 1) % 65536=((2+xn / 4:Nat):Int) by omega,show ((0:Int) != (0:Int))=false from rfl]
 refine sSw0 H (h:=?_);clear H;intro w _ H
 refine ⟨_,_,_,_,H.b0.ld,?_⟩
 refine call_j (hdrM H hsub (by decide) (by omega)) ?_
 clear H;rintro _ w ⟨g2,rfl,H⟩
 refine ⟨_,_,_,_,rfl,?_⟩
 refine ⟨by simp [isIf],?_⟩
 refine fF ?_
 refine sMk H (e:=5) (z:=.int .u8 0) (bytes:=1) (by kernel_rfl) (by kernel_rfl) (by rfl) (by unfold maxLen;omega) (by omega) (n:=12+xn) (by rfl) (by rfl) ?_
 clear H;intro g w _ H
 rw [u8s_z] at H
 replace H:Sat F w (.blk g 5 (u8s (wz [] (12+xn)))::_) _:=H
 refine sCpW H ms (by decide) (by rfl) (by omega) (by show 4<=_;omega) ?_
 clear H;intro w _ H
 refine ⟨by omega,by omega,?_⟩
 refine ⟨by omega,by omega,?_⟩
 replace H:=H.drew;generalize w.drew=w at H ⊢
 refine ⟨_,(H.b2.at0 rfl),?_⟩
 rw [cutW (b:=g) (o:=0) (l:=4) (q:=4) (by omega) rfl]
 refine call_j (put32 H (by rfl) hs (by decide) (by show 4<=12+xn - 4;omega)) ?_
 clear H;rintro _ w ⟨rfl,H⟩
 refine ⟨rfl,?_⟩
 refine ⟨by omega,by omega,?_⟩
 refine ⟨by omega,by omega,?_⟩
 replace H:=H.drew;generalize w.drew=w at H ⊢
 refine ⟨_,(H.b2.at0 rfl),?_⟩
 rw [cutW (b:=g) (o:=0) (l:=8) (q:=8) (by omega) rfl]
 refine sCpS H (by rfl) (by rw [hnm];decide) (by rw [hnm];show 4<=12+xn - 4 - 4;omega) ?_
 clear H;intro w H
 refine ⟨by omega,by omega,?_⟩
 replace H:=H.drew;generalize w.drew=w at H ⊢
 refine ⟨_,_,_,(H.b2.at0 rfl),?_⟩
 have hpl:([]++hdrB sub 204 ((2+xn / 4:Nat):Int)++b32 s++sbs nm).length=12:=by
  rw [ae,sbs_len,hnm];rfl
 refine sCpV H (mt hxs) (fun h0=>by rw [cutW (b:=g) (o:=0) (l:=12) (q:=12) (by omega) rfl,hpl]) (by omega) (by rw [hnm,hxl];show xn<=12+xn - 4 - 4 - 4;omega) ?_
 clear H;intro w _ H
 refine fF ?_
 rw [hnm,hxl,show 12+xn - (hdrB sub 204 ((2+xn / 4:Nat):Int)).length - 4 - 4 - xn=0 by show 12+xn - 4 - 4 - 4 - xn=0;omega] at H
 have e9:wz ([]++hdrB sub 204 ((2+xn / 4:Nat):Int)++b32 s++sbs nm++xs) 0=wrApp sub s nm xs:=by
  unfold wrApp wz
  rw [hxl]
  simp
 rw [e9] at H
 have l9:(wrApp sub s nm xs).length=12+xn:=by
  rw [<-e9,wz_len,ae,hpl,hxl]
  omega
 exact MPost.blk H ((sc1).trans (sc1)) (fun r h=>mt h) l9.symm (by unfold maxLen;omega)
def metN:Met->Int
 | (a,b,c)=>(if a then 1 else 0)*32768+b*8192+c
def wMet (x:Met):List Int:=b16 (metN x)
theorem wMet_len (x:Met):(wMet x).length=2:=rfl
def MetR (x:Met):Prop:=(0<=x.2.1/\x.2.1 < 4)/\0<=x.2.2/\x.2.2 < 8192
theorem c197 (H:Sat F w ex ro) {a:Bool} {b c:Int} (hR:MetR (a,b,c)) :
  Calls pg 197 #[.agg #[.bool a,.int .u8 b,.int .u16 c]] w (MPost F ex ro (wMet (a,b,c))):=by
 obtain ⟨hb,hc⟩:(0<=b/\b < 4)/\0<=c/\c < 8192:=hR
 apply of197
 refine sNew H ?_;clear H;intro b1 w _ H
 refine sMk H (e:=5) (z:=.int .u8 0) (bytes:=1) (by kernel_rfl) (by kernel_rfl) (by rfl) (by unfold maxLen;omega) (by omega) (n:=2) (by rfl) (by rfl) ?_
 clear H;intro g w _ H
 rw [u8s_z] at H
 replace H:Sat F w (.blk g 5 (u8s (wz [] 2))::.blk b1 281 [.bool a,.int .u8 b,.int .u16 c]::ex) ro:=H
 refine ⟨_,(H.b1.at0 rfl),?_⟩
 have tail:∀(r:Int) (w:World),r=0\/r=1->Sat F w (.blk g 5 (u8s (wz [] 2))::.blk b1 281 [.bool a,.int .u8 b,.int .u16 c]::ex) ro->metN (a,b,c)=r*32768+b*8192+c ->
   Calls pg 89 #[.slice (some ⟨g,0,none⟩) 2 2,.int .u16 (r*2 ^ 15+b*2 ^ 13+c*2 ^ 0)] w fun en w'=>en=.returned (.tuple #[])/\MPost F ex ro (wMet (a,b,c)) (.returned (.tuple #[.slice (some ⟨g,0,none⟩) 2 2,.nilIface])) w':=by
  intro r w hr H e
  have e2:r*2 ^ 15+b*2 ^ 13+c*2 ^ 0=metN (a,b,c):=by rw [e];omega
  rw [e2]
  refine (put16 H rfl (by rw [e];omega) (by decide) (by decide)).mono ?_
  rintro _ w ⟨rfl,H⟩
  exact ⟨rfl,MPost.blk (bs:=wMet (a,b,c)) H (sc1) (fun _ h=>h) rfl (by decide)⟩
 refine ⟨fun ha=>?_,fun ha=>?_⟩
 ·have eN:metN (a,b,c)=1*32768+b*8192+c:=by simp [metN,ha]
  refine call_j (c199 (src:=0) (val:=1) (q:=0) (size:=1) (start:=0) 15 (m:=2) (by decide) (.inl ⟨rfl,rfl⟩) (by decide) (by decide) (by decide) (by decide)) ?_
  rintro _ w ⟨rfl,g1⟩
  replace H:=H.grow g1;clear g1
  refine ⟨_,_,rfl,?_⟩
  refine ⟨by simp [isIf],fun h=>absurd h (by decide),fun _=>?_⟩
  refine ⟨_,(H.b1.at0 rfl),?_⟩
  rw [wu16,show b % 65536=b by omega]
  refine call_j (c199 (src:=0+1*2 ^ 15) (val:=b) (q:=1) (size:=2) (start:=1) 13 (m:=4) (by decide) (.inr (.inl ⟨rfl,rfl⟩)) (by decide) (by decide) (by decide) (by omega)) ?_
  rintro _ w ⟨rfl,g1⟩
  replace H:=H.grow g1;clear g1
  refine ⟨_,_,rfl,?_⟩
  refine ⟨by simp [isIf],fun h=>absurd h (by decide),fun _=>?_⟩
  refine ⟨_,(H.b1.at0 rfl),?_⟩
  refine call_j (c199 (src:=0+1*2 ^ 15+b*2 ^ 13) (val:=c) (q:=4+b) (size:=13) (start:=3) 0 (m:=8192) (by decide) (.inr (.inr ⟨rfl,rfl⟩)) (by decide) (by omega) (by omega) (by omega)) ?_
  rintro _ w ⟨rfl,g1⟩
  replace H:=H.grow g1;clear g1
  refine ⟨_,_,rfl,?_⟩
  refine ⟨by simp [isIf],fun h=>absurd h (by decide),fun _=>?_⟩
  have h9:=tail 1 w (.inr rfl) H eN
  rw [show (1:Int)*2 ^ 15+b*2 ^ 13+c*2 ^ 0=0+1*2 ^ 15+b*2 ^ 13+c*2 ^ 0 by omega] at h9
  exact h9
 ·have eN:metN (a,b,c)=0*32768+b*8192+c:=by simp [metN,ha]
  refine call_j (c199 (src:=0) (val:=0) (q:=0) (size:=1) (start:=0) 15 (m:=2) (by decide) (.inl ⟨rfl,rfl⟩) (by decide) (by decide) (by decide) (by decide)) ?_
  rintro _ w ⟨rfl,g1⟩
  replace H:=H.grow g1;clear g1
  refine ⟨_,_,rfl,?_⟩
  refine ⟨by simp [isIf],fun h=>absurd h (by decide),fun _=>?_⟩
  refine ⟨_,(H.b1.at0 rfl),?_⟩
  rw [wu16,show b % 65536=b by omega]
  refine call_j (c199 (src:=0+0*2 ^ 15) (val:=b) (q:=0) (size:=2) (start:=1) 13 (m:=4) (by decide) (.inr (.inl ⟨rfl,rfl⟩)) (by decide) (by decide) (by decide) (by omega)) ?_
  rintro _ w ⟨rfl,g1⟩
  replace H:=H.grow g1;clear g1
  refine ⟨_,_,rfl,?_⟩
  refine ⟨by simp [isIf],fun h=>absurd h (by decide),fun _=>?_⟩
  refine ⟨_,(H.b1.at0 rfl),?_⟩
  refine call_j (c199 (src:=0+0*2 ^ 15+b*2 ^ 13) (val:=c) (q:=b) (size:=13) (start:=3) 0 (m:=8192) (by decide) (.inr (.inr ⟨rfl,rfl⟩)) (by decide) (by omega) (by omega) (by omega)) ?_
  rintro _ w ⟨rfl,g1⟩
  replace H:=H.grow g1;clear g1
  refine ⟨_,_,rfl,?_⟩
  refine ⟨by simp [isIf],fun h=>absurd h (by decide),fun _=>?_⟩
  have h9:=tail 0 w (.inl rfl) H eN
  rw [show (0:Int)*2 ^ 15+b*2 ^ 13+c*2 ^ 0=0+0*2 ^ 15+b*2 ^ 13+c*2 ^ 0 by omega] at h9
  exact h9
def wBlo:Blo->List Int
 | (a,b,l)=>b32 a++b16 b++b16 (l.length:Int)++l.flatMap wMet++List.replicate (2*(l.length % 2)) 0
def bLen (n:Nat):Nat:=8+2*(n+n % 2)
theorem wBlo_len (x:Blo):(wBlo x).length=bLen x.2.2.length:=by
 obtain ⟨a,b,l⟩:=x
 simp only [wBlo,ae,b32_len,b16_len,flat_bd wMet_len,bi,bLen]
 omega
def BloR (x:Blo):Prop:=u32R x.1/\(0<=x.2.1/\x.2.1 < 65536)/\x.2.2.length<=16384/\∀m∈x.2.2,MetR m
theorem c194 {b:Int} {l:List Met} {o:Option Addr} {oc:Nat} (H:Sat F w ex ro) (hl:Ro.deep [.row 3 (l.flatMap Met.dat)] [.slice o l.length oc]∈ro) (hR:BloR (s,b,l)) :
  Calls pg 194 #[.agg #[.int .u32 s,.int .u16 b,.slice o l.length oc]] w (MPost F ex ro (wBlo (s,b,l))):=by
 obtain ⟨hs,hb,hn,hM⟩:u32R s/\(0<=b/\b < 65536)/\l.length<=16384/\∀m∈l,MetR m:=hR
 apply of194
 refine sNew H ?_;clear H;intro b1 w _ H
 refine ⟨_,_,_,(H.b0.at0 rfl),?_⟩
 refine ⟨fun h=>by rw [ah] at h;omega,fun _=>?_⟩
 refine call_j (c195 H (by omega)) ?_
 clear H;rintro _ w ⟨rfl,H⟩
 refine ⟨_,rfl,?_⟩
 obtain ⟨N,hN⟩:∃N,N=8+2*(l.length+l.length % 2):=⟨_,rfl⟩
 rw [<-hN]
 refine sMk H (e:=5) (z:=.int .u8 0) (bytes:=1) (by kernel_rfl) (by kernel_rfl) (by rfl) (by unfold maxLen;omega) (by omega) (n:=N) (by rfl) (by rfl) ?_
 clear H;intro g w _ H
 rw [u8s_z] at H
 replace H:Sat F w (.blk g 5 (u8s (wz [] N))::.blk b1 278 [.int .u32 s,.int .u16 b,.slice o l.length oc]::ex) ro:=H
 refine ⟨by omega,by omega,?_⟩
 replace H:=H.drew;generalize w.drew=w at H ⊢
 refine ⟨_,(H.b1.at0 rfl),?_⟩
 rw [cutW (b:=g) (o:=0) (l:=0) (q:=0) (by omega) rfl]
 refine call_j (put32 H (by rfl) hs (by omega) (by omega)) ?_
 clear H;rintro _ w ⟨rfl,H⟩
 refine ⟨rfl,?_⟩
 refine ⟨by omega,by omega,?_⟩
 replace H:=H.drew;generalize w.drew=w at H ⊢
 refine ⟨_,(H.b1.at0 rfl),?_⟩
 rw [cutW (b:=g) (o:=0) (l:=4) (q:=4) (by omega) rfl]
 refine call_j (put16 H (by rfl) hb (by omega) (by omega)) ?_
 clear H;rintro _ w ⟨rfl,H⟩
 refine ⟨rfl,?_⟩
 refine ⟨_,_,_,(H.b1.at0 rfl),?_⟩
 refine ⟨by omega,by omega,?_⟩
 rw [cutW (b:=g) (o:=0) (l:=6) (q:=6) (by omega) rfl,wu16,show (l.length:Int) % 65536=l.length by omega]
 refine call_j (put16 H (by rfl) (by omega) (by omega) (by omega)) ?_
 clear H;rintro _ w ⟨rfl,H⟩
 refine ⟨rfl,?_⟩
 refine ⟨_,_,_,(H.b1.at0 rfl),?_⟩
 obtain ⟨P,hP⟩:∃P,P=b32 s++b16 b++b16 (l.length:Int):=⟨_,rfl⟩
 have hPl:P.length=8:=by rw [hP];rfl
 have H0:Sat F w (.blk g 5 (u8s (wz P (N - 8)))::.blk b1 278 [.int .u32 s,.int .u16 b,.slice o l.length oc]::ex) ro:=by
  rw [hP,show N - 8=N - 4 - 2 - 2 by omega]
  exact H
 clear H
 refine ⟨fun i q w=>∃j:Nat,i=(j:Int)/\j+q=l.length/\∃ro',(∀r∈ro,r∈ro')/\Sat F w (.blk g 5 (u8s (wz (P++(l.take j).flatMap wMet) (N - 8 - 2*j)))::.blk b1 278 [.int .u32 s,.int .u16 b,.slice o l.length oc]::ex) ro',
  ⟨l.length,0,rfl,by omega,ro,fun _ h=>h,by simpa using H0⟩,?_⟩
 clear H0;rintro dd i q w ⟨j,rfl,hjq,ro',hr,H⟩
 have hBl:(P++(l.take j).flatMap wMet).length=8+2*j:=by
  rw [ae,hPl,flat_bd wMet_len,bq]
  omega
 refine ⟨fun hc=>?_,fun hc=>?_⟩
 ·rw [ah] at hc
  have hjl:j < l.length:=by omega
  have htk:l.take (j+1)=l.take j++[l[j]]:=by rw [am,ai hjl];rfl
  have hRj:=hM l[j] (ax hjl)
  obtain ⟨p,us,e,hus,hcell,H1⟩:=H.eltF Met.dat_len' (by decide) (hr _ hl) (j:=j) hjl
  generalize l[j]=E at H1 htk hRj
  obtain ⟨e0,e1,e2⟩:=E
  obtain rfl:=H1.ones (us:=[.bool e0,.int .u8 e1,.int .u16 e2]) ms
  clear H1
  refine ⟨p,e,by omega,by omega,?_⟩
  refine ⟨_,_,_,LdC [.bool e0,.int .u8 e1,.int .u16 e2] (by kernel_rfl) (by rw [show (j:Int).toNat*3=j*3 by omega];exact hcell),?_⟩
  clear hcell
  refine sNew H ?_;clear H;intro b27 w _ H
  refine sSw0 H (h:=?_);clear H;intro w _ H
  refine ⟨_,_,_,H.b0.ld,?_⟩
  refine call_j (c197 H hRj) ?_
  clear H;rintro _ w ⟨da,dcz,ro2,rfl,hr2,H,hd⟩
  refine ⟨_,_,_,_,rfl,?_⟩
  refine ⟨by simp [isIf],?_⟩
  refine fF ?_
  rw [wi64_of (n:=(j:Int)*2) (by omega) (by omega),wi64_of (n:=8+(j:Int)*2) (by omega) (by omega),show (8+(j:Int)*2).toNat=8+2*j by omega]
  refine ⟨by omega,by omega,?_⟩
  rw [cutW (b:=g) (l:=8+2*j) (q:=8+2*j) (by omega) (by omega)]
  refine sCpW H.r1 hd (by rw [wMet_len];decide) hBl.symm (by rw [wMet_len];omega) (by rw [wMet_len];omega) ?_
  clear H;intro w _ H
  refine ⟨q - 1,by omega,j+1,by rw [wi64_of (by omega) (by omega)];simp,by omega,ro2,fun r h=>hr2 r (hr r h),?_⟩
  rw [htk,aj]
  simp only [fm1,fm2,fm3]
  rw [wMet_len,an,show N - 8 - 2*j - 2=N - 8 - 2*(j+1) by omega] at H
  exact H.dr
 ·rw [af] at hc
  obtain rfl:j=l.length:=by omega
  rw [ao] at H
  rw [wz_pad _ (2*(l.length % 2)) (by omega),show N - 8 - 2*l.length - 2*(l.length % 2)=0 by omega,hP] at H
  have e9:wz (b32 s++b16 b++b16 (l.length:Int)++l.flatMap wMet++List.replicate (2*(l.length % 2)) 0) 0=wBlo (s,b,l):=by simp [wz,wBlo]
  rw [e9] at H
  exact MPost.blk H (sc1) (fun r h=>hr r h) (by rw [wBlo_len];exact hN) (by unfold maxLen;omega)
theorem Sat.blo {L:List Blo} (H:Sat F w ex ro) (hl:Ro.deep [.row 3 (L.flatMap Blo.dat)] [.slice l L.length k]∈ro) (hj:j < L.length) {d0 d1:Int} {msz:List Met} (hE:L[j]=(d0,d1,msz)) :
  ∃p sa sc,l=some p/\LdV pg 278 (p.add ((j:Int).toNat*3)) (.agg #[.int .u32 d0,.int .u16 d1,.slice sa msz.length sc]) w/\Sat F w ex (.deep [.row 3 (msz.flatMap Met.dat)] [.slice sa msz.length sc]::ro):=by
 obtain ⟨p,us,e,hus,hcell,H1⟩:=H.eltF Blo.dat_len' (by decide) hl (j:=j) hj
 rw [hE] at H1
 obtain ⟨x0,us0,rfl,H2⟩:=H1.uncons ms
 obtain ⟨x1,us1,rfl,H3⟩:=H2.uncons (mt ms)
 obtain ⟨x2,us2,rfl,H4⟩:=H3.uncons (mt ms)
 obtain rfl:us2=[]:=by simpa using hus
 obtain rfl:=H2.one1 ms
 obtain rfl:=H3.one1 ms
 obtain ⟨sa,sn,sc,rfl,hsl⟩:=H4.rowS ms
 rw [flat_len Met.dat_len'] at hsl
 obtain rfl:sn=msz.length:=by omega
 refine ⟨p,sa,sc,e,LdC [.int .u32 d0,.int .u16 d1,.slice sa msz.length sc] (by kernel_rfl) (by rw [show (j:Int).toNat*3=j*3 by omega];exact hcell),?_⟩
 exact H4.sub (ak _) (fun r h=>by
  rcases aI.1 h with rfl | h
  ·exact ms
  ·simp [h])
theorem c191 {L:List Blo} (H:Sat F w ex ro) (hb:Ex.blk b T cells∈ex) (h0:cells[1]?=some (.slice l L.length k))
  (hl:Ro.deep [.row 3 (L.flatMap Blo.dat)] [.slice l L.length k]∈ro) (hn:L.length<=100000) (hN:(L.flatMap wBlo).length<=500000) (hm:∀y∈L,y.2.2.length<=65535) :
  Calls pg 191 #[.pointer (some ⟨b,0,none⟩)] w fun en w'=>en=.returned (.int .i64 ((12+(L.flatMap wBlo).length:Nat):Int))/\Sat F w' ex ro:=by
 apply of191
 refine ⟨_,rfl,?_⟩
 refine ⟨_,_,_,(H.bm hb).cell h0,?_⟩
 refine ⟨fun a i q w=>∃(j:Nat),a=(((L.take j).flatMap wBlo).length:Int)/\i=(j:Int)/\j+q=L.length/\Sat F w ex ro,⟨L.length,0,rfl,rfl,by omega,H⟩,?_⟩
 clear H;rintro dd a i q w ⟨j,rfl,rfl,hjq,H⟩
 refine ⟨fun hc=>?_,fun hc=>?_⟩
 ·rw [ah] at hc
  have hjl:j < L.length:=by omega
  have htk:L.take (j+1)=L.take j++[L[j]]:=by rw [am,ai hjl];rfl
  have hat:=flat_at (f:=wBlo) hjl
  have hmj:=hm L[j] (ax hjl)
  obtain ⟨⟨d0,d1,msz⟩,hE⟩:∃E,L[j]=E:=⟨_,rfl⟩
  rw [hE] at htk hat hmj
  replace hmj:msz.length<=65535:=hmj
  have hwl:(wBlo (d0,d1,msz)).length=8+2*(msz.length+msz.length % 2):=wBlo_len (d0,d1,msz)
  obtain ⟨p,sa,sc,e,hld,H1⟩:=H.blo hl hjl hE
  refine ⟨p,e,by omega,by omega,?_⟩
  refine ⟨_,_,_,_,_,hld,?_⟩
  clear H hld
  have H:=H1
  clear H1
  refine sNew H ?_;clear H;intro b14 w _ H
  refine sSw0 H (h:=?_);clear H;intro w _ H
  refine call_j (c195 H (by omega)) ?_
  clear H;rintro _ w ⟨rfl,H⟩
  refine ⟨_,rfl,?_⟩
  refine ⟨q - 1,by omega,j+1,?_,?_,by omega,H.sub (sc1) (fun r h=>mt h)⟩
  ·rw [wi64_of (by omega) (by omega),htk,aj,ae]
   simp only [fm1,fm2,fm3]
   omega
  ·rw [wi64_of (by omega) (by omega)];simp
 ·rw [af] at hc
  obtain rfl:j=L.length:=by omega
  rw [ao]
  refine ⟨?_,H⟩
  rw [wi64_of (n:=8+((L.flatMap wBlo).length:Int)) (by omega) (by omega),wi64_of (by omega) (by omega)]
  congr 2
  omega
theorem c193 {L:List Blo} (H:Sat F w ex ro) (hb:Ex.blk b T cells∈ex) (h0:cells[1]?=some (.slice l L.length k))
  (hl:Ro.deep [.row 3 (L.flatMap Blo.dat)] [.slice l L.length k]∈ro) (hn:L.length<=100000) (hN:(L.flatMap wBlo).length<=262132) (hm:∀y∈L,y.2.2.length<=65535) :
  Calls pg 193 #[.pointer (some ⟨b,0,none⟩)] w fun en w'=>en=.returned (.agg #[.bool false,.int .u8 11,.int .u8 205,.int .u16 (((12+(L.flatMap wBlo).length) / 4 - 1:Nat):Int)])/\Sat F w' ex ro:=by
 apply of193
 refine sNew H ?_;clear H;intro b9 w _ H
 refine call_j (c191 H (mt hb) h0 hl hn (by omega) hm) ?_
 clear H;rintro _ w ⟨rfl,H⟩
 refine ⟨_,rfl,?_⟩
 refine ⟨by decide,?_⟩
 generalize (L.flatMap wBlo).length=N at hN ⊢
 rw [aY (by omega),wi64_of (n:=((12+N:Nat):Int) / 4) (by omega) (by omega),wi64_of (n:=((12+N:Nat):Int) / 4 - 1) (by omega) (by omega),wu16,
  show (((12+N:Nat):Int) / 4 - 1) % 65536=(((12+N) / 4 - 1:Nat):Int) by omega]
 refine sSw0 H (h:=?_);clear H;intro w _ H
 refine ⟨_,_,_,_,H.b0.ld,?_⟩
 exact ⟨rfl,H.d1⟩
def wrCc (s:Int) (L:List Blo) (t:Int):List Int:=hdrB 11 205 (((12+(L.flatMap wBlo).length) / 4 - 1:Nat):Int)++(b32 s++L.flatMap wBlo++b32 t)
theorem c190 {t:Int} {L:List Blo} (H:Sat F w ex ro) (hs:u32R s) (ht:u32R t) (hl:Ro.deep [.row 3 (L.flatMap Blo.dat)] [.slice l L.length k]∈ro) (hn:L.length<=100000) (hN:(L.flatMap wBlo).length<=262132) (hR:∀y∈L,BloR y) :
  Calls pg 190 #[.agg #[.int .u32 s,.slice l L.length k,.int .u32 t]] w (MPost F ex ro (wrCc s L t)):=by
 have hm:∀y∈L,y.2.2.length<=65535:=fun y hy=>by have:=(hR y hy).2.2.1;omega
 apply of190
 refine sNew H ?_;clear H;intro b1 w _ H
 refine call_j (c191 H ms rfl hl hn (by omega) hm) ?_
 clear H;rintro _ w ⟨rfl,H⟩
 refine ⟨_,rfl,?_⟩
 refine ⟨by decide,?_⟩
 obtain ⟨N,hNe⟩:∃N,N=12+(L.flatMap wBlo).length:=⟨_,rfl⟩
 rw [<-hNe]
 rw [aY (by omega),wi64_of (n:=(N:Int) / 4) (by omega) (by omega),wi64_of (n:=(N:Int) / 4 - 1) (by omega) (by omega)]
 refine ⟨fun h=>by rw [ah] at h;omega,fun _=>?_⟩
 refine ⟨fun h=>by rw [ah] at h;omega,fun _=>?_⟩
 refine call_j (c193 H ms rfl hl hn hN hm) ?_
 clear H;rintro _ w ⟨rfl,H⟩
 refine ⟨_,_,_,_,rfl,?_⟩
 refine sNew H ?_;clear H;intro b12 w _ H
 refine sSw0 H (h:=?_);clear H;intro w _ H
 refine ⟨_,_,_,_,H.b0.ld,?_⟩
 refine call_j (hdrM H (by decide) (by decide) (by omega)) ?_
 clear H;rintro _ w ⟨g2,rfl,H⟩
 refine ⟨_,_,_,_,rfl,?_⟩
 refine ⟨by simp [isIf],?_⟩
 refine fF ?_
 refine sMk H (e:=5) (z:=.int .u8 0) (bytes:=1) (by kernel_rfl) (by kernel_rfl) (by rfl) (by unfold maxLen;omega) (by omega) (n:=N) (by rfl) (by rfl) ?_
 clear H;intro g w _ H
 rw [u8s_z] at H
 replace H:Sat F w (.blk g 5 (u8s (wz [] N))::_) _:=H
 refine ⟨by omega,by omega,?_⟩
 rw [cutW (b:=g) (o:=0) (l:=0) (q:=0) (by omega) rfl]
 refine sCpW H ms (by decide) (by rfl) (by decide) (by show 4<=N;omega) ?_
 clear H;intro w _ H
 refine ⟨by omega,by omega,?_⟩
 replace H:=H.drew;generalize w.drew=w at H ⊢
 refine ⟨_,(H.b2.at0 rfl),?_⟩
 rw [cutW (b:=g) (o:=0) (l:=4) (q:=4) (by omega) rfl]
 refine call_j (put32 H (by rfl) hs (by omega) (by show 4<=N - 4;omega)) ?_
 clear H;rintro _ w ⟨rfl,H⟩
 refine ⟨rfl,?_⟩
 refine ⟨_,_,_,(H.b2.at0 rfl),?_⟩
 obtain ⟨P,hP⟩:∃P,P=hdrB 11 205 (((12+(L.flatMap wBlo).length) / 4 - 1:Nat):Int)++b32 s:=⟨_,rfl⟩
 have hPl:P.length=8:=by rw [hP];rfl
 have H0:Sat F w (.blk g 5 (u8s (wz P (N - 8)))::.blk b1 221 [.int .u32 s,.slice l L.length k,.int .u32 t]::ex) ro:=by
  rw [hP,show N - 8=N - 4 - 4 by omega]
  exact H.sub (List.Sublist.cons_cons _ (sc1)) (fun r h=>mt h)
 clear H
 refine ⟨fun off i q w=>∃j:Nat,off=((8+((L.take j).flatMap wBlo).length:Nat):Int)/\i=(j:Int)/\j+q=L.length/\∃ro',(∀r∈ro,r∈ro')/\Sat F w (.blk g 5 (u8s (wz (P++(L.take j).flatMap wBlo) (N - 8 - ((L.take j).flatMap wBlo).length)))::.blk b1 221 [.int .u32 s,.slice l L.length k,.int .u32 t]::ex) ro',
  ⟨L.length,0,rfl,rfl,by omega,ro,fun r h=>h,by simpa using H0⟩,?_⟩
 clear H0;rintro dd off i q w ⟨j,rfl,rfl,hjq,ro',hr,H⟩
 have hpre:=flat_take (f:=wBlo) L j
 have hBl:(P++(L.take j).flatMap wBlo).length=8+((L.take j).flatMap wBlo).length:=by rw [ae,hPl]
 refine ⟨fun hc=>?_,fun hc=>?_⟩
 ·rw [ah] at hc
  have hjl:j < L.length:=by omega
  have htk:L.take (j+1)=L.take j++[L[j]]:=by rw [am,ai hjl];rfl
  have hat:=flat_at (f:=wBlo) hjl
  have hRj:=hR L[j] (ax hjl)
  have hmj:=hm L[j] (ax hjl)
  obtain ⟨⟨d0,d1,msz⟩,hE⟩:∃E,L[j]=E:=⟨_,rfl⟩
  rw [hE] at htk hat hRj hmj
  replace hmj:msz.length<=65535:=hmj
  have hwl:(wBlo (d0,d1,msz)).length=8+2*(msz.length+msz.length % 2):=wBlo_len (d0,d1,msz)
  obtain ⟨p,sa,sc,e,hld,H1⟩:=H.blo (hr _ hl) hjl hE
  refine ⟨p,e,by omega,by omega,?_⟩
  refine ⟨_,_,_,_,_,hld,?_⟩
  clear H hld
  have H:=H1
  clear H1
  refine sNew H ?_;clear H;intro b41 w _ H
  refine sSw0 H (h:=?_);clear H;intro w _ H
  refine ⟨_,_,_,_,_,H.b0.ld,?_⟩
  refine call_j (c194 H ms hRj) ?_
  clear H;rintro _ w ⟨da,dcz,ro2,rfl,hr2,H,hd⟩
  refine ⟨_,_,_,_,rfl,?_⟩
  refine ⟨by simp [isIf],?_⟩
  refine fF ?_
  rw [au]
  refine ⟨by omega,by omega,?_⟩
  rw [cutW (b:=g) (l:=8+((L.take j).flatMap wBlo).length) (q:=8+((L.take j).flatMap wBlo).length) (by omega) (by omega)]
  refine sCpW H.r1 hd (by omega) hBl.symm (by omega) (by omega) ?_
  clear H;intro w _ H
  refine call_j (c195 H.r1 (by omega)) ?_
  clear H;rintro _ w ⟨rfl,H⟩
  refine ⟨_,rfl,?_⟩
  refine ⟨q - 1,by omega,j+1,?_,by rw [wi64_of (by omega) (by omega)];simp,by omega,ro2,fun r h=>hr2 r (mt (hr r h)),?_⟩
  ·rw [wi64_of (by omega) (by omega),htk,aj,ae]
   simp only [fm1,fm2,fm3]
   omega
  ·rw [htk,aj,ae]
   simp only [fm1,fm2,fm3]
   rw [an] at H
   rw [show N - 8 - (((L.take j).flatMap wBlo).length+(wBlo (d0,d1,msz)).length)=N - 8 - ((L.take j).flatMap wBlo).length - (wBlo (d0,d1,msz)).length by omega]
   exact H.dr
 ·rw [af] at hc
  obtain rfl:j=L.length:=by omega
  rw [ao] at H hBl ⊢
  rw [au]
  refine ⟨by omega,by omega,?_⟩
  replace H:=H.drew;generalize w.drew=w at H ⊢
  refine ⟨_,(H.b1.at0 rfl),?_⟩
  rw [cutW (b:=g) (l:=8+(L.flatMap wBlo).length) (q:=8+(L.flatMap wBlo).length) (by omega) (by omega)]
  refine call_j (put32 H hBl.symm ht (by omega) (by omega)) ?_
  clear H;rintro _ w ⟨rfl,H⟩
  refine ⟨rfl,?_⟩
  rw [show N - 8 - (L.flatMap wBlo).length - 4=0 by omega,hP] at H
  have e9:wz (hdrB 11 205 (((12+(L.flatMap wBlo).length) / 4 - 1:Nat):Int)++b32 s++L.flatMap wBlo++b32 t) 0=wrCc s L t:=by simp [wz,wrCc]
  rw [e9] at H
  have l9:(wrCc s L t).length=N:=by
   unfold wrCc
   rw [ae,ae,ae,hNe]
   show 4+(4+_+4)=_
   omega
  exact MPost.blk H (sc1) (fun r h=>hr r h) l9.symm (by unfold maxLen;omega)
theorem sgl_read (h0:0 < m) (h1:m < 262144) (hi:i<=64):Ieee.single.read (sgl m i)=.number false (m*2 ^ (23 - m.log2)) ((i:Int)+m.log2 - 23):=by
 obtain ⟨hl,h2,h3⟩:=norm_range (k:=23) h0 h1 (by omega)
 have hs:Ieee.single.signWeight=2147483648:=by decide
 have hb:Ieee.single.binade=8388608:=by decide
 have hI:Ieee.single.infRung=2139095040:=by decide
 have hp:Ieee.single.leastPlace=-149:=by decide
 unfold sgl
 generalize hN:m*2 ^ (23 - m.log2)=N at h2 h3
 generalize m.log2=L at hl
 simp only [Nat.reducePow,Nat.reduceAdd] at h2 h3
 rw [read_normal _ _ (by rw [hs];omega) (by rw [hb];omega) (by rw [hI];omega),hb,hp]
 congr 1
 ·omega
 ·omega
theorem ord_pos {N:Nat} {p q:Int} (a b:Nat) (h:(p - min p q).toNat=a) (h':(q - min p q).toNat=b):Ieee.Datum.order (.number false M p) (.number false N q)=some (compare ((M*2 ^ a:Nat):Int) ((N*2 ^ b:Nat):Int)):=by
 simp only [Ieee.Datum.order,Ieee.signed,be,bO,h,h',Nat.shiftLeft_eq]
theorem cmp_lt {y:Int} (h:x < y):compare x y=.lt:=by rw [Int.compare_eq_lt];exact h
theorem cmp_gt {y:Int} (h:y < x):compare x y=.gt:=by rw [Int.compare_eq_gt];exact h
theorem cmp_eq {y:Int} (h:x=y):compare x y=.eq:=by rw [Int.compare_eq_eq];exact h
theorem ord_pow {p q:Int} (h0:2 ^ k<=M) (h1:M < 2 ^ (k+1)):(Ieee.Datum.order (.number false M p) (.number false (2 ^ k) q)=some .lt/\p < q)\/((Ieee.Datum.order (.number false M p) (.number false (2 ^ k) q)=some .gt\/Ieee.Datum.order (.number false M p) (.number false (2 ^ k) q)=some .eq)/\q<=p):=by
 rcases Int.lt_or_le p q with h | h
 ·left
  refine ⟨?_,h⟩
  obtain ⟨d,hd⟩:∃d:Nat,(q - p).toNat=d+1:=⟨(q - p).toNat - 1,by omega⟩
  rw [ord_pos 0 (d+1) (by omega) (by omega),cmp_lt]
  have:2 ^ (k+1)<=2 ^ k*2 ^ (d+1):=by
   rw [<-bS];exact bR (by decide) (by omega)
  omega
 ·right
  refine ⟨?_,h⟩
  rw [ord_pos (p - q).toNat 0 (by omega) (by omega),Nat.pow_zero,bd]
  have:M*1<=M*2 ^ (p - q).toNat:=Nat.mul_le_mul_left _ (aR _)
  rcases Nat.lt_or_ge (2 ^ k) (M*2 ^ (p - q).toNat) with h2 | h2
  ·left;rw [cmp_gt (by omega)]
  ·right;rw [cmp_eq (by omega)]
theorem sgl_big (h0:0 < m) (h1:m < 262144) (hi:i<=63):(Ieee.single.order (sgl m i) 1216348160 == some .gt || Ieee.single.order (sgl m i) 1216348160 == some .eq)=decide (18<=i+m.log2):=by
 obtain ⟨hl,h2,h3⟩:=norm_range (k:=23) h0 h1 (by omega)
 have hr:Ieee.single.read 1216348160=.number false (2 ^ 23) (-5):=by decide +kernel
 unfold Ieee.Format.order
 rw [sgl_read h0 h1 (by omega),hr]
 rcases ord_pow (p:=(i:Int)+m.log2 - 23) (q:=-5) h2 h3 with ⟨e,h⟩ | ⟨e,h⟩
 ·rw [e,decide_eq_false (by omega)];rfl
 ·rw [decide_eq_true (by omega)]
  rcases e with e | e<;>rw [e]<;>rfl
theorem dbl_big (h0:0 < m) (h1:m < 262144) (hi:i<=63):(Ieee.double.order (dbl m i) 4688247212092686336 == some .gt || Ieee.double.order (dbl m i) 4688247212092686336 == some .eq)=decide (18<=i+m.log2):=by
 obtain ⟨hl,h2,h3⟩:=norm_range (k:=52) h0 h1 (by omega)
 have hr:Ieee.double.read 4688247212092686336=.number false (2 ^ 52) (-34):=by decide +kernel
 unfold Ieee.Format.order
 rw [dbl_read h0 h1 (by omega),hr]
 rcases ord_pow (p:=(i:Int)+m.log2 - 52) (q:=-34) h2 h3 with ⟨e,h⟩ | ⟨e,h⟩
 ·rw [e,decide_eq_false (by omega)];rfl
 ·rw [decide_eq_true (by omega)]
  rcases e with e | e<;>rw [e]<;>rfl
theorem ord_zero {p q:Int} (h:0 < M):Ieee.Datum.order (.number false M p) (.number false 0 q)=some .gt:=by
 rw [ord_pos _ _ rfl rfl,cmp_gt]
 have:=aR (p - min p q).toNat
 have:=Nat.mul_pos h this
 simp only [Nat.zero_mul]
 omega
theorem sgl_pos (h0:0 < m) (h1:m < 262144) (hi:i<=63):(Ieee.single.order (sgl m i) 0 == some .lt)=false:=by
 have hr:Ieee.single.read 0=.number false 0 (-149):=by decide +kernel
 unfold Ieee.Format.order
 rw [sgl_read h0 h1 (by omega),hr,ord_zero (Nat.mul_pos h0 (aR _))]
 rfl
theorem sgl_max (h0:0 < m) (h1:m < 262144) (hi:i<=63) (h:(Ieee.single.order (sgl m i) 1744830400 == some .gt || Ieee.single.order (sgl m i) 1744830400 == some .eq)=true):sgl m i=1744830400:=by
 obtain ⟨hl,h2,h3⟩:=norm_range (k:=23) h0 h1 (by omega)
 have hr:Ieee.single.read 1744830400=.number false 16777152 57:=by decide +kernel
 unfold Ieee.Format.order at h
 rw [sgl_read h0 h1 (by omega),hr] at h
 have hN:m.log2=17->m*2 ^ (23 - m.log2)<=16777152:=by intro e;rw [e];omega
 unfold sgl
 generalize m*2 ^ (23 - m.log2)=N at h2 h3 h hN
 generalize m.log2=L at hl h hN
 simp only [Nat.reducePow,Nat.reduceAdd] at h2 h3
 have hlt:∀a b:Nat,((i:Int)+L - 23 - min ((i:Int)+L - 23) 57).toNat=a->((57:Int) - min ((i:Int)+L - 23) 57).toNat=b->¬((N*2 ^ a:Nat):Int) < ((16777152*2 ^ b:Nat):Int):=by
  intro a b ha hb hlt
  rw [ord_pos a b ha hb,cmp_lt hlt] at h
  cases h
 rcases Nat.lt_or_ge (i+L) 80 with hc | hc
 ·exfalso
  refine hlt 0 (80 - (i+L)) (by omega) (by omega) ?_
  obtain ⟨d,hd⟩:∃d:Nat,80 - (i+L)=d+1:=⟨80 - (i+L) - 1,by omega⟩
  rw [hd,Nat.pow_zero,bd,Nat.pow_succ]
  have:=aR d
  generalize 2 ^ d=D at this
  omega
 ·obtain rfl:L=17:=by omega
  obtain rfl:i=63:=by omega
  have:=hlt 0 0 (by omega) (by omega)
  have:=hN rfl
  omega
theorem quot_two (f:Ieee.Format) {N:Nat} {p q:Int} (h2:2 ^ k<=N) (h3:N < 2 ^ (k+1)) (hk:f.fractionBits=k):Ieee.Datum.quotient (f.fractionBits+2) (.number false N p) (.number false (2 ^ k) q)=some (.number false (N*8) (p - q - (k+2) - 1)):=by
 have hz:¬(2 ^ k=0):=by have:=aR k;omega
 unfold Ieee.Datum.quotient
 simp only [ap hz,Bool.xor_self]
 rw [hk,Nat.log2_two_pow,log2_of h2 h3,show k+2+k - k=k+2 by omega,Nat.shiftLeft_eq,bS,Nat.mul_comm (2 ^ k) (2 ^ 2),<-Nat.mul_assoc,Nat.mul_div_cancel _ (aR _),Nat.mul_mod_left]
 simp only [bne_self_eq_false,Bool.toNat_false]
 congr 2
 omega
theorem dbl_half (h0:0 < m) (h1:m < 262144) (hi:i<=63):floatBits .quo .f64 (dbl m (i+1)) 4611686018427387904=some (dbl m i):=by
 obtain ⟨hl,h2,h3⟩:=norm_range (k:=52) h0 h1 (by omega)
 change Ieee.double.div (dbl m (i+1)) 4611686018427387904=some (dbl m i)
 unfold Ieee.Format.div
 have two:Ieee.double.read 4611686018427387904=.number false (2 ^ 52) (-51):=by decide +kernel
 rw [dbl_read h0 h1 (by omega),two,quot_two Ieee.double h2 h3 rfl]
 simp only [aU,Ieee.Format.write]
 congr 1
 rw [nearest_exact Ieee.double _ 55 (m*2 ^ (52 - m.log2)) 3 0 _ (by have:=aR 52;omega) (log2_of (by simp only [Nat.reducePow] at h2 ⊢;omega) (by simp only [Nat.reducePow,Nat.reduceAdd] at h3 ⊢;omega))]
 ·simp only [dbl,Ieee.Format.leastPlace,Ieee.double,Ieee.Format.binade,Nat.reducePow,Nat.reduceSub,Int.reducePow,Int.reduceSub]
  congr 2
  omega
 ·simp only [Ieee.Format.leastPlace,Ieee.double,Nat.reducePow,Nat.reduceSub,Int.reducePow,Int.reduceSub];omega
 ·simp only [Ieee.double];omega
 ·simp only [Ieee.double];omega
 ·simp
 ·generalize hN:m*2 ^ (52 - m.log2)=N at h2 h3
  simp only [Ieee.Format.leastPlace,Ieee.double,Ieee.Format.binade,Ieee.Format.infRung,Nat.reducePow,Nat.reduceAdd,Nat.reduceMul,Nat.reduceSub,Int.reducePow,Int.reduceSub] at h3 ⊢
  omega
theorem sgl_half (h0:0 < m) (h1:m < 262144) (hi:i<=63):floatBits .quo .f32 (sgl m (i+1)) 1073741824=some (sgl m i):=by
 obtain ⟨hl,h2,h3⟩:=norm_range (k:=23) h0 h1 (by omega)
 change Ieee.single.div (sgl m (i+1)) 1073741824=some (sgl m i)
 unfold Ieee.Format.div
 have two:Ieee.single.read 1073741824=.number false (2 ^ 23) (-22):=by decide +kernel
 rw [sgl_read h0 h1 (by omega),two,quot_two Ieee.single h2 h3 rfl]
 simp only [aU,Ieee.Format.write]
 congr 1
 rw [nearest_exact Ieee.single _ 26 (m*2 ^ (23 - m.log2)) 3 0 _ (by have:=aR 23;omega) (log2_of (by simp only [Nat.reducePow] at h2 ⊢;omega) (by simp only [Nat.reducePow,Nat.reduceAdd] at h3 ⊢;omega))]
 ·simp only [sgl,Ieee.Format.leastPlace,Ieee.single,Ieee.Format.binade,Nat.reducePow,Nat.reduceSub,Int.reducePow,Int.reduceSub]
  congr 2
  omega
 ·simp only [Ieee.Format.leastPlace,Ieee.single,Nat.reducePow,Nat.reduceSub,Int.reducePow,Int.reduceSub];omega
 ·simp only [Ieee.single];omega
 ·simp only [Ieee.single];omega
 ·simp
 ·generalize hN:m*2 ^ (23 - m.log2)=N at h2 h3
  simp only [Ieee.Format.leastPlace,Ieee.single,Ieee.Format.binade,Ieee.Format.infRung,Nat.reducePow,Nat.reduceAdd,Nat.reduceMul,Nat.reduceSub,Int.reducePow,Int.reduceSub] at h3 ⊢
  omega
theorem log2_shift (h0:0 < m) (k:Nat):(m*2 ^ k).log2=m.log2+k:=by
 refine log2_of ?_ ?_
 ·rw [bS];exact Nat.mul_le_mul_right _ (Nat.log2_self_le (by omega))
 ·rw [show m.log2+k+1=m.log2+1+k by omega,bS];exact Nat.mul_lt_mul_of_pos_right Nat.lt_log2_self (aR _)
theorem dbl_shift (h0:0 < m) (k:Nat) (h:m.log2+k<=17):dbl m k=dbl (m*2 ^ k) 0:=by
 unfold dbl
 rw [log2_shift h0,Nat.mul_assoc,<-bS,show k+(52 - (m.log2+k))=52 - m.log2 by omega]
 congr 2
 omega
theorem small_of (h0:0 < m) (k:Nat) (h:m.log2+k<=17):0 < m*2 ^ k/\m*2 ^ k < 262144:=by
 refine ⟨Nat.mul_pos h0 (aR _),?_⟩
 have h1:m*2 ^ k≠0:=by have:=Nat.mul_pos h0 (aR k);omega
 have:=(Nat.log2_lt (k:=18) h1).1 (by rw [log2_shift h0];omega)
 omega
theorem dbl_of_sgl (h0:0 < m) (h1:m < 262144) (hi:i<=63):floatToFloatBits .f32 (sgl m i) .f64=some (dbl m i):=by
 obtain ⟨hl,h2,h3⟩:=norm_range (k:=23) h0 h1 (by omega)
 obtain ⟨_,h4,h5⟩:=norm_range (k:=52) h0 h1 (by omega)
 have hw:Ieee.double.nearest false (m*2 ^ (23 - m.log2)) ((i:Int)+m.log2 - 23)=dbl m i:=by
  rw [nearest_exact Ieee.double (m*2 ^ (23 - m.log2)) 23 (m*2 ^ (52 - m.log2)) 0 29 _ (by have:=aR 23;omega) (log2_of h2 h3)]
  ·simp only [dbl,Ieee.Format.leastPlace,Ieee.double,Ieee.Format.binade,Nat.reducePow,Nat.reduceSub,Int.reducePow,Int.reduceSub]
   congr 2
   omega
  ·simp only [Ieee.Format.leastPlace,Ieee.double,Nat.reducePow,Nat.reduceSub,Int.reducePow,Int.reduceSub];omega
  ·simp only [Ieee.double];omega
  ·simp only [Ieee.double];omega
  ·rw [Nat.pow_zero,bd];exact (pow_split (by omega) 29 (by omega)).symm
  ·generalize hN:m*2 ^ (52 - m.log2)=N at h4 h5
   simp only [Ieee.Format.leastPlace,Ieee.double,Ieee.Format.binade,Ieee.Format.infRung,Nat.reducePow,Nat.reduceAdd,Nat.reduceMul,Nat.reduceSub,Int.reducePow,Int.reduceSub] at h5 ⊢
   omega
 have e1:FloatKind.f32.decode (sgl m i)=.number false (m*2 ^ (23 - m.log2)) ((i:Int)+m.log2 - 23):=by
  unfold FloatKind.decode FloatKind.format;exact sgl_read h0 h1 (by omega)
 have e2:FloatKind.f64.encode (.number false (m*2 ^ (23 - m.log2)) ((i:Int)+m.log2 - 23))=dbl m i:=by
  unfold FloatKind.encode FloatKind.format;exact hw
 have e3:FloatKind.f64.decode (dbl m i)=.number false (m*2 ^ (52 - m.log2)) ((i:Int)+m.log2 - 52):=by
  unfold FloatKind.decode FloatKind.format;exact dbl_read h0 h1 (by omega)
 unfold floatToFloatBits
 rw [ap (by decide),e1]
 simp only
 rw [e2,e3]
 simp [Ieee.Datum.isInfinity]
theorem cut_whole (way:Ieee.Toward) (M d:Nat):way.cut false (M*2 ^ d) d=M+0\/way=.even:=by
 cases way
 ·exact Or.inr rfl
 all_goals
  left
  unfold Ieee.Toward.cut
  simp only [Nat.one_shiftLeft]
  rcases bL M with rfl | h0
  ·simp
  ·have hle:d<=(M*2 ^ d).log2+2:=by rw [log2_shift h0];omega
   rw [cd hle,Nat.mul_div_cancel _ (aR d)]
   (try rw [Nat.mul_mod_left])
   simp
theorem dbl_floor (h0:0 < M) (h1:M < 262144) (way:Ieee.Toward) (hw:way≠.even):(FloatKind.f64.decode (dbl M 0)).integral way=.number false M 0:=by
 obtain ⟨hl,h2,h3⟩:=norm_range (k:=52) h0 h1 (by omega)
 have e3:FloatKind.f64.decode (dbl M 0)=.number false (M*2 ^ (52 - M.log2)) (((0:Nat):Int)+M.log2 - 52):=by
  unfold FloatKind.decode FloatKind.format;exact dbl_read h0 h1 (by omega)
 rw [e3]
 unfold Ieee.Datum.integral
 simp only
 rw [show (((0:Nat):Int)+(M.log2:Int) - 52).toNat=0 by omega,show (-(((0:Nat):Int)+(M.log2:Int) - 52)).toNat=52 - M.log2 by omega,Nat.shiftLeft_zero]
 rcases cut_whole way M (52 - M.log2) with e | e
 ·rw [e,Nat.add_zero]
 ·exact absurd e hw
theorem toInt_of {d:Ieee.Datum} (h:d.integral .zero=.number false M 0):d.toInt .zero=some (M:Int):=by
 unfold Ieee.Datum.toInt
 rw [h]
 simp only [Ieee.signed,be,bO,Nat.shiftLeft_zero]
theorem val_of {s:FloatKind} {k:IntKind} {n:Int} (h:(s.decode b).toInt .zero=some n) (h1:k.min<=n/\n<=k.max):floatToIntVal s b k=some n:=by
 unfold floatToIntVal
 rw [h]
 simp only [aG h1]
theorem dbl_int (h0:0 < M) (h1:M < 262144) (k:IntKind) (hk:k=.u32\/k=.u64):floatToIntVal .f64 (dbl M 0) k=some (M:Int):=by
 refine val_of (toInt_of (dbl_floor h0 h1 .zero (by decide))) ?_
 have e1:u32.min=0/\u32.max=4294967295:=by decide
 have e2:u64.min=0/\u64.max=18446744073709551615:=by decide
 rcases hk with rfl | rfl<;>omega
def brE (b:Int):Int:=(b.toNat / 8388608 - 127 - 17:Nat)
def brM (b:Int):Int:=((b.toNat % 8388608+8388608) / 2 ^ (23 - min (b.toNat / 8388608 - 127) 17):Nat)
theorem br_sgl (h0:0 < m) (h1:m < 262144) (hj:j<=i) (hjl:j+m.log2<=17) (hji:j=i\/17<=j+m.log2):brE (sgl m i:Int)=(i:Int) - j/\brM (sgl m i:Int)=((m*2 ^ j:Nat):Int):=by
 obtain ⟨hl,h2,h3⟩:=norm_range (k:=23) h0 h1 (by omega)
 have e1:sgl m i / 8388608=i+m.log2+127:=by
  unfold sgl
  generalize m*2 ^ (23 - m.log2)=N at h2 h3
  simp only [Nat.reducePow,Nat.reduceAdd] at h2 h3
  omega
 have e2:sgl m i % 8388608+8388608=m*2 ^ (23 - m.log2):=by
  unfold sgl
  generalize m*2 ^ (23 - m.log2)=N at h2 h3
  simp only [Nat.reducePow,Nat.reduceAdd] at h2 h3
  omega
 unfold brE brM
 rw [au,e1,e2]
 refine ⟨by omega,?_⟩
 congr 1
 rw [show 23 - m.log2=j+(23 - min (i+m.log2+127 - 127) 17) by omega,bS,<-Nat.mul_assoc,Nat.mul_div_cancel _ (aR _)]
theorem run_geq {k:FloatKind} {a:Nat} {r:Bool} (h:(k.format.order a b == some .gt || k.format.order a b == some .eq)=r):(binOp .geq t (.float k a) (.float k b)).run pg w=.ok (.bool r) w:=by rw [binOp_float_cmp_geq,h];rfl
theorem run_lss {k:FloatKind} {a:Nat} {r:Bool} (h:(k.format.order a b == some .lt)=r):(binOp .lss t (.float k a) (.float k b)).run pg w=.ok (.bool r) w:=by rw [binOp_float_cmp_lss,h];rfl
theorem run_feq {k:FloatKind} {a:Nat} {r:Bool} (h:(k.format.order a b == some .eq)=r):(binOp .eql t (.float k a) (.float k b)).run pg w=.ok (.bool r) w:=by rw [binOp_float_cmp_eql,h];rfl
theorem run_fne {k:FloatKind} {a:Nat} {r:Bool} (h:(k.format.order a b != some .eq)=r):(binOp .neq t (.float k a) (.float k b)).run pg w=.ok (.bool r) w:=by rw [binOp_float_cmp_neq,h];rfl
theorem f32_f {a:Nat}:FloatKind.f32.format.order a b=Ieee.single.order a b:=by unfold FloatKind.format;rfl
theorem f64_f {a:Nat}:FloatKind.f64.format.order a b=Ieee.double.order a b:=by unfold FloatKind.format;rfl
theorem int_dbl (h0:0 < M) (h1:M < 262144):(convert 51 272 (.int .u32 (M:Int))).run pg w=.ok (.float .f64 (dbl M 0)) w:=by
 have:=dbl_of_int h0 h1
 simp only [convert,aL,aH uU32,aH uF64,aB,Conv.intToFloat,bv,FloatKind.nearest,FloatKind.encode,FloatKind.format,Ieee.Format.write,Int.natAbs_natCast]
 rw [show decide ((M:Int) < 0)=false by simp,this]
theorem sgl_small (h0:0 < m) (h1:m < 262144) (hi:i<=63):sgl m i < 2147483648:=by
 obtain ⟨hl,h2,h3⟩:=norm_range (k:=23) h0 h1 (by omega)
 unfold sgl
 generalize m*2 ^ (23 - m.log2)=N at h2 h3
 simp only [Nat.reducePow,Nat.reduceAdd] at h2 h3
 omega
theorem flo_num {x:Nat} {s:Bool} {e:Int} (hx:FloatKind.f64.decode x=.number s m e):Extern.MathFloor.toIntegral "math.archFloor" .down #[.float .f64 x]=pure (.float .f64 (FloatKind.f64.encode ((FloatKind.f64.decode x).integral .down))):=by
 show (match FloatKind.f64.decode x with | .nan s t=>_ | d=>pure (Value.float .f64 (FloatKind.f64.encode (d.integral .down))))=_
 rw [hx]
theorem flo_inf {x:Nat} {s:Bool} (hx:FloatKind.f64.decode x=.infinity s):Extern.MathFloor.toIntegral "math.archFloor" .down #[.float .f64 x]=pure (.float .f64 (FloatKind.f64.encode ((FloatKind.f64.decode x).integral .down))):=by
 show (match FloatKind.f64.decode x with | .nan s t=>_ | d=>pure (Value.float .f64 (FloatKind.f64.encode (d.integral .down))))=_
 rw [hx]
theorem c220 (h0:0 < M) (h1:M < 262144):Calls pg 220 #[.float .f64 (dbl M 0)] w fun en w'=>en=.returned (.float .f64 (dbl M 0))/\w'=w:=by
 apply of220
 refine ⟨dbl M 0,w,?_,rfl,rfl⟩
 rw [run_callFunc_extern (fn:=Tryz.f221) (e:=Extern.MathFloor.toIntegral "math.archFloor" .down) Tryz.func221 (by kernel_rfl) (by kernel_rfl) (by kernel_rfl) (by kernel_rfl)]
 have hi:=dbl_floor h0 h1 .down (by decide)
 have he:FloatKind.f64.encode (.number false M 0)=dbl M 0:=by
  unfold FloatKind.encode FloatKind.format;exact dbl_of_int h0 h1
 have hd:FloatKind.f64.decode (dbl M 0)=.number false (M*2 ^ (52 - M.log2)) (((0:Nat):Int)+M.log2 - 52):=by
  unfold FloatKind.decode FloatKind.format;exact dbl_read h0 h1 (by omega)
 rw [hd] at hi
 have e:∀d,FloatKind.f64.decode (dbl M 0)=d->(∀s t,d≠.nan s t)->Extern.MathFloor.toIntegral "math.archFloor" .down #[.float .f64 (dbl M 0)]=pure (.float .f64 (FloatKind.f64.encode (d.integral .down))):=by
  intro d h hn
  generalize dbl M 0=x at h
  subst h
  cases hx:FloatKind.f64.decode x with
  | nan s t=>exact absurd hx (hn s t)
  | number s m e=>rw [<-hx];exact flo_num hx
  | infinity s=>rw [<-hx];exact flo_inf hx
 rw [e _ hd (by intro _ _ h;cases h),hi,he]
 rfl
def wrRemb (s b:Int) (L:List Int):List Int:=hdrB 15 206 ((4+L.length:Nat):Int)++(b32 s++b32 0++[82,69,77,66,(L.length:Int),brE b*4+brM b / 65536,brM b / 256 % 256,brM b % 256]++L.flatMap b32)
theorem c216 (H:Sat F w ex ro) (hn:n<=100000):Calls pg 216 #[.agg #[.int .u32 s,.float .f32 b,.slice l n k]] w fun en w'=>
  en=.returned (.int .i64 ((20+4*n:Nat):Int))/\Sat F w' ex ro:=by
 apply of216
 refine sNew H ?_;clear H;intro b1 w _ H
 refine ⟨_,_,_,(H.b0.at0 rfl),?_⟩
 refine ⟨?_,H.d1⟩
 rw [wi64_of (n:=4*(n:Int)) (by omega) (by omega),wi64_of (by omega) (by omega)]
 congr 2
theorem c218 {N v:Nat} {L:List Int} (H:Sat F w (.blk g 5 (u8s (wz [] N))::ex) ro) (hl:Ro.deep [.row 1 (oi .u32 L)] [.slice l L.length k]∈ro) (hn:L.length<=255) (hN:N=20+4*L.length) (hs:u32R s) (hR:∀y∈L,u32R y)
  (h0:0 < m) (h1:m < 262144) (hi:i<=63) (hv:v=sgl m i) :
  Calls pg 218 #[.agg #[.int .u32 s,.float .f32 v,.slice l L.length k],.slice (some ⟨g,0,none⟩) N N] w fun en w'=>en=.returned (.tuple #[.int .i64 (N:Int),.nilIface])/\Sat F w' (.blk g 5 (u8s (wz (wrRemb s (sgl m i:Int) L) 0))::ex) ro:=by
 apply of218
 refine sNew H ?_;clear H;intro b1 w _ H
 replace H:=H.r1
 refine ⟨_,_,_,_,_,H.b1.ld,?_⟩
 refine call_j (c216 H (by omega)) ?_
 clear H;rintro _ w ⟨rfl,H⟩
 refine ⟨_,rfl,?_⟩
 refine ⟨fun h=>by rw [ah] at h;omega,fun _=>?_⟩
 refine ⟨_,rfl,by omega,by omega,?_⟩
 refine sStW H (by rfl) (by omega) ?_
 clear H;intro w H
 refine ⟨_,rfl,by omega,by omega,?_⟩
 refine sStW H (by rfl) (by omega) ?_
 clear H;intro w H
 refine ⟨_,_,_,_,_,H.b1.ld,?_⟩
 refine call_j (c216 H (by omega)) ?_
 clear H;rintro _ w ⟨rfl,H⟩
 refine ⟨_,rfl,?_⟩
 refine ⟨by decide,by omega,by omega,by omega,by omega,?_⟩
 have e1:u16.wrap (i64.wrap (i64.wrap ((((20+4*L.length:Nat):Int).tdiv 4)) - 1))=((4+L.length:Nat):Int):=by
  rw [aY (by omega),wi64_of (n:=((20+4*L.length:Nat):Int) / 4) (by omega) (by omega),wi64_of (by omega) (by omega),wu16]
  omega
 rw [e1,cutW (b:=g) (o:=0) (l:=2) (q:=2) (by omega) rfl]
 refine call_j (put16 H (by rfl) (by omega) (by omega) (by omega)) ?_
 clear H;rintro _ w ⟨rfl,H⟩
 refine ⟨rfl,?_⟩
 refine ⟨by omega,by omega,by omega,by omega,?_⟩
 replace H:=H.drew;generalize w.drew=w at H ⊢
 refine ⟨_,(H.b1.at0 rfl),?_⟩
 rw [cutW (b:=g) (o:=0) (l:=4) (q:=4) (by omega) rfl]
 refine call_j (put32 H (by rfl) hs (by omega) (by omega)) ?_
 clear H;rintro _ w ⟨rfl,H⟩
 refine ⟨rfl,?_⟩
 refine ⟨by omega,by omega,by omega,by omega,?_⟩
 rw [cutW (b:=g) (o:=0) (l:=8) (q:=8) (by omega) rfl]
 refine call_j (put32 H (by rfl) (by decide) (by omega) (by omega)) ?_
 clear H;rintro _ w ⟨rfl,H⟩
 refine ⟨rfl,?_⟩
 refine ⟨_,rfl,by omega,by omega,?_⟩
 refine sStW H (by rfl) (by omega) ?_
 clear H;intro w H
 refine ⟨_,rfl,by omega,by omega,?_⟩
 refine sStW H (by rfl) (by omega) ?_
 clear H;intro w H
 refine ⟨_,rfl,by omega,by omega,?_⟩
 refine sStW H (by rfl) (by omega) ?_
 clear H;intro w H
 refine ⟨_,rfl,by omega,by omega,?_⟩
 refine sStW H (by rfl) (by omega) ?_
 clear H;intro w H
 refine ⟨_,_,_,(H.b1.at0 rfl),?_⟩
 refine ⟨fun h=>by rw [ah] at h;omega,fun _=>?_⟩
 refine ⟨_,_,_,(H.b1.at0 rfl),?_⟩
 refine ⟨_,rfl,by omega,by omega,?_⟩
 rw [wu8,show ((L.length:Nat):Int) % 256=L.length by omega]
 refine sStW H (by rfl) (by omega) ?_
 clear H;intro w H
 refine ⟨_,(H.b1.at0 rfl),?_⟩
 refine (fun T=>⟨(Ieee.single.order v 1744830400 == some .gt || Ieee.single.order v 1744830400 == some .eq),w,run_geq (by rw [f32_f]),fun hb=>?_,fun _=>T⟩) ?_
 rotate_left
 ·have hk:v=1744830400:=by rw [hv] at hb ⊢;exact sgl_max h0 h1 hi hb
  rw [hk] at T
  exact T
 refine ⟨false,w,run_lss (by rw [f32_f,hv];exact sgl_pos h0 h1 hi),fun h=>absurd h (by decide),fun _=>?_⟩
 refine ⟨fun e v q w'=>∃j:Nat,v=sgl m j/\e=(i:Int) - j/\j<=i/\q=j/\(j=i\/17<=j+m.log2)/\w'=w,⟨i,i,hv,by omega,by omega,rfl,Or.inl rfl,rfl⟩,?_⟩
 rintro dd e v' q w' ⟨j,rfl,rfl,hji,rfl,hor,rfl⟩
 refine ⟨decide (18<=q+m.log2),w',run_geq (by rw [f32_f];exact sgl_big h0 h1 (by omega)),fun hb=>?_,fun hb=>?_⟩
 ·rw [ah] at hb
  have hl:m.log2<=17:=(norm_range (k:=23) h0 h1 (by omega)).1
  obtain ⟨j,rfl⟩:∃k,q=k+1:=⟨q - 1,by omega⟩
  refine ⟨_,w',run_float_arith w' .quo _ .f32 _ _ _ (sgl_half h0 h1 (by omega)),?_⟩
  exact ⟨j,by omega,j,rfl,by rw [wi64_of (by omega) (by omega)];omega,by omega,rfl,Or.inr (by omega),rfl⟩
 rw [af] at hb
 obtain ⟨e2,e3⟩:=br_sgl h0 h1 hji (by omega) hor
 obtain ⟨M0,M1⟩:=small_of h0 q (by omega)
 refine ⟨fun h=>by rw [ah] at h;omega,fun _=>?_⟩
 refine ⟨_,w',run_convert_float_float w' _ _ .f32 .f64 _ _ (by rw [uF32];rfl) uF64 (dbl_of_sgl h0 h1 (by omega)),?_⟩
 rw [dbl_shift h0 q (by omega)]
 generalize hM:m*2 ^ q=M at M0 M1 e3 ⊢
 refine call_j (c220 M0 M1) ?_
 rintro _ w ⟨rfl,rfl⟩
 refine ⟨_,rfl,?_⟩
 refine ⟨_,w,run_convert_float_int w _ _ .f64 .u64 _ _ (by rw [uF64];rfl) (by kernel_rfl) (dbl_int M0 M1 .u64 (Or.inr rfl)),?_⟩
 refine ⟨_,rfl,by omega,by omega,?_⟩
 have e4:ior .u8 (u8.wrap (ishl .i64 ((i:Int) - q) (2:Int))) (u8.wrap (ishr .u64 (M:Int) (16:Int)))=brE (sgl m i:Int)*4+brM (sgl m i:Int) / 65536:=by
  rw [e2,e3,ishl_of 2 (by rfl) (by decide),ishr_of (b:=(16:Int)) 16 (by rfl) (by decide),wi64_of (by omega) (by omega),wu8,wu8,show ((i:Int) - q)*2 ^ 2 % 256=((i:Int) - q)*4 by omega,show (M:Int) / 2 ^ 16 % 256=(M:Int) / 65536 by omega]
  exact ior_add (by rfl) 2 ((i:Int) - q) (by omega) (by omega) (by omega) (by omega) (by simp only [IntKind.bits];omega)
 have e5:u8.wrap (ishr .u64 (M:Int) (8:Int))=brM (sgl m i:Int) / 256 % 256:=by
  rw [e3,ishr_of (b:=(8:Int)) 8 (by rfl) (by decide),wu8]
  omega
 have e6:u8.wrap (M:Int)=brM (sgl m i:Int) % 256:=by rw [e3,wu8]
 rw [e4,e5,e6]
 refine sStW H (by rfl) (by omega) ?_
 clear H;intro w H
 refine ⟨_,rfl,by omega,by omega,?_⟩
 refine sStW H (by rfl) (by omega) ?_
 clear H;intro w H
 refine ⟨_,rfl,by omega,by omega,?_⟩
 refine sStW H (by rfl) (by omega) ?_
 clear H;intro w H
 refine ⟨_,_,_,(H.b1.at0 rfl),?_⟩
 generalize hbE:brE (sgl m i:Int)*4+brM (sgl m i:Int) / 65536=B1 at H
 generalize hbM:brM (sgl m i:Int) / 256 % 256=B2 at H
 generalize hbL:brM (sgl m i:Int) % 256=B3 at H
 have eW:wrRemb s (sgl m i:Int) L=hdrB 15 206 ((4+L.length:Nat):Int)++(b32 s++b32 0++[82,69,77,66,(L.length:Int),B1,B2,B3])++L.flatMap b32:=by
  unfold wrRemb
  rw [hbE,hbM,hbL]
  simp only [an]
 rw [eW]
 clear eW e4 e5 e6
 obtain ⟨P,hP⟩:∃P,P=hdrB 15 206 ((4+L.length:Nat):Int)++(b32 s++b32 0++[82,69,77,66,(L.length:Int),B1,B2,B3]):=⟨_,rfl⟩
 have hPl:P.length=20:=by rw [hP];rfl
 rw [<-hP]
 refine ⟨fun n x q w=>∃j:Nat,n=((20+4*j:Nat):Int)/\x=(j:Int)/\j+q=L.length/\Sat F w (.blk g 5 (u8s (wz (P++(L.take j).flatMap b32) (N - 20 - 4*j)))::.blk b1 239 [.int .u32 s,.float .f32 v,.slice l L.length k]::ex) ro,⟨L.length,0,rfl,rfl,by omega,?_⟩,?_⟩
 ·rw [aP,aD,aE,hP]
  exact H
 clear H hP;rintro dd n x q w ⟨j,rfl,rfl,hjq,H⟩
 have hBl:(P++(L.take j).flatMap b32).length=20+4*j:=by
  rw [ae,fl32,bq,hPl]
  omega
 refine ⟨fun hc=>?_,fun hc=>?_⟩
 ·rw [ah] at hc
  have hjl:j < L.length:=by omega
  have htk:L.take (j+1)=L.take j++[L[j]]:=by rw [am,ai hjl];rfl
  have hRj:=hR L[j] (ax hjl)
  obtain ⟨bb,oo,hle,hcell⟩:=H.elt hl (by omega)
  have hc1:=hcell j (.int .u32 L[j]) (by rw [oi_get _ _ _ hjl];simp [List.getD,ai hjl])
  refine ⟨_,hle,by omega,by omega,?_⟩
  refine ⟨_,(by rw [show (j:Int).toNat*1=j by omega,add_flat];exact hc1),?_⟩
  clear hcell hc1
  rw [wi64_of (n:=((20+4*j:Nat):Int)+4) (by omega) (by omega),show (((20+4*j:Nat):Int)+4).toNat=24+4*j by omega,show (((20+4*j:Nat):Int)).toNat=20+4*j by omega]
  refine ⟨by omega,by omega,by omega,by omega,?_⟩
  rw [cutW (b:=g) (o:=0) (l:=20+4*j) (q:=20+4*j) (by omega) (by omega)]
  refine call_j (put32 H hBl.symm hRj (by omega) (by omega)) ?_
  clear H;rintro _ w ⟨rfl,H⟩
  refine ⟨rfl,?_⟩
  refine ⟨q - 1,by omega,j+1,by omega,by rw [wi64_of (by omega) (by omega)];simp,by omega,?_⟩
  rw [htk,aj]
  simp only [fm1,fm2,fm3]
  rw [an,show N - 20 - 4*j - 4=N - 20 - 4*(j+1) by omega] at H
  exact H
 ·rw [af] at hc
  obtain rfl:j=L.length:=by omega
  rw [ao,show N - 20 - 4*L.length=0 by omega] at H
  refine ⟨by rw [hN],H.u1.sub (sc1) (fun _ h=>h)⟩
theorem c215 {L:List Int} (H:Sat F w ex ro) (hl:Ro.deep [.row 1 (oi .u32 L)] [.slice l L.length k]∈ro) (hn:L.length<=255) (hs:u32R s) (hR:∀y∈L,u32R y)
  (h0:0 < m) (h1:m < 262144) (hi:i<=63) :
  Calls pg 215 #[.agg #[.int .u32 s,.float .f32 (sgl m i),.slice l L.length k]] w (MPost F ex ro (wrRemb s (sgl m i:Int) L)):=by
 apply of215
 refine sNew H ?_;clear H;intro b1 w _ H
 refine ⟨_,_,_,_,_,H.b0.ld,?_⟩
 refine call_j (c216 H (by omega)) ?_
 clear H;rintro _ w ⟨rfl,H⟩
 refine ⟨_,rfl,?_⟩
 obtain ⟨N,hN⟩:∃N,N=20+4*L.length:=⟨_,rfl⟩
 rw [<-hN]
 refine sMk H (e:=5) (z:=.int .u8 0) (bytes:=1) (by kernel_rfl) (by kernel_rfl) (by rfl) (by unfold maxLen;omega) (by omega) (n:=N) (by rfl) (by rfl) ?_
 clear H;intro g w _ H
 rw [u8s_z] at H
 replace H:Sat F w (.blk g 5 (u8s (wz [] N))::_) ro:=H
 refine ⟨_,_,_,_,_,H.b1.ld,?_⟩
 refine call_j (c218 H hl hn hN hs hR h0 h1 hi rfl) ?_
 clear H;rintro _ w ⟨rfl,H⟩
 refine ⟨_,_,rfl,?_⟩
 refine ⟨by simp [isIf],?_⟩
 refine fF ?_
 refine ⟨fun h=>by simp at h,fun _=>?_⟩
 have l9:(wrRemb s (sgl m i:Int) L).length=N:=by
  unfold wrRemb
  rw [ae,ae,fl32,hN]
  show 4+(16+_)=_
  omega
 rw [show wz (wrRemb s (sgl m i:Int) L) 0=wrRemb s (sgl m i:Int) L by simp [wz]] at H
 exact MPost.blk H (sc1) (fun _ h=>h) l9.symm (by unfold maxLen;omega)
def wrOne (p:Pk):List Int:=
 if p.kind=1 then wrSR p.sender p.ntp p.rtp p.packets p.octets p.reports p.ext else
 if p.kind=2 then wrRR p.sender p.reports p.ext else
 if p.kind=3 then wrSD p.chunks else
 if p.kind=4 then wrBye p.sources p.text else
 if p.kind=5 then wrApp p.sub p.sender p.text p.data else
 if p.kind=6 then wrFb 1 205 ((2+1*p.pairs.length:Nat):Int) p.sender p.media (p.pairs.flatMap wPar) else
 if p.kind=7 then wrTwo 5 205 p.sender p.media else
 if p.kind=8 then wrCc p.sender p.blocks p.time else
 if p.kind=9 then wrTwo 1 206 p.sender p.media else
 if p.kind=10 then wrFb 2 206 ((2+1*p.slices.length:Nat):Int) p.sender p.media (p.slices.flatMap wSli) else
 if p.kind=11 then wrFb 4 206 ((2+2*p.entries.length:Nat):Int) p.sender p.media (p.entries.flatMap wEnt) else
 if p.kind=12 then wrRemb p.sender p.bits p.sources else
 p.data
structure WrOk (p:Pk):Prop where
 lo:0<=p.kind
 hi:p.kind<=12
 k1:p.kind=1->u32R p.sender/\(0<=p.ntp/\p.ntp < 18446744073709551616)/\u32R p.rtp/\u32R p.packets/\u32R p.octets/\p.reports.length<=31/\p.ext.length % 4=0/\28+24*p.reports.length+p.ext.length<=262144/\∀y∈p.reports,RepR y
 k2:p.kind=2->u32R p.sender/\p.reports.length<=31/\p.ext.length % 4=0/\8+24*p.reports.length+p.ext.length<=262144/\∀y∈p.reports,RepR y
 k3:p.kind=3->p.chunks.length<=31/\(p.chunks.flatMap wChk).length<=262140/\∀y∈p.chunks,ChkR y
 k4:p.kind=4->p.sources.length<=31/\p.text.size<=255/\∀y∈p.sources,u32R y
 k5:p.kind=5->(0<=p.sub/\p.sub < 32)/\u32R p.sender/\p.text.size=4/\p.data.length % 4=0/\p.data.length<=65520
 k6:p.kind=6->u32R p.sender/\u32R p.media/\p.pairs.length<=253/\∀x∈p.pairs,(0<=x.1/\x.1 < 65536)/\0<=x.2/\x.2 < 65536
 k7:p.kind=7->u32R p.sender/\u32R p.media
 k8:p.kind=8->u32R p.sender/\u32R p.time/\p.blocks.length<=100000/\(p.blocks.flatMap wBlo).length<=262132/\∀y∈p.blocks,BloR y
 k9:p.kind=9->u32R p.sender/\u32R p.media
 k10:p.kind=10->u32R p.sender/\u32R p.media/\p.slices.length<=253/\∀x∈p.slices,(0<=x.1/\x.1 < 8192)/\(0<=x.2.1/\x.2.1 < 8192)/\0<=x.2.2/\x.2.2 < 64
 k11:p.kind=11->u32R p.sender/\u32R p.media/\p.entries.length<=30000/\∀x∈p.entries,0<=x.1/\x.1 < 4294967296
 k12:p.kind=12->u32R p.sender/\p.sources.length<=255/\(∀y∈p.sources,u32R y)/\∃m i:Nat,0 < m/\m < 262144/\i<=63/\p.bits=(sgl m i:Int)
theorem Ld1 {a:Addr} (ht:scalarT P t=true) (hc:w.cell? a=some v):LdV P t a v w:=by
 simp [LdV,loadVar,run_isAgg_scalar ht,hc]
theorem MPost.sub {ro1:List Ro} {bs:List Int} {en:Ending} (h:MPost F ex ro1 bs en w) (hr:∀r∈ro,r∈ro1):MPost F ex ro bs en w:=by
 obtain ⟨a,c,ro',h1,h2,h3,h4⟩:=h
 exact ⟨a,c,ro',h1,fun r h=>h2 r (hr r h),h3,h4⟩
theorem c136 (H:Sat F w ex ro) (hx:Ro.B xs a xs.length c∈ro):Calls pg 136 #[.slice a xs.length c] w (MPost F ex ro xs):=by
 apply of136
 exact ⟨_,_,_,rfl,fun _ h=>h,H,hx⟩
theorem im0 (H:Sat F w ex ro) (hk:p.kind=0) (hp:Ro.deep [.ptr (rtcpD p)] [v]∈ro):Invk (.iface 242 v) "Marshal" #[] w (MPost F ex ro (wrOne p)):=by
 have hD:rtcpD p=[.row 1 (ob p.data)]:=by unfold rtcpD;simp [hk]
 have hw:wrOne p=p.data:=by unfold wrOne;simp [hk]
 rw [hD] at hp
 rw [hw]
 obtain ⟨b,vs,ro1,rfl,D0,hm,hd,hr,H⟩:=H.ptrC hp
 obtain ⟨v0,us0,rfl,d0,D1⟩:=D0.consInv
 obtain ⟨a0,n0,c0,rfl,e0⟩:=d0.rowInv
 rw [ob_length] at e0
 obtain rfl:n0=p.data.length:=by omega
 obtain rfl:=D1.nilInv
 refine inv_val (f:=136) (e:=129) (by kernel_rfl) (by kernel_rfl) (by kernel_rfl) (Ld1 (by kernel_rfl) (H.cell (hm 0 _ rfl) rfl)) (call_j (c136 H (hd 0 _ _ rfl rfl)) ?_)
 exact fun _ _ h=>h.sub hr
theorem im1 (H:Sat F w ex ro) (hk:p.kind=1) (hp:Ro.deep [.ptr (rtcpD p)] [v]∈ro) (hW:WrOk p):Invk (.iface 190 v) "Marshal" #[] w (MPost F ex ro (wrOne p)):=by
 have hD:rtcpD p=[.one (.int .u32 p.sender),.one (.int .u64 p.ntp),.one (.int .u32 p.rtp),.one (.int .u32 p.packets),.one (.int .u32 p.octets),.row 7 (p.reports.flatMap Rep.dat),.row 1 (ob p.ext)]:=by unfold rtcpD;simp [hk]
 have hw:wrOne p=wrSR p.sender p.ntp p.rtp p.packets p.octets p.reports p.ext:=by unfold wrOne;simp [hk]
 rw [hD] at hp
 rw [hw]
 obtain ⟨h0,h1,h2,h3,h4,h5,h6,h7,h8⟩:=hW.k1 hk
 obtain ⟨b,vs,ro1,rfl,D0,hm,hd,hr,H⟩:=H.ptrC hp
 obtain ⟨us0,rfl,D1⟩:=D0.i1
 obtain ⟨us1,rfl,D2⟩:=D1.i1
 obtain ⟨us2,rfl,D3⟩:=D2.i1
 obtain ⟨us3,rfl,D4⟩:=D3.i1
 obtain ⟨us4,rfl,D5⟩:=D4.i1
 obtain ⟨v5,us5,rfl,d5,D6⟩:=D5.consInv
 obtain ⟨a5,n5,c5,rfl,e5⟩:=d5.rowInv
 rw [flat_len Rep.dat_len'] at e5
 obtain rfl:n5=p.reports.length:=by omega
 obtain ⟨v6,us6,rfl,d6,D7⟩:=D6.consInv
 obtain ⟨a6,n6,c6,rfl,e6⟩:=d6.rowInv
 rw [ob_length] at e6
 obtain rfl:n6=p.ext.length:=by omega
 obtain rfl:=D7.nilInv
 refine inv_val (f:=141) (e:=194) (by kernel_rfl) (by kernel_rfl) (by kernel_rfl) (LdC [.int .u32 p.sender,.int .u64 p.ntp,.int .u32 p.rtp,.int .u32 p.packets,.int .u32 p.octets,.slice a5 p.reports.length c5,.slice a6 p.ext.length c6] (by kernel_rfl) (fun i u hu=>by rw [add_flat,aK];exact H.cell (hm i u hu) rfl)) (call_j (c141 H h0 h1 h2 h3 h4 (hd 5 _ _ rfl rfl) (hd 6 _ _ rfl rfl) h5 h6 h7 h8) ?_)
 exact fun _ _ h=>h.sub hr
theorem im2 (H:Sat F w ex ro) (hk:p.kind=2) (hp:Ro.deep [.ptr (rtcpD p)] [v]∈ro) (hW:WrOk p):Invk (.iface 195 v) "Marshal" #[] w (MPost F ex ro (wrOne p)):=by
 have hD:rtcpD p=[.one (.int .u32 p.sender),.row 7 (p.reports.flatMap Rep.dat),.row 1 (ob p.ext)]:=by unfold rtcpD;simp [hk]
 have hw:wrOne p=wrRR p.sender p.reports p.ext:=by unfold wrOne;simp [hk]
 rw [hD] at hp
 rw [hw]
 obtain ⟨h0,h5,h6,h7,h8⟩:=hW.k2 hk
 obtain ⟨b,vs,ro1,rfl,D0,hm,hd,hr,H⟩:=H.ptrC hp
 obtain ⟨us0,rfl,D1⟩:=D0.i1
 obtain ⟨v1,us1,rfl,d1,D2⟩:=D1.consInv
 obtain ⟨a1,n1,c1,rfl,e1⟩:=d1.rowInv
 rw [flat_len Rep.dat_len'] at e1
 obtain rfl:n1=p.reports.length:=by omega
 obtain ⟨v2,us2,rfl,d2,D3⟩:=D2.consInv
 obtain ⟨a2,n2,c2,rfl,e2⟩:=d2.rowInv
 rw [ob_length] at e2
 obtain rfl:n2=p.ext.length:=by omega
 obtain rfl:=D3.nilInv
 refine inv_val (f:=154) (e:=197) (by kernel_rfl) (by kernel_rfl) (by kernel_rfl) (LdC [.int .u32 p.sender,.slice a1 p.reports.length c1,.slice a2 p.ext.length c2] (by kernel_rfl) (fun i u hu=>by rw [add_flat,aK];exact H.cell (hm i u hu) rfl)) (call_j (c154 H h0 (hd 1 _ _ rfl rfl) (hd 2 _ _ rfl rfl) h5 h6 h7 h8) ?_)
 exact fun _ _ h=>h.sub hr
theorem im3 (H:Sat F w ex ro) (hk:p.kind=3) (hp:Ro.deep [.ptr (rtcpD p)] [v]∈ro) (hW:WrOk p):Invk (.iface 198 v) "Marshal" #[] w (MPost F ex ro (wrOne p)):=by
 have hD:rtcpD p=[.row 2 (p.chunks.flatMap Chk.dat)]:=by unfold rtcpD;simp [hk]
 have hw:wrOne p=wrSD p.chunks:=by unfold wrOne;simp [hk]
 rw [hD] at hp
 rw [hw]
 obtain ⟨h0,h1,h2⟩:=hW.k3 hk
 obtain ⟨b,vs,ro1,rfl,D0,hm,hd,hr,H⟩:=H.ptrC hp
 obtain ⟨v0,us0,rfl,d0,D1⟩:=D0.consInv
 obtain ⟨a0,n0,c0,rfl,e0⟩:=d0.rowInv
 rw [flat_len Chk.dat_len'] at e0
 obtain rfl:n0=p.chunks.length:=by omega
 obtain rfl:=D1.nilInv
 refine inv_val (f:=159) (e:=252) (by kernel_rfl) (by kernel_rfl) (by kernel_rfl) (LdC [.slice a0 p.chunks.length c0] (by kernel_rfl) (fun i u hu=>by rw [add_flat,aK];exact H.cell (hm i u hu) rfl)) (call_j (c159 H (hd 0 _ _ rfl rfl) h0 h1 h2) ?_)
 exact fun _ _ h=>h.sub hr
theorem im4 (H:Sat F w ex ro) (hk:p.kind=4) (hp:Ro.deep [.ptr (rtcpD p)] [v]∈ro) (hW:WrOk p):Invk (.iface 200 v) "Marshal" #[] w (MPost F ex ro (wrOne p)):=by
 have hD:rtcpD p=[.row 1 (oi .u32 p.sources),.one (.string p.text)]:=by unfold rtcpD;simp [hk]
 have hw:wrOne p=wrBye p.sources p.text:=by unfold wrOne;simp [hk]
 rw [hD] at hp
 rw [hw]
 obtain ⟨h0,h1,h2⟩:=hW.k4 hk
 obtain ⟨b,vs,ro1,rfl,D0,hm,hd,hr,H⟩:=H.ptrC hp
 obtain ⟨v0,us0,rfl,d0,D1⟩:=D0.consInv
 obtain ⟨a0,n0,c0,rfl,e0⟩:=d0.rowInv
 rw [oi_length] at e0
 obtain rfl:n0=p.sources.length:=by omega
 obtain ⟨us1,rfl,D2⟩:=D1.i1
 obtain rfl:=D2.nilInv
 refine inv_val (f:=170) (e:=203) (by kernel_rfl) (by kernel_rfl) (by kernel_rfl) (LdC [.slice a0 p.sources.length c0,.string p.text] (by kernel_rfl) (fun i u hu=>by rw [add_flat,aK];exact H.cell (hm i u hu) rfl)) (call_j (c170 H (hd 0 _ _ rfl rfl) h0 h1 h2) ?_)
 exact fun _ _ h=>h.sub hr
theorem im5 (H:Sat F w ex ro) (hk:p.kind=5) (hp:Ro.deep [.ptr (rtcpD p)] [v]∈ro) (hW:WrOk p):Invk (.iface 204 v) "Marshal" #[] w (MPost F ex ro (wrOne p)):=by
 have hD:rtcpD p=[.one (.int .u8 p.sub),.one (.int .u32 p.sender),.one (.string p.text),.row 1 (ob p.data)]:=by unfold rtcpD;simp [hk]
 have hw:wrOne p=wrApp p.sub p.sender p.text p.data:=by unfold wrOne;simp [hk]
 rw [hD] at hp
 rw [hw]
 obtain ⟨h0,h1,h2,h3,h4⟩:=hW.k5 hk
 obtain ⟨b,vs,ro1,rfl,D0,hm,hd,hr,H⟩:=H.ptrC hp
 obtain ⟨us0,rfl,D1⟩:=D0.i1
 obtain ⟨us1,rfl,D2⟩:=D1.i1
 obtain ⟨us2,rfl,D3⟩:=D2.i1
 obtain ⟨v3,us3,rfl,d3,D4⟩:=D3.consInv
 obtain ⟨a3,n3,c3,rfl,e3⟩:=d3.rowInv
 rw [ob_length] at e3
 obtain rfl:n3=p.data.length:=by omega
 obtain rfl:=D4.nilInv
 refine inv_val (f:=175) (e:=206) (by kernel_rfl) (by kernel_rfl) (by kernel_rfl) (LdC [.int .u8 p.sub,.int .u32 p.sender,.string p.text,.slice a3 p.data.length c3] (by kernel_rfl) (fun i u hu=>by rw [add_flat,aK];exact H.cell (hm i u hu) rfl)) (call_j (c175 H (hd 3 _ _ rfl rfl) h0 h1 h2 h3 h4) ?_)
 exact fun _ _ h=>h.sub hr
theorem im6 (H:Sat F w ex ro) (hk:p.kind=6) (hp:Ro.deep [.ptr (rtcpD p)] [v]∈ro) (hW:WrOk p):Invk (.iface 207 v) "Marshal" #[] w (MPost F ex ro (wrOne p)):=by
 have hD:rtcpD p=[.one (.int .u32 p.sender),.one (.int .u32 p.media),.row 2 (p.pairs.flatMap Par.dat)]:=by unfold rtcpD;simp [hk]
 have hw:wrOne p=wrFb 1 205 ((2+1*p.pairs.length:Nat):Int) p.sender p.media (p.pairs.flatMap wPar):=by unfold wrOne;simp [hk]
 rw [hD] at hp
 rw [hw]
 obtain ⟨h0,h1,h2,h3⟩:=hW.k6 hk
 obtain ⟨b,vs,ro1,rfl,D0,hm,hd,hr,H⟩:=H.ptrC hp
 obtain ⟨us0,rfl,D1⟩:=D0.i1
 obtain ⟨us1,rfl,D2⟩:=D1.i1
 obtain ⟨v2,us2,rfl,d2,D3⟩:=D2.consInv
 obtain ⟨a2,n2,c2,rfl,e2⟩:=d2.rowInv
 rw [flat_len Par.dat_lenK] at e2
 obtain rfl:n2=p.pairs.length:=by omega
 obtain rfl:=D3.nilInv
 refine inv_val (f:=179) (e:=210) (by kernel_rfl) (by kernel_rfl) (by kernel_rfl) (LdC [.int .u32 p.sender,.int .u32 p.media,.slice a2 p.pairs.length c2] (by kernel_rfl) (fun i u hu=>by rw [add_flat,aK];exact H.cell (hm i u hu) rfl)) (call_j (c179 H h0 h1 (hd 2 _ _ rfl rfl) h2 h3) ?_)
 exact fun _ _ h=>h.sub hr
theorem im7 (H:Sat F w ex ro) (hk:p.kind=7) (hp:Ro.deep [.ptr (rtcpD p)] [v]∈ro) (hW:WrOk p):Invk (.iface 214 v) "Marshal" #[] w (MPost F ex ro (wrOne p)):=by
 have hD:rtcpD p=[.one (.int .u32 p.sender),.one (.int .u32 p.media)]:=by unfold rtcpD;simp [hk]
 have hw:wrOne p=wrTwo 5 205 p.sender p.media:=by unfold wrOne;simp [hk]
 rw [hD] at hp
 rw [hw]
 obtain ⟨h0,h1⟩:=hW.k7 hk
 obtain ⟨b,vs,ro1,rfl,D0,hm,hd,hr,H⟩:=H.ptrC hp
 obtain ⟨us0,rfl,D1⟩:=D0.i1
 obtain ⟨us1,rfl,D2⟩:=D1.i1
 obtain rfl:=D2.nilInv
 refine inv_val (f:=184) (e:=216) (by kernel_rfl) (by kernel_rfl) (by kernel_rfl) (LdC [.int .u32 p.sender,.int .u32 p.media] (by kernel_rfl) (fun i u hu=>by rw [add_flat,aK];exact H.cell (hm i u hu) rfl)) (call_j (c184 H h0 h1) ?_)
 exact fun _ _ h=>h.sub hr
theorem im8 (H:Sat F w ex ro) (hk:p.kind=8) (hp:Ro.deep [.ptr (rtcpD p)] [v]∈ro) (hW:WrOk p):Invk (.iface 217 v) "Marshal" #[] w (MPost F ex ro (wrOne p)):=by
 have hD:rtcpD p=[.one (.int .u32 p.sender),.row 3 (p.blocks.flatMap Blo.dat),.one (.int .u32 p.time)]:=by unfold rtcpD;simp [hk]
 have hw:wrOne p=wrCc p.sender p.blocks p.time:=by unfold wrOne;simp [hk]
 rw [hD] at hp
 rw [hw]
 obtain ⟨h0,h1,h2,h3,h4⟩:=hW.k8 hk
 obtain ⟨b,vs,ro1,rfl,D0,hm,hd,hr,H⟩:=H.ptrC hp
 obtain ⟨us0,rfl,D1⟩:=D0.i1
 obtain ⟨v1,us1,rfl,d1,D2⟩:=D1.consInv
 obtain ⟨a1,n1,c1,rfl,e1⟩:=d1.rowInv
 rw [flat_len Blo.dat_len'] at e1
 obtain rfl:n1=p.blocks.length:=by omega
 obtain ⟨us2,rfl,D3⟩:=D2.i1
 obtain rfl:=D3.nilInv
 refine inv_val (f:=190) (e:=221) (by kernel_rfl) (by kernel_rfl) (by kernel_rfl) (LdC [.int .u32 p.sender,.slice a1 p.blocks.length c1,.int .u32 p.time] (by kernel_rfl) (fun i u hu=>by rw [add_flat,aK];exact H.cell (hm i u hu) rfl)) (call_j (c190 H h0 h1 (hd 1 _ _ rfl rfl) h2 h3 h4) ?_)
 exact fun _ _ h=>h.sub hr
theorem im9 (H:Sat F w ex ro) (hk:p.kind=9) (hp:Ro.deep [.ptr (rtcpD p)] [v]∈ro) (hW:WrOk p):Invk (.iface 222 v) "Marshal" #[] w (MPost F ex ro (wrOne p)):=by
 have hD:rtcpD p=[.one (.int .u32 p.sender),.one (.int .u32 p.media)]:=by unfold rtcpD;simp [hk]
 have hw:wrOne p=wrTwo 1 206 p.sender p.media:=by unfold wrOne;simp [hk]
 rw [hD] at hp
 rw [hw]
 obtain ⟨h0,h1⟩:=hW.k9 hk
 obtain ⟨b,vs,ro1,rfl,D0,hm,hd,hr,H⟩:=H.ptrC hp
 obtain ⟨us0,rfl,D1⟩:=D0.i1
 obtain ⟨us1,rfl,D2⟩:=D1.i1
 obtain rfl:=D2.nilInv
 refine inv_val (f:=201) (e:=223) (by kernel_rfl) (by kernel_rfl) (by kernel_rfl) (LdC [.int .u32 p.sender,.int .u32 p.media] (by kernel_rfl) (fun i u hu=>by rw [add_flat,aK];exact H.cell (hm i u hu) rfl)) (call_j (c201 H h0 h1) ?_)
 exact fun _ _ h=>h.sub hr
theorem im10 (H:Sat F w ex ro) (hk:p.kind=10) (hp:Ro.deep [.ptr (rtcpD p)] [v]∈ro) (hW:WrOk p):Invk (.iface 224 v) "Marshal" #[] w (MPost F ex ro (wrOne p)):=by
 have hD:rtcpD p=[.one (.int .u32 p.sender),.one (.int .u32 p.media),.row 3 (p.slices.flatMap Sli.dat)]:=by unfold rtcpD;simp [hk]
 have hw:wrOne p=wrFb 2 206 ((2+1*p.slices.length:Nat):Int) p.sender p.media (p.slices.flatMap wSli):=by unfold wrOne;simp [hk]
 rw [hD] at hp
 rw [hw]
 obtain ⟨h0,h1,h2,h3⟩:=hW.k10 hk
 obtain ⟨b,vs,ro1,rfl,D0,hm,hd,hr,H⟩:=H.ptrC hp
 obtain ⟨us0,rfl,D1⟩:=D0.i1
 obtain ⟨us1,rfl,D2⟩:=D1.i1
 obtain ⟨v2,us2,rfl,d2,D3⟩:=D2.consInv
 obtain ⟨a2,n2,c2,rfl,e2⟩:=d2.rowInv
 rw [flat_len Sli.dat_lenK] at e2
 obtain rfl:n2=p.slices.length:=by omega
 obtain rfl:=D3.nilInv
 refine inv_val (f:=205) (e:=227) (by kernel_rfl) (by kernel_rfl) (by kernel_rfl) (LdC [.int .u32 p.sender,.int .u32 p.media,.slice a2 p.slices.length c2] (by kernel_rfl) (fun i u hu=>by rw [add_flat,aK];exact H.cell (hm i u hu) rfl)) (call_j (c205 H h0 h1 (hd 2 _ _ rfl rfl) h2 h3) ?_)
 exact fun _ _ h=>h.sub hr
theorem im11 (H:Sat F w ex ro) (hk:p.kind=11) (hp:Ro.deep [.ptr (rtcpD p)] [v]∈ro) (hW:WrOk p):Invk (.iface 229 v) "Marshal" #[] w (MPost F ex ro (wrOne p)):=by
 have hD:rtcpD p=[.one (.int .u32 p.sender),.one (.int .u32 p.media),.row 2 (p.entries.flatMap Ent.dat)]:=by unfold rtcpD;simp [hk]
 have hw:wrOne p=wrFb 4 206 ((2+2*p.entries.length:Nat):Int) p.sender p.media (p.entries.flatMap wEnt):=by unfold wrOne;simp [hk]
 rw [hD] at hp
 rw [hw]
 obtain ⟨h0,h1,h2,h3⟩:=hW.k11 hk
 obtain ⟨b,vs,ro1,rfl,D0,hm,hd,hr,H⟩:=H.ptrC hp
 obtain ⟨us0,rfl,D1⟩:=D0.i1
 obtain ⟨us1,rfl,D2⟩:=D1.i1
 obtain ⟨v2,us2,rfl,d2,D3⟩:=D2.consInv
 obtain ⟨a2,n2,c2,rfl,e2⟩:=d2.rowInv
 rw [flat_len Ent.dat_lenK] at e2
 obtain rfl:n2=p.entries.length:=by omega
 obtain rfl:=D3.nilInv
 refine inv_val (f:=210) (e:=232) (by kernel_rfl) (by kernel_rfl) (by kernel_rfl) (LdC [.int .u32 p.sender,.int .u32 p.media,.slice a2 p.entries.length c2] (by kernel_rfl) (fun i u hu=>by rw [add_flat,aK];exact H.cell (hm i u hu) rfl)) (call_j (c210 H h0 h1 (hd 2 _ _ rfl rfl) h2 h3) ?_)
 exact fun _ _ h=>h.sub hr
theorem im12 (H:Sat F w ex ro) (hk:p.kind=12) (hp:Ro.deep [.ptr (rtcpD p)] [v]∈ro) (hW:WrOk p):Invk (.iface 235 v) "Marshal" #[] w (MPost F ex ro (wrOne p)):=by
 have hD:rtcpD p=[.one (.int .u32 p.sender),.one (.float .f32 p.bits.toNat),.row 1 (oi .u32 p.sources)]:=by unfold rtcpD;simp [hk]
 have hw:wrOne p=wrRemb p.sender p.bits p.sources:=by unfold wrOne;simp [hk]
 rw [hD] at hp
 rw [hw]
 obtain ⟨h0,h1,h2,m,i,h3,h4,h5,h6⟩:=hW.k12 hk
 obtain ⟨b,vs,ro1,rfl,D0,hm,hd,hr,H⟩:=H.ptrC hp
 obtain ⟨us0,rfl,D1⟩:=D0.i1
 obtain ⟨us1,rfl,D2⟩:=D1.i1
 obtain ⟨v2,us2,rfl,d2,D3⟩:=D2.consInv
 obtain ⟨a2,n2,c2,rfl,e2⟩:=d2.rowInv
 rw [oi_length] at e2
 obtain rfl:n2=p.sources.length:=by omega
 obtain rfl:=D3.nilInv
 have hb:p.bits.toNat=sgl m i:=by omega
 rw [hb] at hm
 rw [h6]
 refine inv_val (f:=215) (e:=239) (by kernel_rfl) (by kernel_rfl) (by kernel_rfl) (LdC [.int .u32 p.sender,.float .f32 (sgl m i),.slice a2 p.sources.length c2] (by kernel_rfl) (fun i u hu=>by rw [add_flat,aK];exact H.cell (hm i u hu) rfl)) (call_j (c215 H (hd 2 _ _ rfl rfl) h1 h0 h2 h3 h4 h5) ?_)
 exact fun _ _ h=>h.sub hr
theorem inv_j {nm:String} {args:Array Value} {R':Ending->World->Prop} (h:Invk v nm args w R) (hR:∀en w,R en w->R' en w):Invk v nm args w R':=by
 obtain ⟨t,u,f,r,h1,h2,h3,h4⟩:=h
 exact ⟨t,u,f,r,h1,h2,h3,h4.mono hR⟩
theorem inM (H:Sat F w ex ro) (hp:Ro.deep [pkI p] [v]∈ro) (hW:WrOk p):Invk v "Marshal" #[] w (MPost F ex ro (wrOne p)):=by
 unfold pkI at hp
 obtain ⟨u,rfl,H⟩:=H.ifc hp
 have lo:=hW.lo;have hi:=hW.hi
 have hkk:p.kind=0\/p.kind=1\/p.kind=2\/p.kind=3\/p.kind=4\/p.kind=5\/p.kind=6\/p.kind=7\/p.kind=8\/p.kind=9\/p.kind=10\/p.kind=11\/p.kind=12:=by omega
 have hs:∀{en w},MPost F ex (.deep [.ptr (rtcpD p)] [u]::ro) (wrOne p) en w->MPost F ex ro (wrOne p) en w:=fun h=>h.sub (fun r h=>mt h)
 rcases hkk with h | h | h | h | h | h | h | h | h | h | h | h | h
 ·have e:tyK p.kind=242:=by rw [h];rfl
  rw [e]
  exact inv_j (im0 H h ms) (fun _ _ h=>hs h)
 ·have e:tyK p.kind=190:=by rw [h];rfl
  rw [e]
  exact inv_j (im1 H h ms hW) (fun _ _ h=>hs h)
 ·have e:tyK p.kind=195:=by rw [h];rfl
  rw [e]
  exact inv_j (im2 H h ms hW) (fun _ _ h=>hs h)
 ·have e:tyK p.kind=198:=by rw [h];rfl
  rw [e]
  exact inv_j (im3 H h ms hW) (fun _ _ h=>hs h)
 ·have e:tyK p.kind=200:=by rw [h];rfl
  rw [e]
  exact inv_j (im4 H h ms hW) (fun _ _ h=>hs h)
 ·have e:tyK p.kind=204:=by rw [h];rfl
  rw [e]
  exact inv_j (im5 H h ms hW) (fun _ _ h=>hs h)
 ·have e:tyK p.kind=207:=by rw [h];rfl
  rw [e]
  exact inv_j (im6 H h ms hW) (fun _ _ h=>hs h)
 ·have e:tyK p.kind=214:=by rw [h];rfl
  rw [e]
  exact inv_j (im7 H h ms hW) (fun _ _ h=>hs h)
 ·have e:tyK p.kind=217:=by rw [h];rfl
  rw [e]
  exact inv_j (im8 H h ms hW) (fun _ _ h=>hs h)
 ·have e:tyK p.kind=222:=by rw [h];rfl
  rw [e]
  exact inv_j (im9 H h ms hW) (fun _ _ h=>hs h)
 ·have e:tyK p.kind=224:=by rw [h];rfl
  rw [e]
  exact inv_j (im10 H h ms hW) (fun _ _ h=>hs h)
 ·have e:tyK p.kind=229:=by rw [h];rfl
  rw [e]
  exact inv_j (im11 H h ms hW) (fun _ _ h=>hs h)
 ·have e:tyK p.kind=235:=by rw [h];rfl
  rw [e]
  exact inv_j (im12 H h ms hW) (fun _ _ h=>hs h)
theorem pl0 (H:Sat F w ex ro) (hk:p.kind=0) (hp:Ro.deep [.ptr (rtcpD p)] [v]∈ro) (hs:p.size<=600000):Calls pg 66 #[.iface 242 v] w (PlPost F ex ro p):=by
 have hD:rtcpD p=[.row 1 (ob p.data)]:=by unfold rtcpD;simp [hk]
 have hT:trim p={ data:=p.data }:=by unfold trim;simp [hk]
 rw [hD] at hp
 unfold Pk.size at hs
 obtain ⟨b,vs,ro1,rfl,D0,hm,hd,hr,H⟩:=H.ptrC hp
 obtain ⟨v0,us0,rfl,d0,D1⟩:=D0.consInv
 obtain ⟨a0,n0,c0,rfl,e0⟩:=d0.rowInv
 rw [ob_length] at e0
 obtain rfl:n0=p.data.length:=by omega
 obtain rfl:=D1.nilInv
 apply of66
 refine sNew H ?_;clear H;intro b1 w _ H
 refine tno ?_
 refine tno ?_
 refine tno ?_
 refine tno ?_
 refine tno ?_
 refine tno ?_
 refine tno ?_
 refine tno ?_
 refine tno ?_
 refine tno ?_
 refine tno ?_
 refine tno ?_
 refine tno ?_
 refine ⟨_,_,fun wx=>ta_yes (by kernel_rfl) wx,?_⟩
 refine fT ?_
 refine ⟨_,rfl,_,_,_,H.cell (hm 0 _ rfl) rfl,?_⟩
 refine call_j (c37 (xs:=p.data) H (hd 0 _ _ rfl rfl) (by omega)) ?_
 clear H;rintro _ w ⟨o0,q0,rfl,_,H⟩
 refine ⟨_,_,_,rfl,?_⟩
 refine sSw0 H (h:=?_);clear H;intro w _ H
 refine ⟨_,H.b0.ld,?_⟩
 refine PlPost.mk H sl1 (fun r h=>mt (hr r h)) ?_
 rw [hT]
 exact fun G h=>(dc (.one _) (dc (.one _) (dc (.one _) (dc (.one _) (dc (.one _) (dc (.one _) (dc (.one _) (dc (.emp _ _) (dc (.emp _ _) (dc (.emp _ _) (dc (.emp _ _) (dc (.one _) (dc (.one _) (dc (h (.deep [_] [_]) (ms)).head (dc (.emp _ _) (dc (.emp _ _) (dc (.emp _ _) (dc (.one _) (dc (.emp _ _) (dc (.one _) (dc (.one _) (dc (.one _) (dc (.one _) (dc (.one _) (dc (.emp _ _) (dc (.emp _ _) (dc (.one _) (dc (.one _) (dc (.one _) (dc (.one _) dn))))))))))))))))))))))))))))))
theorem pl1 (H:Sat F w ex ro) (hk:p.kind=1) (hp:Ro.deep [.ptr (rtcpD p)] [v]∈ro) (hs:p.size<=600000):Calls pg 66 #[.iface 190 v] w (PlPost F ex ro p):=by
 have hD:rtcpD p=[.one (.int .u32 p.sender),.one (.int .u64 p.ntp),.one (.int .u32 p.rtp),.one (.int .u32 p.packets),.one (.int .u32 p.octets),.row 7 (p.reports.flatMap Rep.dat),.row 1 (ob p.ext)]:=by unfold rtcpD;simp [hk]
 have hT:trim p={ kind:=1,sender:=p.sender,ntp:=p.ntp,rtp:=p.rtp,packets:=p.packets,octets:=p.octets,reports:=p.reports,ext:=p.ext }:=by unfold trim;simp [hk]
 rw [hD] at hp
 unfold Pk.size at hs
 obtain ⟨b,vs,ro1,rfl,D0,hm,hd,hr,H⟩:=H.ptrC hp
 obtain ⟨us0,rfl,D1⟩:=D0.i1
 obtain ⟨us1,rfl,D2⟩:=D1.i1
 obtain ⟨us2,rfl,D3⟩:=D2.i1
 obtain ⟨us3,rfl,D4⟩:=D3.i1
 obtain ⟨us4,rfl,D5⟩:=D4.i1
 obtain ⟨v5,us5,rfl,d5,D6⟩:=D5.consInv
 obtain ⟨a5,n5,c5,rfl,e5⟩:=d5.rowInv
 rw [flat_len Rep.dat_len'] at e5
 obtain rfl:n5=p.reports.length:=by omega
 obtain ⟨v6,us6,rfl,d6,D7⟩:=D6.consInv
 obtain ⟨a6,n6,c6,rfl,e6⟩:=d6.rowInv
 rw [ob_length] at e6
 obtain rfl:n6=p.ext.length:=by omega
 obtain rfl:=D7.nilInv
 apply of66
 refine sNew H ?_;clear H;intro b1 w _ H
 refine ⟨_,_,fun wx=>ta_yes (by kernel_rfl) wx,?_⟩
 refine fT ?_
 refine ⟨none,?_⟩;replace H:=H.drew;generalize w.drew=wd1 at H ⊢;have K:=grew_refl wd1 (none)
 refine ⟨_,rfl,aC _,H.rowC (hm 0 _ rfl),_,H.cell (hm 0 _ rfl) rfl,?_⟩
 refine ⟨_,rfl,aC _,H.rowC (hm 0 _ rfl),_,H.cell (hm 1 _ rfl) rfl,?_⟩
 refine ⟨_,rfl,aC _,H.rowC (hm 0 _ rfl),_,H.cell (hm 2 _ rfl) rfl,?_⟩
 refine ⟨_,rfl,aC _,H.rowC (hm 0 _ rfl),_,H.cell (hm 3 _ rfl) rfl,?_⟩
 refine ⟨_,rfl,aC _,H.rowC (hm 0 _ rfl),_,H.cell (hm 4 _ rfl) rfl,?_⟩
 refine ⟨_,rfl,aC _,H.rowC (hm 0 _ rfl),_,_,_,H.cell (hm 5 _ rfl) rfl,?_⟩
 refine ⟨_,rfl,aC _,H.rowC (hm 0 _ rfl),_,_,_,H.cell (hm 6 _ rfl) rfl,?_⟩
 obtain ⟨ex2,S,back⟩:=H.still
 refine call_j (c102 S (hd 5 _ _ rfl rfl) (by omega)) ?_
 clear H;rintro _ w ⟨o5,q5,rfl,S⟩
 obtain ⟨g,H⟩:=back w _ S
 clear S back
 replace K:=gtr K g;clear g
 refine ⟨_,_,_,rfl,K,?_⟩
 refine call_j (c37 (xs:=p.ext) H (mt (hd 6 _ _ rfl rfl)) (by omega)) ?_
 clear H;rintro _ w ⟨o6,q6,rfl,g,H⟩
 replace K:=gtr K g;clear g
 refine ⟨_,_,_,rfl,K,?_⟩
 refine sSw0 H (h:=?_);clear H;intro w _ H
 refine ⟨_,H.b0.ld,?_⟩
 refine PlPost.mk H sl1 (fun r h=>mt (mt (hr r h))) ?_
 rw [hT]
 exact fun G h=>(dc (.one _) (dc (.one _) (dc (.one _) (dc (.one _) (dc (.one _) (dc (.one _) (dc (.one _) (dc (h (.deep [_] [_]) (mt ms)).head (dc (h (.deep [_] [_]) (ms)).head (dc (.emp _ _) (dc (.emp _ _) (dc (.one _) (dc (.one _) (dc (.emp _ _) (dc (.emp _ _) (dc (.emp _ _) (dc (.emp _ _) (dc (.one _) (dc (.emp _ _) (dc (.one _) (dc (.one _) (dc (.one _) (dc (.one _) (dc (.one _) (dc (.emp _ _) (dc (.emp _ _) (dc (.one _) (dc (.one _) (dc (.one _) (dc (.one _) dn))))))))))))))))))))))))))))))
theorem pl2 (H:Sat F w ex ro) (hk:p.kind=2) (hp:Ro.deep [.ptr (rtcpD p)] [v]∈ro) (hs:p.size<=600000):Calls pg 66 #[.iface 195 v] w (PlPost F ex ro p):=by
 have hD:rtcpD p=[.one (.int .u32 p.sender),.row 7 (p.reports.flatMap Rep.dat),.row 1 (ob p.ext)]:=by unfold rtcpD;simp [hk]
 have hT:trim p={ kind:=2,sender:=p.sender,reports:=p.reports,ext:=p.ext }:=by unfold trim;simp [hk]
 rw [hD] at hp
 unfold Pk.size at hs
 obtain ⟨b,vs,ro1,rfl,D0,hm,hd,hr,H⟩:=H.ptrC hp
 obtain ⟨us0,rfl,D1⟩:=D0.i1
 obtain ⟨v1,us1,rfl,d1,D2⟩:=D1.consInv
 obtain ⟨a1,n1,c1,rfl,e1⟩:=d1.rowInv
 rw [flat_len Rep.dat_len'] at e1
 obtain rfl:n1=p.reports.length:=by omega
 obtain ⟨v2,us2,rfl,d2,D3⟩:=D2.consInv
 obtain ⟨a2,n2,c2,rfl,e2⟩:=d2.rowInv
 rw [ob_length] at e2
 obtain rfl:n2=p.ext.length:=by omega
 obtain rfl:=D3.nilInv
 apply of66
 refine sNew H ?_;clear H;intro b1 w _ H
 refine tno ?_
 refine ⟨_,_,fun wx=>ta_yes (by kernel_rfl) wx,?_⟩
 refine fT ?_
 refine ⟨none,?_⟩;replace H:=H.drew;generalize w.drew=wd1 at H ⊢;have K:=grew_refl wd1 (none)
 refine ⟨_,rfl,aC _,H.rowC (hm 0 _ rfl),_,H.cell (hm 0 _ rfl) rfl,?_⟩
 refine ⟨_,rfl,aC _,H.rowC (hm 0 _ rfl),_,_,_,H.cell (hm 1 _ rfl) rfl,?_⟩
 refine ⟨_,rfl,aC _,H.rowC (hm 0 _ rfl),_,_,_,H.cell (hm 2 _ rfl) rfl,?_⟩
 obtain ⟨ex2,S,back⟩:=H.still
 refine call_j (c102 S (hd 1 _ _ rfl rfl) (by omega)) ?_
 clear H;rintro _ w ⟨o1,q1,rfl,S⟩
 obtain ⟨g,H⟩:=back w _ S
 clear S back
 replace K:=gtr K g;clear g
 refine ⟨_,_,_,rfl,K,?_⟩
 refine call_j (c37 (xs:=p.ext) H (mt (hd 2 _ _ rfl rfl)) (by omega)) ?_
 clear H;rintro _ w ⟨o2,q2,rfl,g,H⟩
 replace K:=gtr K g;clear g
 refine ⟨_,_,_,rfl,K,?_⟩
 refine sSw0 H (h:=?_);clear H;intro w _ H
 refine ⟨_,H.b0.ld,?_⟩
 refine PlPost.mk H sl1 (fun r h=>mt (mt (hr r h))) ?_
 rw [hT]
 exact fun G h=>(dc (.one _) (dc (.one _) (dc (.one _) (dc (.one _) (dc (.one _) (dc (.one _) (dc (.one _) (dc (h (.deep [_] [_]) (mt ms)).head (dc (h (.deep [_] [_]) (ms)).head (dc (.emp _ _) (dc (.emp _ _) (dc (.one _) (dc (.one _) (dc (.emp _ _) (dc (.emp _ _) (dc (.emp _ _) (dc (.emp _ _) (dc (.one _) (dc (.emp _ _) (dc (.one _) (dc (.one _) (dc (.one _) (dc (.one _) (dc (.one _) (dc (.emp _ _) (dc (.emp _ _) (dc (.one _) (dc (.one _) (dc (.one _) (dc (.one _) dn))))))))))))))))))))))))))))))
theorem pl3 (H:Sat F w ex ro) (hk:p.kind=3) (hp:Ro.deep [.ptr (rtcpD p)] [v]∈ro) (hs:p.size<=600000):Calls pg 66 #[.iface 198 v] w (PlPost F ex ro p):=by
 have hD:rtcpD p=[.row 2 (p.chunks.flatMap Chk.dat)]:=by unfold rtcpD;simp [hk]
 have hT:trim p={ kind:=3,chunks:=p.chunks }:=by unfold trim;simp [hk]
 rw [hD] at hp
 unfold Pk.size at hs
 have hcl:=csz_len p.chunks
 have hcm:=csz_mem p.chunks
 obtain ⟨b,vs,ro1,rfl,D0,hm,hd,hr,H⟩:=H.ptrC hp
 have hp2:=hr _ hp
 obtain ⟨v0,us0,rfl,d0,D1⟩:=D0.consInv
 obtain ⟨a0,n0,c0,rfl,e0⟩:=d0.rowInv
 rw [flat_len Chk.dat_len'] at e0
 obtain rfl:n0=p.chunks.length:=by omega
 obtain rfl:=D1.nilInv
 apply of66
 refine sNew H ?_;clear H;intro b1 w _ H
 refine tno ?_
 refine tno ?_
 refine ⟨_,_,fun wx=>ta_yes (by kernel_rfl) wx,?_⟩
 refine fT ?_
 refine call_j (c103 H hp2 (by omega) (fun B hB=>by have:=hcm B hB;omega)) ?_
 clear H;rintro _ w ⟨o0,q0,rfl,H⟩
 refine ⟨_,_,_,rfl,?_⟩
 refine sSw0 H (h:=?_);clear H;intro w _ H
 refine ⟨_,H.b0.ld,?_⟩
 refine PlPost.mk H sl1 (fun r h=>mt (hr r h)) ?_
 rw [hT]
 exact fun G h=>(dc (.one _) (dc (.one _) (dc (.one _) (dc (.one _) (dc (.one _) (dc (.one _) (dc (.one _) (dc (.emp _ _) (dc (.emp _ _) (dc (h (.deep [_] [_]) (ms)).head (dc (.emp _ _) (dc (.one _) (dc (.one _) (dc (.emp _ _) (dc (.emp _ _) (dc (.emp _ _) (dc (.emp _ _) (dc (.one _) (dc (.emp _ _) (dc (.one _) (dc (.one _) (dc (.one _) (dc (.one _) (dc (.one _) (dc (.emp _ _) (dc (.emp _ _) (dc (.one _) (dc (.one _) (dc (.one _) (dc (.one _) dn))))))))))))))))))))))))))))))
theorem pl4 (H:Sat F w ex ro) (hk:p.kind=4) (hp:Ro.deep [.ptr (rtcpD p)] [v]∈ro) (hs:p.size<=600000):Calls pg 66 #[.iface 200 v] w (PlPost F ex ro p):=by
 have hD:rtcpD p=[.row 1 (oi .u32 p.sources),.one (.string p.text)]:=by unfold rtcpD;simp [hk]
 have hT:trim p={ kind:=4,sources:=p.sources,text:=p.text }:=by unfold trim;simp [hk]
 rw [hD] at hp
 unfold Pk.size at hs
 obtain ⟨b,vs,ro1,rfl,D0,hm,hd,hr,H⟩:=H.ptrC hp
 obtain ⟨v0,us0,rfl,d0,D1⟩:=D0.consInv
 obtain ⟨a0,n0,c0,rfl,e0⟩:=d0.rowInv
 rw [oi_length] at e0
 obtain rfl:n0=p.sources.length:=by omega
 obtain ⟨us1,rfl,D2⟩:=D1.i1
 obtain rfl:=D2.nilInv
 apply of66
 refine sNew H ?_;clear H;intro b1 w _ H
 refine tno ?_
 refine tno ?_
 refine tno ?_
 refine ⟨_,_,fun wx=>ta_yes (by kernel_rfl) wx,?_⟩
 refine fT ?_
 refine ⟨none,?_⟩;replace H:=H.drew;generalize w.drew=wd1 at H ⊢;have K:=grew_refl wd1 (none)
 refine ⟨_,rfl,aC _,H.rowC (hm 0 _ rfl),_,_,_,H.cell (hm 0 _ rfl) rfl,?_⟩
 refine ⟨_,rfl,aC _,H.rowC (hm 0 _ rfl),_,H.cell (hm 1 _ rfl) rfl,?_⟩
 refine call_j (c98 H (hd 0 _ _ rfl rfl) (by omega)) ?_
 clear H;rintro _ w ⟨o0,q0,rfl,g,H⟩
 replace K:=gtr K g;clear g
 refine ⟨_,_,_,rfl,K,?_⟩
 refine sSw0 H (h:=?_);clear H;intro w _ H
 refine ⟨_,H.b0.ld,?_⟩
 refine PlPost.mk H sl1 (fun r h=>mt (hr r h)) ?_
 rw [hT]
 exact fun G h=>(dc (.one _) (dc (.one _) (dc (.one _) (dc (.one _) (dc (.one _) (dc (.one _) (dc (.one _) (dc (.emp _ _) (dc (.emp _ _) (dc (.emp _ _) (dc (h (.deep [_] [_]) (ms)).head (dc (.one _) (dc (.one _) (dc (.emp _ _) (dc (.emp _ _) (dc (.emp _ _) (dc (.emp _ _) (dc (.one _) (dc (.emp _ _) (dc (.one _) (dc (.one _) (dc (.one _) (dc (.one _) (dc (.one _) (dc (.emp _ _) (dc (.emp _ _) (dc (.one _) (dc (.one _) (dc (.one _) (dc (.one _) dn))))))))))))))))))))))))))))))
theorem pl5 (H:Sat F w ex ro) (hk:p.kind=5) (hp:Ro.deep [.ptr (rtcpD p)] [v]∈ro) (hs:p.size<=600000):Calls pg 66 #[.iface 204 v] w (PlPost F ex ro p):=by
 have hD:rtcpD p=[.one (.int .u8 p.sub),.one (.int .u32 p.sender),.one (.string p.text),.row 1 (ob p.data)]:=by unfold rtcpD;simp [hk]
 have hT:trim p={ kind:=5,sub:=p.sub,sender:=p.sender,text:=p.text,data:=p.data }:=by unfold trim;simp [hk]
 rw [hD] at hp
 unfold Pk.size at hs
 obtain ⟨b,vs,ro1,rfl,D0,hm,hd,hr,H⟩:=H.ptrC hp
 obtain ⟨us0,rfl,D1⟩:=D0.i1
 obtain ⟨us1,rfl,D2⟩:=D1.i1
 obtain ⟨us2,rfl,D3⟩:=D2.i1
 obtain ⟨v3,us3,rfl,d3,D4⟩:=D3.consInv
 obtain ⟨a3,n3,c3,rfl,e3⟩:=d3.rowInv
 rw [ob_length] at e3
 obtain rfl:n3=p.data.length:=by omega
 obtain rfl:=D4.nilInv
 apply of66
 refine sNew H ?_;clear H;intro b1 w _ H
 refine tno ?_
 refine tno ?_
 refine tno ?_
 refine tno ?_
 refine ⟨_,_,fun wx=>ta_yes (by kernel_rfl) wx,?_⟩
 refine fT ?_
 refine ⟨none,?_⟩;replace H:=H.drew;generalize w.drew=wd1 at H ⊢;have K:=grew_refl wd1 (none)
 refine ⟨_,rfl,aC _,H.rowC (hm 0 _ rfl),_,H.cell (hm 0 _ rfl) rfl,?_⟩
 refine ⟨_,rfl,aC _,H.rowC (hm 0 _ rfl),_,H.cell (hm 1 _ rfl) rfl,?_⟩
 refine ⟨_,rfl,aC _,H.rowC (hm 0 _ rfl),_,H.cell (hm 2 _ rfl) rfl,?_⟩
 refine ⟨_,rfl,aC _,H.rowC (hm 0 _ rfl),_,_,_,H.cell (hm 3 _ rfl) rfl,?_⟩
 refine call_j (c37 (xs:=p.data) H (hd 3 _ _ rfl rfl) (by omega)) ?_
 clear H;rintro _ w ⟨o3,q3,rfl,g,H⟩
 replace K:=gtr K g;clear g
 refine ⟨_,_,_,rfl,K,?_⟩
 refine sSw0 H (h:=?_);clear H;intro w _ H
 refine ⟨_,H.b0.ld,?_⟩
 refine PlPost.mk H sl1 (fun r h=>mt (hr r h)) ?_
 rw [hT]
 exact fun G h=>(dc (.one _) (dc (.one _) (dc (.one _) (dc (.one _) (dc (.one _) (dc (.one _) (dc (.one _) (dc (.emp _ _) (dc (.emp _ _) (dc (.emp _ _) (dc (.emp _ _) (dc (.one _) (dc (.one _) (dc (h (.deep [_] [_]) (ms)).head (dc (.emp _ _) (dc (.emp _ _) (dc (.emp _ _) (dc (.one _) (dc (.emp _ _) (dc (.one _) (dc (.one _) (dc (.one _) (dc (.one _) (dc (.one _) (dc (.emp _ _) (dc (.emp _ _) (dc (.one _) (dc (.one _) (dc (.one _) (dc (.one _) dn))))))))))))))))))))))))))))))
theorem pl6 (H:Sat F w ex ro) (hk:p.kind=6) (hp:Ro.deep [.ptr (rtcpD p)] [v]∈ro) (hs:p.size<=600000):Calls pg 66 #[.iface 207 v] w (PlPost F ex ro p):=by
 have hD:rtcpD p=[.one (.int .u32 p.sender),.one (.int .u32 p.media),.row 2 (p.pairs.flatMap Par.dat)]:=by unfold rtcpD;simp [hk]
 have hT:trim p={ kind:=6,sender:=p.sender,media:=p.media,pairs:=p.pairs }:=by unfold trim;simp [hk]
 rw [hD] at hp
 unfold Pk.size at hs
 obtain ⟨b,vs,ro1,rfl,D0,hm,hd,hr,H⟩:=H.ptrC hp
 obtain ⟨us0,rfl,D1⟩:=D0.i1
 obtain ⟨us1,rfl,D2⟩:=D1.i1
 obtain ⟨v2,us2,rfl,d2,D3⟩:=D2.consInv
 obtain ⟨a2,n2,c2,rfl,e2⟩:=d2.rowInv
 rw [flat_len Par.dat_lenK] at e2
 obtain rfl:n2=p.pairs.length:=by omega
 obtain rfl:=D3.nilInv
 apply of66
 refine sNew H ?_;clear H;intro b1 w _ H
 refine tno ?_
 refine tno ?_
 refine tno ?_
 refine tno ?_
 refine tno ?_
 refine ⟨_,_,fun wx=>ta_yes (by kernel_rfl) wx,?_⟩
 refine fT ?_
 refine ⟨none,?_⟩;replace H:=H.drew;generalize w.drew=wd1 at H ⊢;have K:=grew_refl wd1 (none)
 refine ⟨_,rfl,aC _,H.rowC (hm 0 _ rfl),_,H.cell (hm 0 _ rfl) rfl,?_⟩
 refine ⟨_,rfl,aC _,H.rowC (hm 0 _ rfl),_,H.cell (hm 1 _ rfl) rfl,?_⟩
 refine sNew H ?_;clear H;intro b2 w g H;replace K:=gtr K (grew_none _ g);clear g
 refine ⟨K,?_⟩
 clear K
 refine sSw0 H (h:=?_);clear H;intro w _ H
 refine ⟨_,rfl,_,_,_,H.cell (hm 2 _ rfl) rfl,?_⟩
 refine ⟨fun x m w=>∃(j:Nat) (o:Option Addr) (oc:Nat) (r:Option Nat),x=(j:Int)/\j+m=p.pairs.length/\Sat F w (.blk b2 75 ((pk0 6 p.sender p.media false 0 0 0).set 14 (.slice o j oc))::.own 171 2 o j oc r ((p.pairs.take j).flatMap Par.dat)::.blk b1 75 (pk0 0 0 0 false 0 0 0)::ex) ro1,⟨p.pairs.length,0,none,0,none,rfl,by omega,(H.nilOwn 171 2).u1⟩,?_⟩
 clear H;rintro dd x m w ⟨j,o,oc,r,rfl,hjm,H⟩
 refine ⟨fun hc=>?_,fun hc=>?_⟩
 ·rw [ah] at hc
  have hjl:j < p.pairs.length:=by omega
  obtain ⟨q,us,e,hus,hcell,H1⟩:=H.eltF Par.dat_lenK (by decide) (hd 2 _ _ rfl rfl) (j:=j) hjl
  have htk:p.pairs.take (j+1)=p.pairs.take j++[p.pairs[j]]:=by rw [am,ai hjl];rfl
  clear H
  generalize p.pairs[j]=E at H1 htk
  obtain ⟨e0,e1⟩:=E
  refine ⟨q,e,by omega,by omega,?_⟩
  obtain rfl:=H1.ones (us:=[.int .u16 e0,.int .u16 e1]) ms
  refine ⟨_,_,LdC [.int .u16 e0,.int .u16 e1] (by kernel_rfl) (by rw [show (j:Int).toNat*2=j*2 by omega];exact hcell),?_⟩
  have H:=H1
  clear H1 hcell
  refine sNew H ?_;clear H;intro b3 w _ H
  refine sSw0 H (h:=?_);clear H;intro w _ H
  refine ⟨_,_,_,(H.b1.at0 rfl),?_⟩
  refine ⟨_,(H.b0.at0 rfl),?_⟩
  refine ⟨_,(H.b0.at0 rfl),?_⟩
  refine ⟨rfl,?_⟩
  refine sPush2 H (bytes:=4) (nds:=(Par.dat (e0,e1))) (hD:=(fun G h=>DeepL.ones [_,_])) (hK:=?_)
  clear H;intro o3 ol3 oc3 r3 w ex3 _ H
  refine sSt1 H (h:=?_);clear H;intro w _ H
  subst ex3
  refine ⟨m - 1,by omega,j+1,o3,oc3,r3,?_,by omega,?_⟩
  ·rw [wi64_of (by omega) (by omega)];simp
  ·rw [htk,aj]
   simp only [fm1,fm2,fm3]
   exact H.sub (sc1) (fun r h=>mt h)
 ·rw [af] at hc
  obtain rfl:j=p.pairs.length:=by omega
  rw [ao] at H
  replace H:=H.r1.freeze
  refine ⟨_,H.b0.ld,?_⟩
  refine sSw1 H (h:=?_);clear H;intro w _ H
  refine ⟨_,H.b1.ld,?_⟩
  refine PlPost.mk H sl1 (fun r h=>mt (hr r h)) ?_
  rw [hT]
  exact fun G h=>(dc (.one _) (dc (.one _) (dc (.one _) (dc (.one _) (dc (.one _) (dc (.one _) (dc (.one _) (dc (.emp _ _) (dc (.emp _ _) (dc (.emp _ _) (dc (.emp _ _) (dc (.one _) (dc (.one _) (dc (.emp _ _) (dc (h (.deep [_] [_]) (ms)).head (dc (.emp _ _) (dc (.emp _ _) (dc (.one _) (dc (.emp _ _) (dc (.one _) (dc (.one _) (dc (.one _) (dc (.one _) (dc (.one _) (dc (.emp _ _) (dc (.emp _ _) (dc (.one _) (dc (.one _) (dc (.one _) (dc (.one _) dn))))))))))))))))))))))))))))))
theorem pl7 (H:Sat F w ex ro) (hk:p.kind=7) (hp:Ro.deep [.ptr (rtcpD p)] [v]∈ro) (hs:p.size<=600000):Calls pg 66 #[.iface 214 v] w (PlPost F ex ro p):=by
 have hD:rtcpD p=[.one (.int .u32 p.sender),.one (.int .u32 p.media)]:=by unfold rtcpD;simp [hk]
 have hT:trim p={ kind:=7,sender:=p.sender,media:=p.media }:=by unfold trim;simp [hk]
 rw [hD] at hp
 unfold Pk.size at hs
 obtain ⟨b,vs,ro1,rfl,D0,hm,hd,hr,H⟩:=H.ptrC hp
 obtain ⟨us0,rfl,D1⟩:=D0.i1
 obtain ⟨us1,rfl,D2⟩:=D1.i1
 obtain rfl:=D2.nilInv
 apply of66
 refine sNew H ?_;clear H;intro b1 w _ H
 refine tno ?_
 refine tno ?_
 refine tno ?_
 refine tno ?_
 refine tno ?_
 refine tno ?_
 refine ⟨_,_,fun wx=>ta_yes (by kernel_rfl) wx,?_⟩
 refine fT ?_
 replace H:=H.drew;generalize w.drew=w at H ⊢
 refine ⟨_,rfl,_,H.cell (hm 0 _ rfl) rfl,?_⟩
 refine ⟨_,rfl,_,H.cell (hm 1 _ rfl) rfl,?_⟩
 refine sSw0 H (h:=?_);clear H;intro w _ H
 refine ⟨_,H.b0.ld,?_⟩
 refine PlPost.mk H sl1 (fun r h=>hr r h) ?_
 rw [hT]
 exact fun G h=>(dc (.one _) (dc (.one _) (dc (.one _) (dc (.one _) (dc (.one _) (dc (.one _) (dc (.one _) (dc (.emp _ _) (dc (.emp _ _) (dc (.emp _ _) (dc (.emp _ _) (dc (.one _) (dc (.one _) (dc (.emp _ _) (dc (.emp _ _) (dc (.emp _ _) (dc (.emp _ _) (dc (.one _) (dc (.emp _ _) (dc (.one _) (dc (.one _) (dc (.one _) (dc (.one _) (dc (.one _) (dc (.emp _ _) (dc (.emp _ _) (dc (.one _) (dc (.one _) (dc (.one _) (dc (.one _) dn))))))))))))))))))))))))))))))
theorem pl8 (H:Sat F w ex ro) (hk:p.kind=8) (hp:Ro.deep [.ptr (rtcpD p)] [v]∈ro) (hs:p.size<=600000):Calls pg 66 #[.iface 217 v] w (PlPost F ex ro p):=by
 have hD:rtcpD p=[.one (.int .u32 p.sender),.row 3 (p.blocks.flatMap Blo.dat),.one (.int .u32 p.time)]:=by unfold rtcpD;simp [hk]
 have hT:trim p={ kind:=8,sender:=p.sender,blocks:=p.blocks,time:=p.time }:=by unfold trim;simp [hk]
 rw [hD] at hp
 unfold Pk.size at hs
 have hcl:=bsz_len p.blocks
 have hcm:=bsz_mem p.blocks
 obtain ⟨b,vs,ro1,rfl,D0,hm,hd,hr,H⟩:=H.ptrC hp
 obtain ⟨us0,rfl,D1⟩:=D0.i1
 obtain ⟨v1,us1,rfl,d1,D2⟩:=D1.consInv
 obtain ⟨a1,n1,c1,rfl,e1⟩:=d1.rowInv
 rw [flat_len Blo.dat_len'] at e1
 obtain rfl:n1=p.blocks.length:=by omega
 obtain ⟨us2,rfl,D3⟩:=D2.i1
 obtain rfl:=D3.nilInv
 apply of66
 refine sNew H ?_;clear H;intro b1 w _ H
 refine tno ?_
 refine tno ?_
 refine tno ?_
 refine tno ?_
 refine tno ?_
 refine tno ?_
 refine tno ?_
 refine ⟨_,_,fun wx=>ta_yes (by kernel_rfl) wx,?_⟩
 refine fT ?_
 refine ⟨none,?_⟩;replace H:=H.drew;generalize w.drew=wd1 at H ⊢;have K:=grew_refl wd1 (none)
 refine ⟨_,rfl,aC _,H.rowC (hm 0 _ rfl),_,H.cell (hm 0 _ rfl) rfl,?_⟩
 refine ⟨_,rfl,aC _,H.rowC (hm 0 _ rfl),_,_,_,H.cell (hm 1 _ rfl) rfl,?_⟩
 refine ⟨_,rfl,aC _,H.rowC (hm 0 _ rfl),_,H.cell (hm 2 _ rfl) rfl,?_⟩
 obtain ⟨ex2,S,back⟩:=H.still
 refine call_j (c104 S (hd 1 _ _ rfl rfl) (by omega) (fun B hB=>by have:=hcm B hB;omega)) ?_
 clear H;rintro _ w ⟨o1,q1,rfl,S⟩
 obtain ⟨g,H⟩:=back w _ S
 clear S back
 replace K:=gtr K g;clear g
 refine ⟨_,_,_,rfl,K,?_⟩
 refine sSw0 H (h:=?_);clear H;intro w _ H
 refine ⟨_,H.b0.ld,?_⟩
 refine PlPost.mk H sl1 (fun r h=>mt (hr r h)) ?_
 rw [hT]
 exact fun G h=>(dc (.one _) (dc (.one _) (dc (.one _) (dc (.one _) (dc (.one _) (dc (.one _) (dc (.one _) (dc (.emp _ _) (dc (.emp _ _) (dc (.emp _ _) (dc (.emp _ _) (dc (.one _) (dc (.one _) (dc (.emp _ _) (dc (.emp _ _) (dc (.emp _ _) (dc (.emp _ _) (dc (.one _) (dc (h (.deep [_] [_]) (ms)).head (dc (.one _) (dc (.one _) (dc (.one _) (dc (.one _) (dc (.one _) (dc (.emp _ _) (dc (.emp _ _) (dc (.one _) (dc (.one _) (dc (.one _) (dc (.one _) dn))))))))))))))))))))))))))))))
theorem pl9 (H:Sat F w ex ro) (hk:p.kind=9) (hp:Ro.deep [.ptr (rtcpD p)] [v]∈ro) (hs:p.size<=600000):Calls pg 66 #[.iface 222 v] w (PlPost F ex ro p):=by
 have hD:rtcpD p=[.one (.int .u32 p.sender),.one (.int .u32 p.media)]:=by unfold rtcpD;simp [hk]
 have hT:trim p={ kind:=9,sender:=p.sender,media:=p.media }:=by unfold trim;simp [hk]
 rw [hD] at hp
 unfold Pk.size at hs
 obtain ⟨b,vs,ro1,rfl,D0,hm,hd,hr,H⟩:=H.ptrC hp
 obtain ⟨us0,rfl,D1⟩:=D0.i1
 obtain ⟨us1,rfl,D2⟩:=D1.i1
 obtain rfl:=D2.nilInv
 apply of66
 refine sNew H ?_;clear H;intro b1 w _ H
 refine tno ?_
 refine tno ?_
 refine tno ?_
 refine tno ?_
 refine tno ?_
 refine tno ?_
 refine tno ?_
 refine tno ?_
 refine ⟨_,_,fun wx=>ta_yes (by kernel_rfl) wx,?_⟩
 refine fT ?_
 replace H:=H.drew;generalize w.drew=w at H ⊢
 refine ⟨_,rfl,_,H.cell (hm 0 _ rfl) rfl,?_⟩
 refine ⟨_,rfl,_,H.cell (hm 1 _ rfl) rfl,?_⟩
 refine sSw0 H (h:=?_);clear H;intro w _ H
 refine ⟨_,H.b0.ld,?_⟩
 refine PlPost.mk H sl1 (fun r h=>hr r h) ?_
 rw [hT]
 exact fun G h=>(dc (.one _) (dc (.one _) (dc (.one _) (dc (.one _) (dc (.one _) (dc (.one _) (dc (.one _) (dc (.emp _ _) (dc (.emp _ _) (dc (.emp _ _) (dc (.emp _ _) (dc (.one _) (dc (.one _) (dc (.emp _ _) (dc (.emp _ _) (dc (.emp _ _) (dc (.emp _ _) (dc (.one _) (dc (.emp _ _) (dc (.one _) (dc (.one _) (dc (.one _) (dc (.one _) (dc (.one _) (dc (.emp _ _) (dc (.emp _ _) (dc (.one _) (dc (.one _) (dc (.one _) (dc (.one _) dn))))))))))))))))))))))))))))))
theorem pl10 (H:Sat F w ex ro) (hk:p.kind=10) (hp:Ro.deep [.ptr (rtcpD p)] [v]∈ro) (hs:p.size<=600000):Calls pg 66 #[.iface 224 v] w (PlPost F ex ro p):=by
 have hD:rtcpD p=[.one (.int .u32 p.sender),.one (.int .u32 p.media),.row 3 (p.slices.flatMap Sli.dat)]:=by unfold rtcpD;simp [hk]
 have hT:trim p={ kind:=10,sender:=p.sender,media:=p.media,slices:=p.slices }:=by unfold trim;simp [hk]
 rw [hD] at hp
 unfold Pk.size at hs
 obtain ⟨b,vs,ro1,rfl,D0,hm,hd,hr,H⟩:=H.ptrC hp
 obtain ⟨us0,rfl,D1⟩:=D0.i1
 obtain ⟨us1,rfl,D2⟩:=D1.i1
 obtain ⟨v2,us2,rfl,d2,D3⟩:=D2.consInv
 obtain ⟨a2,n2,c2,rfl,e2⟩:=d2.rowInv
 rw [flat_len Sli.dat_lenK] at e2
 obtain rfl:n2=p.slices.length:=by omega
 obtain rfl:=D3.nilInv
 apply of66
 refine sNew H ?_;clear H;intro b1 w _ H
 refine tno ?_
 refine tno ?_
 refine tno ?_
 refine tno ?_
 refine tno ?_
 refine tno ?_
 refine tno ?_
 refine tno ?_
 refine tno ?_
 refine ⟨_,_,fun wx=>ta_yes (by kernel_rfl) wx,?_⟩
 refine fT ?_
 refine ⟨none,?_⟩;replace H:=H.drew;generalize w.drew=wd1 at H ⊢;have K:=grew_refl wd1 (none)
 refine ⟨_,rfl,aC _,H.rowC (hm 0 _ rfl),_,H.cell (hm 0 _ rfl) rfl,?_⟩
 refine ⟨_,rfl,aC _,H.rowC (hm 0 _ rfl),_,H.cell (hm 1 _ rfl) rfl,?_⟩
 refine sNew H ?_;clear H;intro b2 w g H;replace K:=gtr K (grew_none _ g);clear g
 refine ⟨K,?_⟩
 clear K
 refine sSw0 H (h:=?_);clear H;intro w _ H
 refine ⟨_,rfl,_,_,_,H.cell (hm 2 _ rfl) rfl,?_⟩
 refine ⟨fun x m w=>∃(j:Nat) (o:Option Addr) (oc:Nat) (r:Option Nat),x=(j:Int)/\j+m=p.slices.length/\Sat F w (.blk b2 75 ((pk0 10 p.sender p.media false 0 0 0).set 15 (.slice o j oc))::.own 172 3 o j oc r ((p.slices.take j).flatMap Sli.dat)::.blk b1 75 (pk0 0 0 0 false 0 0 0)::ex) ro1,⟨p.slices.length,0,none,0,none,rfl,by omega,(H.nilOwn 172 3).u1⟩,?_⟩
 clear H;rintro dd x m w ⟨j,o,oc,r,rfl,hjm,H⟩
 refine ⟨fun hc=>?_,fun hc=>?_⟩
 ·rw [ah] at hc
  have hjl:j < p.slices.length:=by omega
  obtain ⟨q,us,e,hus,hcell,H1⟩:=H.eltF Sli.dat_lenK (by decide) (hd 2 _ _ rfl rfl) (j:=j) hjl
  have htk:p.slices.take (j+1)=p.slices.take j++[p.slices[j]]:=by rw [am,ai hjl];rfl
  clear H
  generalize p.slices[j]=E at H1 htk
  obtain ⟨e0,e1,e2⟩:=E
  refine ⟨q,e,by omega,by omega,?_⟩
  obtain rfl:=H1.ones (us:=[.int .u16 e0,.int .u16 e1,.int .u8 e2]) ms
  refine ⟨_,_,_,LdC [.int .u16 e0,.int .u16 e1,.int .u8 e2] (by kernel_rfl) (by rw [show (j:Int).toNat*3=j*3 by omega];exact hcell),?_⟩
  have H:=H1
  clear H1 hcell
  refine sNew H ?_;clear H;intro b3 w _ H
  refine sSw0 H (h:=?_);clear H;intro w _ H
  refine ⟨_,_,_,(H.b1.at0 rfl),?_⟩
  refine ⟨_,(H.b0.at0 rfl),?_⟩
  refine ⟨_,(H.b0.at0 rfl),?_⟩
  refine ⟨_,(H.b0.at0 rfl),?_⟩
  refine ⟨rfl,?_⟩
  refine sPush2 H (bytes:=6) (nds:=(Sli.dat (e0,e1,e2))) (hD:=(fun G h=>DeepL.ones [_,_,_])) (hK:=?_)
  clear H;intro o3 ol3 oc3 r3 w ex3 _ H
  refine sSt1 H (h:=?_);clear H;intro w _ H
  subst ex3
  refine ⟨m - 1,by omega,j+1,o3,oc3,r3,?_,by omega,?_⟩
  ·rw [wi64_of (by omega) (by omega)];simp
  ·rw [htk,aj]
   simp only [fm1,fm2,fm3]
   exact H.sub (sc1) (fun r h=>mt h)
 ·rw [af] at hc
  obtain rfl:j=p.slices.length:=by omega
  rw [ao] at H
  replace H:=H.r1.freeze
  refine ⟨_,H.b0.ld,?_⟩
  refine sSw1 H (h:=?_);clear H;intro w _ H
  refine ⟨_,H.b1.ld,?_⟩
  refine PlPost.mk H sl1 (fun r h=>mt (hr r h)) ?_
  rw [hT]
  exact fun G h=>(dc (.one _) (dc (.one _) (dc (.one _) (dc (.one _) (dc (.one _) (dc (.one _) (dc (.one _) (dc (.emp _ _) (dc (.emp _ _) (dc (.emp _ _) (dc (.emp _ _) (dc (.one _) (dc (.one _) (dc (.emp _ _) (dc (.emp _ _) (dc (h (.deep [_] [_]) (ms)).head (dc (.emp _ _) (dc (.one _) (dc (.emp _ _) (dc (.one _) (dc (.one _) (dc (.one _) (dc (.one _) (dc (.one _) (dc (.emp _ _) (dc (.emp _ _) (dc (.one _) (dc (.one _) (dc (.one _) (dc (.one _) dn))))))))))))))))))))))))))))))
theorem pl11 (H:Sat F w ex ro) (hk:p.kind=11) (hp:Ro.deep [.ptr (rtcpD p)] [v]∈ro) (hs:p.size<=600000):Calls pg 66 #[.iface 229 v] w (PlPost F ex ro p):=by
 have hD:rtcpD p=[.one (.int .u32 p.sender),.one (.int .u32 p.media),.row 2 (p.entries.flatMap Ent.dat)]:=by unfold rtcpD;simp [hk]
 have hT:trim p={ kind:=11,sender:=p.sender,media:=p.media,entries:=p.entries }:=by unfold trim;simp [hk]
 rw [hD] at hp
 unfold Pk.size at hs
 obtain ⟨b,vs,ro1,rfl,D0,hm,hd,hr,H⟩:=H.ptrC hp
 obtain ⟨us0,rfl,D1⟩:=D0.i1
 obtain ⟨us1,rfl,D2⟩:=D1.i1
 obtain ⟨v2,us2,rfl,d2,D3⟩:=D2.consInv
 obtain ⟨a2,n2,c2,rfl,e2⟩:=d2.rowInv
 rw [flat_len Ent.dat_lenK] at e2
 obtain rfl:n2=p.entries.length:=by omega
 obtain rfl:=D3.nilInv
 apply of66
 refine sNew H ?_;clear H;intro b1 w _ H
 refine tno ?_
 refine tno ?_
 refine tno ?_
 refine tno ?_
 refine tno ?_
 refine tno ?_
 refine tno ?_
 refine tno ?_
 refine tno ?_
 refine tno ?_
 refine ⟨_,_,fun wx=>ta_yes (by kernel_rfl) wx,?_⟩
 refine fT ?_
 refine ⟨none,?_⟩;replace H:=H.drew;generalize w.drew=wd1 at H ⊢;have K:=grew_refl wd1 (none)
 refine ⟨_,rfl,aC _,H.rowC (hm 0 _ rfl),_,H.cell (hm 0 _ rfl) rfl,?_⟩
 refine ⟨_,rfl,aC _,H.rowC (hm 0 _ rfl),_,H.cell (hm 1 _ rfl) rfl,?_⟩
 refine sNew H ?_;clear H;intro b2 w g H;replace K:=gtr K (grew_none _ g);clear g
 refine ⟨K,?_⟩
 clear K
 refine sSw0 H (h:=?_);clear H;intro w _ H
 refine ⟨_,rfl,_,_,_,H.cell (hm 2 _ rfl) rfl,?_⟩
 refine ⟨fun x m w=>∃(j:Nat) (o:Option Addr) (oc:Nat) (r:Option Nat),x=(j:Int)/\j+m=p.entries.length/\Sat F w (.blk b2 75 ((pk0 11 p.sender p.media false 0 0 0).set 16 (.slice o j oc))::.own 173 2 o j oc r ((p.entries.take j).flatMap Ent.dat)::.blk b1 75 (pk0 0 0 0 false 0 0 0)::ex) ro1,⟨p.entries.length,0,none,0,none,rfl,by omega,(H.nilOwn 173 2).u1⟩,?_⟩
 clear H;rintro dd x m w ⟨j,o,oc,r,rfl,hjm,H⟩
 refine ⟨fun hc=>?_,fun hc=>?_⟩
 ·rw [ah] at hc
  have hjl:j < p.entries.length:=by omega
  obtain ⟨q,us,e,hus,hcell,H1⟩:=H.eltF Ent.dat_lenK (by decide) (hd 2 _ _ rfl rfl) (j:=j) hjl
  have htk:p.entries.take (j+1)=p.entries.take j++[p.entries[j]]:=by rw [am,ai hjl];rfl
  clear H
  generalize p.entries[j]=E at H1 htk
  obtain ⟨e0,e1⟩:=E
  refine ⟨q,e,by omega,by omega,?_⟩
  obtain rfl:=H1.ones (us:=[.int .u32 e0,.int .u8 e1]) ms
  refine ⟨_,_,LdC [.int .u32 e0,.int .u8 e1] (by kernel_rfl) (by rw [show (j:Int).toNat*2=j*2 by omega];exact hcell),?_⟩
  have H:=H1
  clear H1 hcell
  refine sNew H ?_;clear H;intro b3 w _ H
  refine sSw0 H (h:=?_);clear H;intro w _ H
  refine ⟨_,_,_,(H.b1.at0 rfl),?_⟩
  refine ⟨_,(H.b0.at0 rfl),?_⟩
  refine ⟨_,(H.b0.at0 rfl),?_⟩
  refine ⟨rfl,?_⟩
  refine sPush2 H (bytes:=8) (nds:=(Ent.dat (e0,e1))) (hD:=(fun G h=>DeepL.ones [_,_])) (hK:=?_)
  clear H;intro o3 ol3 oc3 r3 w ex3 _ H
  refine sSt1 H (h:=?_);clear H;intro w _ H
  subst ex3
  refine ⟨m - 1,by omega,j+1,o3,oc3,r3,?_,by omega,?_⟩
  ·rw [wi64_of (by omega) (by omega)];simp
  ·rw [htk,aj]
   simp only [fm1,fm2,fm3]
   exact H.sub (sc1) (fun r h=>mt h)
 ·rw [af] at hc
  obtain rfl:j=p.entries.length:=by omega
  rw [ao] at H
  replace H:=H.r1.freeze
  refine ⟨_,H.b0.ld,?_⟩
  refine sSw1 H (h:=?_);clear H;intro w _ H
  refine ⟨_,H.b1.ld,?_⟩
  refine PlPost.mk H sl1 (fun r h=>mt (hr r h)) ?_
  rw [hT]
  exact fun G h=>(dc (.one _) (dc (.one _) (dc (.one _) (dc (.one _) (dc (.one _) (dc (.one _) (dc (.one _) (dc (.emp _ _) (dc (.emp _ _) (dc (.emp _ _) (dc (.emp _ _) (dc (.one _) (dc (.one _) (dc (.emp _ _) (dc (.emp _ _) (dc (.emp _ _) (dc (h (.deep [_] [_]) (ms)).head (dc (.one _) (dc (.emp _ _) (dc (.one _) (dc (.one _) (dc (.one _) (dc (.one _) (dc (.one _) (dc (.emp _ _) (dc (.emp _ _) (dc (.one _) (dc (.one _) (dc (.one _) (dc (.one _) dn))))))))))))))))))))))))))))))
theorem pl12 (H:Sat F w ex ro) (hk:p.kind=12) (hp:Ro.deep [.ptr (rtcpD p)] [v]∈ro) (hs:p.size<=600000) (hbits:p.bits=(p.bits.toNat:Int)):Calls pg 66 #[.iface 235 v] w (PlPost F ex ro p):=by
 have hD:rtcpD p=[.one (.int .u32 p.sender),.one (.float .f32 p.bits.toNat),.row 1 (oi .u32 p.sources)]:=by unfold rtcpD;simp [hk]
 have hT:trim p={ kind:=12,sender:=p.sender,bits:=p.bits,sources:=p.sources }:=by unfold trim;simp [hk]
 rw [hD] at hp
 unfold Pk.size at hs
 obtain ⟨b,vs,ro1,rfl,D0,hm,hd,hr,H⟩:=H.ptrC hp
 obtain ⟨us0,rfl,D1⟩:=D0.i1
 obtain ⟨us1,rfl,D2⟩:=D1.i1
 obtain ⟨v2,us2,rfl,d2,D3⟩:=D2.consInv
 obtain ⟨a2,n2,c2,rfl,e2⟩:=d2.rowInv
 rw [oi_length] at e2
 obtain rfl:n2=p.sources.length:=by omega
 obtain rfl:=D3.nilInv
 apply of66
 refine sNew H ?_;clear H;intro b1 w _ H
 refine tno ?_
 refine tno ?_
 refine tno ?_
 refine tno ?_
 refine tno ?_
 refine tno ?_
 refine tno ?_
 refine tno ?_
 refine tno ?_
 refine tno ?_
 refine tno ?_
 refine ⟨_,_,fun wx=>ta_yes (by kernel_rfl) wx,?_⟩
 refine fT ?_
 refine ⟨none,?_⟩;replace H:=H.drew;generalize w.drew=wd1 at H ⊢;have K:=grew_refl wd1 (none)
 refine ⟨_,rfl,aC _,H.rowC (hm 0 _ rfl),_,H.cell (hm 0 _ rfl) rfl,?_⟩
 refine ⟨_,rfl,aC _,H.rowC (hm 0 _ rfl),_,H.cell (hm 1 _ rfl) rfl,?_⟩
 refine ⟨_,rfl,aC _,H.rowC (hm 0 _ rfl),_,_,_,H.cell (hm 2 _ rfl) rfl,?_⟩
 refine ⟨_,_,run_f32bits,K,?_⟩
 refine call_j (c98 H (hd 2 _ _ rfl rfl) (by omega)) ?_
 clear H;rintro _ w ⟨o2,q2,rfl,g,H⟩
 replace K:=gtr K g;clear g
 refine ⟨_,_,_,rfl,K,?_⟩
 refine sSw0 H (h:=?_);clear H;intro w _ H
 refine ⟨_,H.b0.ld,?_⟩
 refine PlPost.mk H sl1 (fun r h=>mt (hr r h)) ?_
 rw [hT]
 rw [<-hbits]
 exact fun G h=>(dc (.one _) (dc (.one _) (dc (.one _) (dc (.one _) (dc (.one _) (dc (.one _) (dc (.one _) (dc (.emp _ _) (dc (.emp _ _) (dc (.emp _ _) (dc (h (.deep [_] [_]) (ms)).head (dc (.one _) (dc (.one _) (dc (.emp _ _) (dc (.emp _ _) (dc (.emp _ _) (dc (.emp _ _) (dc (.one _) (dc (.emp _ _) (dc (.one _) (dc (.one _) (dc (.one _) (dc (.one _) (dc (.one _) (dc (.emp _ _) (dc (.emp _ _) (dc (.one _) (dc (.one _) (dc (.one _) (dc (.one _) dn))))))))))))))))))))))))))))))
theorem PlPost.ok {r:Ro} {en:Ending} (ht:trim p=p) (h:PlPost F ex (r::ro) p en w) :
  ∃cells ro',en=.returned (.agg cells.toArray)/\(∀r∈ro,r∈ro')/\Sat F w ex ro'/\Ro.deep p.dat cells∈ro':=by
 obtain ⟨cells,ro',h1,h2,h3,h4⟩:=h
 rw [ht] at h4
 exact ⟨cells,ro',h1,fun r h=>h2 r (mt h),h3,h4⟩
theorem c66 (H:Sat F w ex ro) (hp:Ro.deep [pkI p] [v]∈ro) (hG:Gd p n) (hn:n<=270000) :
  Calls pg 66 #[v] w fun en w'=>∃cells ro',en=.returned (.agg cells.toArray)/\(∀r∈ro,r∈ro')/\Sat F w' ex ro'/\Ro.deep p.dat cells∈ro':=by
 have hp':Ro.deep [.ifc (tyK p.kind) (.ptr (rtcpD p))] [v]∈ro:=hp
 obtain ⟨u,rfl,H1⟩:=H.ifc hp'
 have hlo:=hG.lo
 have hhi:=hG.hi
 have hs:=hG.sz
 have hk:p.kind=0\/p.kind=1\/p.kind=2\/p.kind=3\/p.kind=4\/p.kind=5\/p.kind=6\/p.kind=7\/p.kind=8\/p.kind=9\/p.kind=10\/p.kind=11\/p.kind=12:=by omega
 rcases hk with hk | hk | hk | hk | hk | hk | hk | hk | hk | hk | hk | hk | hk
 ·rw [show tyK p.kind=242 by rw [hk];rfl]
  exact (pl0 H1 hk ms (by omega)).mono fun _ _ h=>h.ok hG.trim
 ·rw [show tyK p.kind=190 by rw [hk];rfl]
  exact (pl1 H1 hk ms (by omega)).mono fun _ _ h=>h.ok hG.trim
 ·rw [show tyK p.kind=195 by rw [hk];rfl]
  exact (pl2 H1 hk ms (by omega)).mono fun _ _ h=>h.ok hG.trim
 ·rw [show tyK p.kind=198 by rw [hk];rfl]
  exact (pl3 H1 hk ms (by omega)).mono fun _ _ h=>h.ok hG.trim
 ·rw [show tyK p.kind=200 by rw [hk];rfl]
  exact (pl4 H1 hk ms (by omega)).mono fun _ _ h=>h.ok hG.trim
 ·rw [show tyK p.kind=204 by rw [hk];rfl]
  exact (pl5 H1 hk ms (by omega)).mono fun _ _ h=>h.ok hG.trim
 ·rw [show tyK p.kind=207 by rw [hk];rfl]
  exact (pl6 H1 hk ms (by omega)).mono fun _ _ h=>h.ok hG.trim
 ·rw [show tyK p.kind=214 by rw [hk];rfl]
  exact (pl7 H1 hk ms (by omega)).mono fun _ _ h=>h.ok hG.trim
 ·rw [show tyK p.kind=217 by rw [hk];rfl]
  exact (pl8 H1 hk ms (by omega)).mono fun _ _ h=>h.ok hG.trim
 ·rw [show tyK p.kind=222 by rw [hk];rfl]
  exact (pl9 H1 hk ms (by omega)).mono fun _ _ h=>h.ok hG.trim
 ·rw [show tyK p.kind=224 by rw [hk];rfl]
  exact (pl10 H1 hk ms (by omega)).mono fun _ _ h=>h.ok hG.trim
 ·rw [show tyK p.kind=229 by rw [hk];rfl]
  exact (pl11 H1 hk ms (by omega)).mono fun _ _ h=>h.ok hG.trim
 ·rw [show tyK p.kind=235 by rw [hk];rfl]
  exact (pl12 H1 hk ms (by omega) hG.bits).mono fun _ _ h=>h.ok hG.trim
theorem tyK_ne (k:Int):tyK k≠137:=by
 intro h
 unfold tyK at h
 by_cases h1:k=1
 ·rw [aG h1] at h;exact absurd h (by decide)
 rw [ap h1] at h
 by_cases h2:k=2
 ·rw [aG h2] at h;exact absurd h (by decide)
 rw [ap h2] at h
 by_cases h3:k=3
 ·rw [aG h3] at h;exact absurd h (by decide)
 rw [ap h3] at h
 by_cases h4:k=4
 ·rw [aG h4] at h;exact absurd h (by decide)
 rw [ap h4] at h
 by_cases h5:k=5
 ·rw [aG h5] at h;exact absurd h (by decide)
 rw [ap h5] at h
 by_cases h6:k=6
 ·rw [aG h6] at h;exact absurd h (by decide)
 rw [ap h6] at h
 by_cases h7:k=7
 ·rw [aG h7] at h;exact absurd h (by decide)
 rw [ap h7] at h
 by_cases h8:k=8
 ·rw [aG h8] at h;exact absurd h (by decide)
 rw [ap h8] at h
 by_cases h9:k=9
 ·rw [aG h9] at h;exact absurd h (by decide)
 rw [ap h9] at h
 by_cases h10:k=10
 ·rw [aG h10] at h;exact absurd h (by decide)
 rw [ap h10] at h
 by_cases h11:k=11
 ·rw [aG h11] at h;exact absurd h (by decide)
 rw [ap h11] at h
 by_cases h12:k=12
 ·rw [aG h12] at h;exact absurd h (by decide)
 rw [ap h12] at h
 by_cases h13:k=13
 ·rw [aG h13] at h;exact absurd h (by decide)
 rw [ap h13] at h
 exact absurd h (by decide)
theorem c38 (H:Sat F w ex ro) (hl:Ro.deep [.row 1 (L.map pkI)] [.slice l L.length c]∈ro) (hG:∀p∈L,Gd p n) (hn:n<=270000) (hLn:L.length<=1000000) :
  Calls pg 38 #[.slice l L.length c] w fun en w'=>∃o oc ro',en=.returned (.slice o L.length oc)/\(∀r∈ro,r∈ro')/\Sat F w' ex ro'/\Ro.deep [.row 30 (L.flatMap Pk.dat)] [.slice o L.length oc]∈ro':=by
 apply of38
 refine ⟨fun o ol oc x m w=>∃(j:Nat) (r:Option Nat) (ro':List Ro),x=(j:Int)/\j+m=L.length/\ol=j/\(∀r∈ro,r∈ro')/\Sat F w (.own 75 30 o ol oc r ((L.take j).flatMap Pk.dat)::ex) ro',⟨L.length,0,none,ro,rfl,by omega,rfl,fun _ h=>h,H.nilOwn 75 30⟩,?_⟩
 clear H;rintro dd2 o ol oc x m w ⟨j,r,ro',rfl,hjm,rfl,hr,H⟩
 refine ⟨fun hc=>?_,fun hc=>?_⟩
 ·rw [ah] at hc
  have hjl:ol < L.length:=by omega
  obtain ⟨bb,oo,us,rfl,hul,hcell,H1⟩:=H.elts (hr _ hl) (by omega)
  rw [List.length_map] at hul
  have H2:=H1.splitRo ms ol (d:=pkI L[ol]) (v:=us[ol]) (by rw [aW,ai hjl];rfl) (ai (by omega))
  refine ⟨_,rfl,by omega,by omega,?_⟩
  refine ⟨_,(by rw [show (ol:Int).toNat*1=ol by omega,add_flat];exact hcell ol us[ol] (ai (by omega))),?_⟩
  have htk:L.take (ol+1)=L.take ol++[L[ol]]:=by rw [am,ai hjl];rfl
  have hGp:=hG L[ol] (ax hjl)
  clear hcell H H1
  generalize us[ol]=u at H2 ⊢
  generalize L[ol]=p at H2 htk hGp
  have hp':Ro.deep [.ifc (tyK p.kind) (.ptr (rtcpD p))] [u]∈Ro.deep [pkI p] [u]::Ro.deep (L.map pkI) us::ro':=ms
  obtain ⟨u1,rfl,H3⟩:=H2.ifc hp'
  refine ⟨_,_,fun wx=>ta_no (by kernel_rfl) (tyK_ne _) wx,?_⟩
  refine fF ?_
  refine call_j (c66 H2 ms hGp hn) ?_
  clear H2 H3
  rintro _ w ⟨cells,ro2,rfl,hr2,H,hd⟩
  refine ⟨_,rfl,?_⟩
  obtain ⟨a7,a8,a9,a10,a13,a14,a15,a16,a18,a24,a25,c7,c8,c9,c10,c13,c14,c15,c16,c18,c24,c25,rfl,_⟩:=H.pk hd
  refine ⟨rfl,?_⟩
  refine sPush0 H (bytes:=360) (nds:=p.dat) (hD:=(fun G h=>h _ hd)) (hK:=?_)
  clear H;intro o2 ol2 oc2 r2 w ex2 _ H
  subst ex2
  refine ⟨m - 1,by omega,ol+1,r2,ro2,?_,by omega,rfl,fun r h=>hr2 r (mt (mt (hr r h))),?_⟩
  ·rw [wi64_of (by omega) (by omega)];simp
  ·rw [htk,aj]
   simp only [fm1,fm2,fm3]
   exact H
 ·rw [af] at hc
  obtain rfl:ol=L.length:=by omega
  rw [ao] at H
  exact ⟨o,oc,_,rfl,fun r h=>mt (hr r h),H.freeze,ms⟩
theorem c35 {t1 t3:TypeId}
  (H:Sat F w (e0::.blk p3 t3 [v]::.blk p1 t1 [.slice a n c]::ex) ro) (hx:Ro.B xs a n c∈ro) (hb:By xs) (hE:ErrC False ro) (hn:n<=270000) (hne:L≠[]) (hg:gl xs.length xs=some L) (hG:∀p∈L,Gd p n) (hL:L.length<=1000000) :
  Calls pg 35 #[.pointer (some ⟨p1,0,none⟩),.pointer (some ⟨p3,0,none⟩)] w fun en w'=>en=.returned (.bool true) /\
   ∃o oc ro',(∀r∈ro,r∈ro')/\Sat F w' (e0::.blk p3 t3 [.slice o L.length oc]::.blk p1 t1 [.slice a n c]::ex) ro'/\Ro.deep [.row 30 (L.flatMap Pk.dat)] [.slice o L.length oc]∈ro':=by
 apply of35
 have hlen:=H.lenB hx
 refine ⟨_,_,_,(by exact Ce (by rfl) H.b2 rfl),?_⟩
 refine call_j (c37 (xs:=xs) H hx (by omega)) ?_
 clear H
 rintro _ w ⟨a',c',rfl,_,H⟩
 refine ⟨_,_,_,rfl,?_⟩
 refine call_j (c36 H ms hb (hE.mono (fun r h=>mt h)) (by omega) hg hne (fun p hp=>by have:=(hG p hp).hi;omega)) ?_
 clear H
 rintro _ w ⟨o,oc,ro',rfl,hr,H,hd⟩
 refine ⟨_,_,_,_,rfl,?_⟩
 refine call_j (c38 H hd hG hn hL) ?_
 clear H
 rintro _ w ⟨o2,oc2,ro2,rfl,hr2,H,hd2⟩
 refine ⟨_,_,_,rfl,?_⟩
 refine sSt1 H (by rfl) (h:=?_);clear H;intro w _ H
 refine ⟨by simp [isIf],?_⟩
 exact ⟨rfl,o2,oc2,ro2,fun r h=>hr2 r (hr r (mt h)),H,hd2⟩
theorem c12
  (H:Sat F w ex ro) (hx:Ro.B xs a n c∈ro) (hb:By xs) (hE:ErrC False ro) (hn:n<=270000) (hne:L≠[]) (hg:gl xs.length xs=some L) (hG:∀p∈L,Gd p n) (hL:L.length<=1000000) :
  Calls pg 12 #[.slice a n c] w fun en w'=>∃o oc ro',en=.returned (.tuple #[.slice o L.length oc,.bool true])/\(∀r∈ro,r∈ro')/\Sat F w' ex ro'/\Ro.deep [.row 30 (L.flatMap Pk.dat)] [.slice o L.length oc]∈ro':=by
 apply of12
 refine sNew H ?_;clear H;intro p1 w _ H
 refine sNew H ?_;clear H;intro p3 w _ H
 refine sTry H (by kernel_rfl) ?_
 clear H;intro tb w H
 refine call_j (c35 H hx hb hE hn hne hg hG hL) ?_
 clear H
 rintro _ w ⟨rfl,o,oc,ro',hr,H,hd⟩
 refine ⟨true,_,_,rfl,H,?_⟩
 clear H;intro w H
 refine ⟨_,rfl,?_⟩
 refine fF ?_
 refine ⟨_,_,_,(by exact Ce (by rfl) H.b0 rfl),?_⟩
 refine sSt0 H (by rfl) (h:=?_);clear H;intro w _ H
 refine ⟨_,_,_,(by exact Ce (by rfl) H.b0 rfl),?_⟩
 exact ⟨o,oc,ro',rfl,hr,H.sub ((sc1).trans (sc1)) (fun _ h=>h),hd⟩
structure BuOk (p:Pk):Prop where
 lo:0<=p.kind
 hi:p.kind<=12
 sz:p.size<=600000
 bits:p.kind=12->0<=p.bits/\p.bits < 4294967296
theorem c65 (H:Sat F w ex ro) (hp:Ro.deep p.dat cells∈ro) (hB:BuOk p):Calls pg 65 #[.agg cells.toArray] w (BuPost F ex ro p):=by
 have lo:=hB.lo;have hi:=hB.hi
 have hkk:p.kind=0\/p.kind=1\/p.kind=2\/p.kind=3\/p.kind=4\/p.kind=5\/p.kind=6\/p.kind=7\/p.kind=8\/p.kind=9\/p.kind=10\/p.kind=11\/p.kind=12:=by omega
 rcases hkk with h | h | h | h | h | h | h | h | h | h | h | h | h
 ·exact bu0 H h hp hB.sz
 ·exact bu1 H h hp hB.sz
 ·exact bu2 H h hp hB.sz
 ·exact bu3 H h hp hB.sz
 ·exact bu4 H h hp hB.sz
 ·exact bu5 H h hp hB.sz
 ·exact bu6 H h hp hB.sz
 ·exact bu7 H h hp hB.sz
 ·exact bu8 H h hp hB.sz
 ·exact bu9 H h hp hB.sz
 ·exact bu10 H h hp hB.sz
 ·exact bu11 H h hp hB.sz
 ·exact bu12 H h hp hB.sz (hB.bits h)
theorem Pk.dat_lenN (p:Pk):(Pk.dat p).length=30:=rfl
theorem c46 (H:Sat F w ex ro) (hl:Ro.deep [.row 30 (L.flatMap Pk.dat)] [.slice l L.length c]∈ro) (hL:L.length<=1000000) (hB:∀p∈L,BuOk p) :
  Calls pg 46 #[.slice l L.length c] w fun en w'=>∃o oc,en=.returned (.slice o L.length oc)/\Sat F w' ex (.deep [.row 1 (L.map pkI)] [.slice o L.length oc]::ro):=by
 apply of46
 refine ⟨fun o ol oc x m w=>∃(j:Nat) (r:Option Nat),x=(j:Int)/\j+m=L.length/\ol=j/\Sat F w (.own 123 1 o ol oc r ((L.take j).map pkI)::ex) ro,⟨L.length,0,none,rfl,by omega,rfl,H.nilOwn 123 1⟩,?_⟩
 clear H;rintro dd2 o ol oc x m w ⟨j,r,rfl,hjm,rfl,H⟩
 refine ⟨fun hc=>?_,fun hc=>?_⟩
 ·rw [ah] at hc
  have hjl:ol < L.length:=by omega
  obtain ⟨p,us,e,hus,hcell,H1⟩:=H.eltF Pk.dat_lenN (by decide) hl (j:=ol) hjl
  have htk:L.take (ol+1)=L.take ol++[L[ol]]:=by rw [am,ai hjl];rfl
  have hBj:=hB L[ol] (ax hjl)
  clear H
  generalize L[ol]=D at H1 htk hBj
  obtain ⟨a7,a8,a9,a10,a13,a14,a15,a16,a18,a24,a25,c7,c8,c9,c10,c13,c14,c15,c16,c18,c24,c25,R,rfl,hr,H,_⟩:=H1.pkF ms
  clear H1
  refine ⟨p,e,by omega,by omega,?_⟩
  refine ⟨_,LdC (pkC D a7 a8 a9 a10 a13 a14 a15 a16 a18 a24 a25 c7 c8 c9 c10 c13 c14 c15 c16 c18 c24 c25) (by kernel_rfl) (by rw [show (ol:Int).toNat*30=ol*30 by omega];exact hcell),?_⟩
  clear hcell
  refine sNew H ?_;clear H;intro b11 w _ H
  refine sSw0 H (h:=?_);clear H;intro w _ H
  refine ⟨_,H.b0.ld,?_⟩
  refine call_j (c65 H (hr _ ms) hBj) ?_
  clear H
  rintro _ w ⟨T,v,ro',rfl,hr',H,hm⟩
  refine ⟨_,rfl,?_⟩
  refine ⟨rfl,?_⟩
  refine sPush1 H (bytes:=16) (nds:=[pkI D]) (hD:=(fun G h=>dc (h (.deep [_] [_]) hm).head dn)) (hK:=?_)
  clear H;intro o2 ol2 oc2 r2 w ex2 _ H
  subst ex2
  refine ⟨m - 1,by omega,ol+1,r2,?_,by omega,rfl,?_⟩
  ·rw [wi64_of (by omega) (by omega)];simp
  ·rw [htk,bM]
   exact H.sub (sc1) (fun r h=>hr' r (hr r (mt h)))
 ·rw [af] at hc
  obtain rfl:ol=L.length:=by omega
  rw [ao] at H
  exact ⟨o,oc,rfl,H.freeze⟩
theorem pre_le {α:Type} (f:α->List Int) {L:List α} (h:j < L.length):((L.take j).flatMap f).length+(f L[j]).length<=(L.flatMap f).length:=by
 have:=flat_at (f:=f) h
 omega
theorem c45 (H:Sat F w ex ro) (hl:Ro.deep [.row 1 (L.map pkI)] [.slice l L.length c]∈ro) (hL:L.length<=1000000) (hW:∀p∈L,WrOk p) (hN:(L.flatMap wrOne).length<=50000000) :
  Calls pg 45 #[.slice l L.length c] w (MPost F ex ro (L.flatMap wrOne)):=by
 apply of45
 refine sMk H (e:=5) (z:=.int .u8 0) (bytes:=1) (by kernel_rfl) (by kernel_rfl) (by rfl) (by unfold maxLen;omega) (by omega) (n:=0) (by rfl) (by rfl) ?_
 clear H;intro g w _ H
 replace H:=H.toOwn 1 0 (ob []) (by rfl) (by decide) (fun G h=>DeepL.nil _ _)
 refine ⟨fun o ol oc x m w=>∃(j:Nat) (r:Option Nat),x=(j:Int)/\j+m=L.length/\ol=((L.take j).flatMap wrOne).length/\Sat F w (.own 5 1 o ol oc r (ob ((L.take j).flatMap wrOne))::ex) ro,⟨L.length,0,_,rfl,by omega,rfl,H⟩,?_⟩
 clear H;rintro dd2 o ol oc x m w ⟨j,r,rfl,hjm,hol,H⟩
 refine ⟨fun hc=>?_,fun hc=>?_⟩
 ·rw [ah] at hc
  have hjl:j < L.length:=by omega
  obtain ⟨bb,oo,us,rfl,hul,hcell,H0⟩:=H.elts hl (by omega)
  rw [List.length_map] at hul
  have H1:=H0.splitRo ms j (d:=pkI L[j]) (v:=us[j]) (by rw [aW,ai hjl];rfl) (ai (by omega))
  clear H0
  have htk:L.take (j+1)=L.take j++[L[j]]:=by rw [am,ai hjl];rfl
  have hWj:=hW L[j] (ax hjl)
  have hpre:=pre_le wrOne hjl
  clear H
  generalize L[j]=D at H1 htk hWj hpre
  refine ⟨_,rfl,by omega,by omega,?_⟩
  refine ⟨_,(by rw [show (j:Int).toNat*1=j by omega,add_flat];exact hcell j us[j] (ai (by omega))),?_⟩
  refine inv_j (inM H1 ms hWj) ?_
  clear H1 hcell
  rintro _ w ⟨a,cc,ro',rfl,hr,H,hm⟩
  refine ⟨_,_,_,_,rfl,?_⟩
  refine ⟨by simp [isIf],?_⟩
  refine fF ?_
  refine sAppV H hm (by omega) ?_
  clear H;intro o2 ol2 oc2 r2 w hol2 _ H
  refine ⟨m - 1,by omega,j+1,r2,?_,by omega,?_,?_⟩
  ·rw [wi64_of (by omega) (by omega)];simp
  ·rw [htk,aj]
   simp only [av,aD,aE,ae]
   omega
  ·rw [htk,aj]
   simp only [fm1,fm2,fm3]
   exact H.sub (ak _) (fun r h=>hr r (mt (mt h)))
 ·rw [af] at hc
  obtain rfl:j=L.length:=by omega
  rw [ao] at H hol
  exact MPost.own H (ak _) (fun _ h=>h) hol
theorem foot_own:∀b∈foots [.own e sz a n c r ds],some b=r:=by
 intro b hb
 have:b∈r.toList:=by simpa [foots,Ex.foot] using hb
 cases r with
 | none=>cases this
 | some k=>simp at this;rw [this]
theorem Sat.regO (H:Sat F w (.own e sz a n c r ds::ex) ro) :
  ∃F2 ex2,Sat F2 w (.own e sz a n c r ds::ex2) ro/\(∀{x w' ro'},Sat F2 w' (x::ex2) ro'->w.grownBy w' r/\Sat F w' (x::ex) ro')/\(∀{x y w' ro'},Sat F2 w' (x::y::ex2) ro'->w.grownBy w' r/\Sat F w' (x::y::ex) ro')/\(∀{b t cells},Ex.blk b t cells∈ex->Ex.blk b t cells∈ex2):=by
 obtain ⟨ex2,S,back,hmem⟩:=Sat.still3 (E0:=[.own e sz a n c r ds]) H r foot_own
 exact ⟨_,ex2,S,fun {x} _ _ h=>back [x] _ _ h,fun {x y} _ _ h=>back [x,y] _ _ h,fun h=>hmem _ _ _ h⟩
theorem Sat.regN (H:Sat F w ex ro) :
  ∃F2 ex2,Sat F2 w ex2 ro/\(∀{x w' ro'},Sat F2 w' (x::ex2) ro'->w.grownBy w' none/\Sat F w' (x::ex) ro')/\(∀{x y w' ro'},Sat F2 w' (x::y::ex2) ro'->w.grownBy w' none/\Sat F w' (x::y::ex) ro')/\(∀{b t cells},Ex.blk b t cells∈ex->Ex.blk b t cells∈ex2):=by
 obtain ⟨ex2,S,back,hmem⟩:=Sat.still3 (E0:=[]) H none (by simp [foots])
 exact ⟨_,ex2,S,fun {x} _ _ h=>back [x] _ _ h,fun {x y} _ _ h=>back [x,y] _ _ h,fun h=>hmem _ _ _ h⟩
def RepW (x:Rep):Prop:=u32R x.1/\u32R x.2.2.1/\u32R x.2.2.2.1/\u32R x.2.2.2.2.1/\u32R x.2.2.2.2.2.1/\u32R x.2.2.2.2.2.2
def FoPost (F:Fr) (ex:List Ex) (ro:List Ro) (m:Nat) (P:List Int->Prop) (en:Ending) (w':World):Prop:=
 ∃a c r B ok,en=.returned (.tuple #[.slice a B.length c,.bool ok])/\Sat F w' (.own 5 1 a B.length c r (ob B)::ex) ro/\B.length<=m/\(ok=true->P B)
theorem FoPost.no {P:List Int->Prop} (H:Sat F w exs ro) (hs:ex.Sublist exs):FoPost F ex ro m P (.returned (.tuple #[.slice none 0 0,.bool false])) w:=
 ⟨none,0,none,[],false,rfl,(H.sub hs (fun _ h=>h)).nilOwn 5 1,bE _,fun h=>by cases h⟩
theorem c113 {d0 d1 d2 d3 d4 d5 d6:Int} (H:Sat F w ex ro) (hR:RepW (d0,d1,d2,d3,d4,d5,d6)) :
  Calls pg 113 #[.agg #[.int .u32 d0,.int .u8 d1,.int .u32 d2,.int .u32 d3,.int .u32 d4,.int .u32 d5,.int .u32 d6]] w (FoPost F ex ro 24 fun B=>B=wRep (d0,d1,d2,d3,d4,d5,d6)/\d2 < 16777216):=by
 obtain ⟨h0,h2,h3,h4,h5,h6⟩:u32R d0/\u32R d2/\u32R d3/\u32R d4/\u32R d5/\u32R d6:=hR
 apply of113
 refine sNew H ?_;clear H;intro b1 w _ H
 refine ⟨_,(H.b0.at0 rfl),?_⟩
 refine ⟨fun hc=>FoPost.no H (sc1),fun hc=>?_⟩
 have hc:d2 < 16777216:=by simpa using hc
 have e1:u8.wrap (ishr .u32 d2 (16:Int))=d2 / 65536:=by rw [ishr_of (b:=(16:Int)) 16 (by rfl) (by decide),wu8];omega
 have e2:u8.wrap (ishr .u32 d2 (8:Int))=d2 / 256 % 256:=by rw [ishr_of (b:=(8:Int)) 8 (by rfl) (by decide),wu8];omega
 have e3:u8.wrap d2=d2 % 256:=wu8 _
 refine ⟨none,?_⟩;replace H:=H.drew;generalize w.drew=w at H ⊢;obtain ⟨F2,ex2,S,back1,back2,hm⟩:=H.regN
 refine ⟨nn,H.b0.row,_,(H.b0.at0 rfl),?_⟩
 refine ⟨nn,H.b0.row,_,(H.b0.at0 rfl),?_⟩
 refine ⟨nn,H.b0.row,_,(H.b0.at0 rfl),?_⟩
 refine ⟨nn,H.b0.row,_,(H.b0.at0 rfl),?_⟩
 refine ⟨nn,H.b0.row,_,(H.b0.at0 rfl),?_⟩
 clear H;have H:=S;clear S
 rw [e1,e2,e3]
 refine ⟨?_,?_⟩
 ·refine call_j (c112 (B:=[]) (H.nilOwn 5 1) h0 (by omega)) ?_
  clear H;rintro _ w ⟨a1,c1,r1,rfl,H⟩
  refine ⟨_,_,_,rfl,(back1 H).1,?_⟩
  refine sNew H ?_;clear H;intro b2 w _ H
  refine ⟨(back2 H).1,?_⟩
  refine sApp1 H (bytes:=1) (by kernel_rfl) [.int .u8 d1,.int .u8 (d2 / 65536),.int .u8 (d2 / 256 % 256),.int .u8 (d2 % 256)] (ob [d1,d2 / 65536,d2 / 256 % 256,d2 % 256]) (by rfl) (fun j u hu=>by rw [add_flat,aK];exact H.b0.cell hu) (fun G h=>DeepL.ones [_,_,_,_]) (by simp [Value.oneCell']) (by unfold maxLen;omega) (by omega) ?_
  clear H;intro a2 n2 c2 r2 w hn2 _ H
  refine ⟨(back2 H).1,?_⟩
  replace H:=(back2 H).2;clear back1 back2 hm
  rw [<-ob_append,bI] at H
  replace H:=H.d1
  subst hn2
  refine ⟨r2,?_⟩;replace H:=H.drew;generalize w.drew=w at H ⊢;obtain ⟨F2,ex2,S,back1,back2,hm⟩:=H.regO
  refine ⟨(H.ne (mt ms) ms),H.b1.row,_,(H.b1.at0 rfl),?_⟩
  refine ⟨(H.ne (mt ms) ms),H.b1.row,_,(H.b1.at0 rfl),?_⟩
  refine ⟨(H.ne (mt ms) ms),H.b1.row,_,(H.b1.at0 rfl),?_⟩
  refine ⟨(H.ne (mt ms) ms),H.b1.row,_,(H.b1.at0 rfl),?_⟩
  clear H;have H:=S;clear S
  refine call_j (c112 H h3 (by omega)) ?_
  clear H;rintro _ w ⟨a3,c3,r3,rfl,H⟩
  refine ⟨_,_,_,rfl,(back1 H).1,?_⟩
  refine call_j (c112 H h4 (by omega)) ?_
  clear H;rintro _ w ⟨a4,c4,r4,rfl,H⟩
  refine ⟨_,_,_,rfl,(back1 H).1,?_⟩
  refine call_j (c112 H h5 (by omega)) ?_
  clear H;rintro _ w ⟨a5,c5,r5,rfl,H⟩
  refine ⟨_,_,_,rfl,(back1 H).1,?_⟩
  refine call_j (c112 H h6 (by omega)) ?_
  clear H;rintro _ w ⟨a6,c6,r6,rfl,H⟩
  refine ⟨_,_,_,rfl,(back1 H).1,?_⟩
  replace H:=(back1 H).2;clear back1 back2 hm
  exact ⟨a6,c6,r6,wRep (d0,d1,d2,d3,d4,d5,d6),true,rfl,H.sub (List.Sublist.cons_cons _ (sc1)) (fun _ h=>h),aN 24,fun _=>⟨rfl,hc⟩⟩
 ·refine sNew H ?_;clear H;intro b2 w _ H
  refine ⟨(back1 H).1,?_⟩
  refine call_j (c112 (B:=[]) (H.nilOwn 5 1) h0 (by omega)) ?_
  clear H;rintro _ w ⟨a1,c1,r1,rfl,H⟩
  refine ⟨_,_,_,rfl,(back2 H).1,?_⟩
  replace H:=H.u1
  refine sApp1 H (bytes:=1) (by kernel_rfl) [.int .u8 d1,.int .u8 (d2 / 65536),.int .u8 (d2 / 256 % 256),.int .u8 (d2 % 256)] (ob [d1,d2 / 65536,d2 / 256 % 256,d2 % 256]) (by rfl) (fun j u hu=>by rw [add_flat,aK];exact H.b0.cell hu) (fun G h=>DeepL.ones [_,_,_,_]) (by simp [Value.oneCell']) (by unfold maxLen;omega) (by omega) ?_
  clear H;intro a2 n2 c2 r2 w hn2 _ H
  refine ⟨(back2 H).1,?_⟩
  replace H:=(back2 H).2;clear back1 back2 hm
  rw [<-ob_append,bI] at H
  replace H:=H.d1
  subst hn2
  refine ⟨r2,?_⟩;replace H:=H.drew;generalize w.drew=w at H ⊢;obtain ⟨F2,ex2,S,back1,back2,hm⟩:=H.regO
  refine ⟨(H.ne (mt ms) ms),H.b1.row,_,(H.b1.at0 rfl),?_⟩
  refine ⟨(H.ne (mt ms) ms),H.b1.row,_,(H.b1.at0 rfl),?_⟩
  refine ⟨(H.ne (mt ms) ms),H.b1.row,_,(H.b1.at0 rfl),?_⟩
  refine ⟨(H.ne (mt ms) ms),H.b1.row,_,(H.b1.at0 rfl),?_⟩
  clear H;have H:=S;clear S
  refine call_j (c112 H h3 (by omega)) ?_
  clear H;rintro _ w ⟨a3,c3,r3,rfl,H⟩
  refine ⟨_,_,_,rfl,(back1 H).1,?_⟩
  refine call_j (c112 H h4 (by omega)) ?_
  clear H;rintro _ w ⟨a4,c4,r4,rfl,H⟩
  refine ⟨_,_,_,rfl,(back1 H).1,?_⟩
  refine call_j (c112 H h5 (by omega)) ?_
  clear H;rintro _ w ⟨a5,c5,r5,rfl,H⟩
  refine ⟨_,_,_,rfl,(back1 H).1,?_⟩
  refine call_j (c112 H h6 (by omega)) ?_
  clear H;rintro _ w ⟨a6,c6,r6,rfl,H⟩
  refine ⟨_,_,_,rfl,(back1 H).1,?_⟩
  replace H:=(back1 H).2;clear back1 back2 hm
  exact ⟨a6,c6,r6,wRep (d0,d1,d2,d3,d4,d5,d6),true,rfl,H.sub (List.Sublist.cons_cons _ (sc1)) (fun _ h=>h),aN 24,fun _=>⟨rfl,hc⟩⟩
theorem iand31 (h:n<=100000000):iand .i64 (n:Int) (31:Int)=((n % 32:Nat):Int):=by
 have h2:(BitVec.ofInt i64.bits (n:Int) &&& BitVec.ofInt i64.bits (31:Int)).toNat=n % 32:=by
  have e:(31:Int)=((31:Nat):Int):=rfl
  rw [e,BitVec.ofInt_natCast,BitVec.ofInt_natCast,BitVec.toNat_and,BitVec.toNat_ofNat,BitVec.toNat_ofNat]
  simp only [IntKind.bits]
  rw [bf (show n < 2 ^ 64 by omega),bf (show 31 < 2 ^ 64 by omega)]
  exact Nat.and_two_pow_sub_one_eq_mod n 5
 unfold iand
 rw [h2,wi64_of (by omega) (by omega)]
theorem c111 {p5:Nat} {ok hp:Bool} {c t l:Int} (H:Sat F w (.blk p5 4 [.bool ok]::.blk p3 42 [.bool hp,.int .u8 c,.int .u8 t,.int .u16 l]::ex) ro) (hn:n<=100000000) :
  Calls pg 111 #[.int .i64 (n:Int),.pointer (some ⟨p5,0,none⟩),.pointer (some ⟨p3,0,none⟩)] w fun en w'=>en=.returned (.tuple #[])/\∃ok',Sat F w' (.blk p5 4 [.bool ok']::.blk p3 42 [.bool hp,.int .u8 ((n % 32:Nat):Int),.int .u8 t,.int .u16 l]::ex) ro/\(ok'=true->ok=true/\n<=31):=by
 apply of111
 have e:u8.wrap (iand .i64 (n:Int) (31:Int))=((n % 32:Nat):Int):=by
  rw [iand31 hn,wu8]
  omega
 unfold SW111
 rw [e]
 refine ⟨fun hc=>?_,fun hc=>?_⟩
 ·refine sSt0 H (by rfl) (h:=?_);clear H;intro w _ H
  refine sSt1 H (h:=?_);clear H;intro w _ H
  exact ⟨rfl,false,H,fun h=>by cases h⟩
 ·rw [af] at hc
  refine sSt1 H (h:=?_);clear H;intro w _ H
  exact ⟨rfl,ok,H,fun h=>⟨h,by omega⟩⟩
theorem sAppS (H:Sat F w (.own 5 1 a n c r (ob A)::ex) ro) (s:ByteArray) (h0:0 < n) (hn:n+s.size<=100000000)
  (hK:∀a' c' r' w',Sat F w' (.own 5 1 a' (n+s.size) c' r' (ob (A++sbs s))::ex) ro->K a' (n+s.size) c' w') :
  ∃a' n' c',∃w',(Builtin.append_ #[22,9] ty #[.slice a n c,.string s]).run pg w=.ok (.slice a' n' c') w'/\K a' n' c' w':=by
 obtain ⟨i,hi,hz,hs,hb⟩:=u8Info
 obtain ⟨xs,ho,hxs⟩:=H.he (.own 5 1 a n c r (ob A)) (by simp)
 have hlen0:=ho.own.1
 have hsc:Lib.strCells s=u8s (sbs s):=by simp [Lib.strCells,u8s,sbs]
 have hsl:=Lib.strCells_length s
 have hdl:DeepL w (fun b=>b ∉ foots (.own 5 1 a n c r (ob A)::ex)) (ob (sbs s)) (Lib.strCells s):=by
  have e:ob (sbs s)=(u8s (sbs s)).map .one:=by simp [ob,u8s]
  rw [e,hsc];exact DeepL.ones _
 have fin:∀(a':Option Addr) (c':Nat) (r':Option Nat) (w':World),w.grownBy w' r->OS w' 0 5 1 a' (n+s.size) c' r' (xs++Lib.strCells s)->(r'=r\/r'=some w.heap.size)->K a' (n+s.size) c' w':=by
  intro a' c' r' w' hg ho' hr
  refine hK a' c' r' w' ?_
  rw [ob_append]
  exact H.owned hxs hdl hg ho' (hr.imp id fun h=>⟨_,h,aN _⟩)
 have hlen:(xs++Lib.strCells s).length=(n+s.size)*1:=by rw [ae,hlen0,hsl];omega
 rcases ho.own.2 with ⟨hv,h1⟩ | ⟨g,cap,cur,hv,hbg,hg,hnc,hcm,hcs,htake⟩
 ·omega
 ·have hvb:=ho.blk
  rw [hv] at hvb
  simp only [bN] at hv
  obtain ⟨rfl,_,rfl⟩:=hv
  have hr:r=some g:=by simpa [Value.ownBlock] using hvb
  by_cases hroom:n+s.size<=c
  ·have hrun:=Lib.run_append_room_string (P:=pg) w 22 9 ty 5 i uSl uStr hi hs g n c cur hg s hroom (by rw [hcs];omega)
   refine ⟨_,_,_,_,hrun,fin _ _ r _ ⟨rfl,rfl,rfl,by simp [World.setRow],fun j _ hj=>setRow_other w g j _ (fun e=>hj (by rw [hr,e]))⟩ ⟨⟨hlen,.inr ⟨g,c,_,rfl,hbg,setRow_heap w g cur _ 5 _ hg,hroom,hcm,?_,?_⟩⟩,?_⟩ (.inl rfl)⟩
   ·simp only [List.size_toArray,ae,bq,az,bD,hsl]
    omega
   ·rw [bd] at htake ⊢
    rw [htake,show n+s.size=(xs++Lib.strCells s).length by omega]
    exact List.take_left
   ·rw [hr];rfl
  ·have holds:∀j u,xs[j]?=some u->w.cell? ((⟨g,0,none⟩:Addr).add j)=some u:=ho.own.cells (g:=g) rfl
   have hfits:Builtin.nextslicecap (n+s.size) c*1<=281474976710656:=growslice_fits (by omega) (by omega)
   have hrun:=Lib.run_append_grow_string (P:=pg) w 22 9 ty 5 i (.int .u8 0) uSl uStr hi hz ⟨g,0,none⟩ n c xs (by rw [hs];omega) holds s (by omega) (by omega) (by rw [hb];exact hfits)
   have hge:=grownCap_ge w (n+s.size) c 5
   have hcm2:grownCap w (n+s.size) c 5<=maxLen:=grownCap_le_maxLen w (n+s.size) c 5 (by unfold maxLen;omega)
   refine ⟨_,_,_,_,hrun,fin _ _ (some w.heap.size) _ ⟨rfl,rfl,rfl,by simp,fun j hj _=>heap_alloc_old w.drew _ hj⟩ ⟨⟨hlen,.inr ⟨w.heap.size,_,_,rfl,bE _,heap_alloc_new w.drew _,hge,hcm2,?_,?_⟩⟩,rfl⟩ (.inr rfl)⟩
   ·simp only [Array.size_append,List.size_toArray,size_zeroCells,hlen0,hsl]
    simp [Value.cells]
    omega
   ·simp only [Array.toList_append,an]
    rw [<-an,<-hlen]
    exact List.take_left
def typL:List Int:=[0,200,201,202,203,204,205,205,205,206,206,206,206,205]
def cntL:List Int:=[0,0,0,0,0,0,1,5,11,1,2,4,15,15]
def typK (k:Int):Int:=typL.getD k.toNat 0
def cntK (k:Int):Int:=cntL.getD k.toNat 0
theorem tabAt {L:List Int} {k:Int} (h:k.toNat < L.length):(u8s L)[k.toNat]?=some (.int .u8 (L.getD k.toNat 0)):=by
 unfold u8s
 rw [aW,ai h,bJ,ai h]
 rfl
structure FoOk (p:Pk):Prop where
 lo:0<=p.kind
 hi:p.kind<=13
 sz:p.kind≠13->p.size<=1100000
 s:u32R p.sender
 m:u32R p.media
 ntp:0<=p.ntp/\p.ntp < 18446744073709551616
 rtp:u32R p.rtp
 pks:u32R p.packets
 ocs:u32R p.octets
 tim:u32R p.time
 reps:∀y∈p.reports,RepW y
 chks:∀y∈p.chunks,u32R y.1
 srcs:∀y∈p.sources,u32R y
 sub:0<=p.sub/\p.sub < 256
 prs:∀x∈p.pairs,(0<=x.1/\x.1 < 65536)/\0<=x.2/\x.2 < 65536
 sls:∀x∈p.slices,(0<=x.1/\x.1 < 65536)/\(0<=x.2.1/\x.2.1 < 65536)/\0<=x.2.2/\x.2.2 < 256
 ens:∀x∈p.entries,u32R x.1
 bls:∀y∈p.blocks,u32R y.1/\(0<=y.2.1/\y.2.1 < 65536)/\∀m∈y.2.2,(0<=m.2.1/\m.2.1 < 256)/\0<=m.2.2/\m.2.2 < 65536
 bt:u32R p.bits
 dat:p.kind=0->By p.data
def MetF (m:Met):Prop:=m.1=true\/m.2.1=0/\m.2.2=0
def WrX (p:Pk):Prop:=(p.kind=6->p.pairs≠[])/\(p.kind=8->p.blocks≠[]/\∀y∈p.blocks,∀m∈y.2.2,MetF m)/\(p.kind=10->p.slices≠[])/\(p.kind=11->p.entries≠[])
theorem WrX.no (h:p.kind≠6/\p.kind≠8/\p.kind≠10/\p.kind≠11):WrX p:=⟨fun e=>absurd e h.1,fun e=>absurd e h.2.1,fun e=>absurd e h.2.2.1,fun e=>absurd e h.2.2.2⟩
def FmOk (p:Pk) (c:Int) (B:List Int):Prop:=p.kind≠13/\WrX p/\(B.length<=240000->WrOk p/\hdrB c (typK p.kind) ((B.length / 4:Nat):Int)++B=wrOne p)
theorem WrOk.of1 (h:p.kind=1) (h1:u32R p.sender/\(0<=p.ntp/\p.ntp < 18446744073709551616)/\u32R p.rtp/\u32R p.packets/\u32R p.octets/\p.reports.length<=31/\p.ext.length % 4=0/\28+24*p.reports.length+p.ext.length<=262144/\∀y∈p.reports,RepR y):WrOk p:=
 ⟨by omega,by omega,fun _=>h1,fun e=>absurd (h.symm.trans e) (by decide),fun e=>absurd (h.symm.trans e) (by decide),fun e=>absurd (h.symm.trans e) (by decide),fun e=>absurd (h.symm.trans e) (by decide),fun e=>absurd (h.symm.trans e) (by decide),fun e=>absurd (h.symm.trans e) (by decide),fun e=>absurd (h.symm.trans e) (by decide),fun e=>absurd (h.symm.trans e) (by decide),fun e=>absurd (h.symm.trans e) (by decide),fun e=>absurd (h.symm.trans e) (by decide),fun e=>absurd (h.symm.trans e) (by decide)⟩
theorem wr_1 (h:p.kind=1):wrOne p=wrSR p.sender p.ntp p.rtp p.packets p.octets p.reports p.ext:=by unfold wrOne;simp [h]
theorem ty_1 (h:p.kind=1):typK p.kind=200:=by rw [h];rfl
theorem WrOk.of2 (h:p.kind=2) (h2:u32R p.sender/\p.reports.length<=31/\p.ext.length % 4=0/\8+24*p.reports.length+p.ext.length<=262144/\∀y∈p.reports,RepR y):WrOk p:=
 ⟨by omega,by omega,fun e=>absurd (h.symm.trans e) (by decide),fun _=>h2,fun e=>absurd (h.symm.trans e) (by decide),fun e=>absurd (h.symm.trans e) (by decide),fun e=>absurd (h.symm.trans e) (by decide),fun e=>absurd (h.symm.trans e) (by decide),fun e=>absurd (h.symm.trans e) (by decide),fun e=>absurd (h.symm.trans e) (by decide),fun e=>absurd (h.symm.trans e) (by decide),fun e=>absurd (h.symm.trans e) (by decide),fun e=>absurd (h.symm.trans e) (by decide),fun e=>absurd (h.symm.trans e) (by decide)⟩
theorem wr_2 (h:p.kind=2):wrOne p=wrRR p.sender p.reports p.ext:=by unfold wrOne;simp [h]
theorem ty_2 (h:p.kind=2):typK p.kind=201:=by rw [h];rfl
theorem WrOk.of3 (h:p.kind=3) (h3:p.chunks.length<=31/\(p.chunks.flatMap wChk).length<=262140/\∀y∈p.chunks,ChkR y):WrOk p:=
 ⟨by omega,by omega,fun e=>absurd (h.symm.trans e) (by decide),fun e=>absurd (h.symm.trans e) (by decide),fun _=>h3,fun e=>absurd (h.symm.trans e) (by decide),fun e=>absurd (h.symm.trans e) (by decide),fun e=>absurd (h.symm.trans e) (by decide),fun e=>absurd (h.symm.trans e) (by decide),fun e=>absurd (h.symm.trans e) (by decide),fun e=>absurd (h.symm.trans e) (by decide),fun e=>absurd (h.symm.trans e) (by decide),fun e=>absurd (h.symm.trans e) (by decide),fun e=>absurd (h.symm.trans e) (by decide)⟩
theorem wr_3 (h:p.kind=3):wrOne p=wrSD p.chunks:=by unfold wrOne;simp [h]
theorem ty_3 (h:p.kind=3):typK p.kind=202:=by rw [h];rfl
theorem WrOk.of4 (h:p.kind=4) (h4:p.sources.length<=31/\p.text.size<=255/\∀y∈p.sources,u32R y):WrOk p:=
 ⟨by omega,by omega,fun e=>absurd (h.symm.trans e) (by decide),fun e=>absurd (h.symm.trans e) (by decide),fun e=>absurd (h.symm.trans e) (by decide),fun _=>h4,fun e=>absurd (h.symm.trans e) (by decide),fun e=>absurd (h.symm.trans e) (by decide),fun e=>absurd (h.symm.trans e) (by decide),fun e=>absurd (h.symm.trans e) (by decide),fun e=>absurd (h.symm.trans e) (by decide),fun e=>absurd (h.symm.trans e) (by decide),fun e=>absurd (h.symm.trans e) (by decide),fun e=>absurd (h.symm.trans e) (by decide)⟩
theorem wr_4 (h:p.kind=4):wrOne p=wrBye p.sources p.text:=by unfold wrOne;simp [h]
theorem ty_4 (h:p.kind=4):typK p.kind=203:=by rw [h];rfl
theorem WrOk.of5 (h:p.kind=5) (h5:(0<=p.sub/\p.sub < 32)/\u32R p.sender/\p.text.size=4/\p.data.length % 4=0/\p.data.length<=65520):WrOk p:=
 ⟨by omega,by omega,fun e=>absurd (h.symm.trans e) (by decide),fun e=>absurd (h.symm.trans e) (by decide),fun e=>absurd (h.symm.trans e) (by decide),fun e=>absurd (h.symm.trans e) (by decide),fun _=>h5,fun e=>absurd (h.symm.trans e) (by decide),fun e=>absurd (h.symm.trans e) (by decide),fun e=>absurd (h.symm.trans e) (by decide),fun e=>absurd (h.symm.trans e) (by decide),fun e=>absurd (h.symm.trans e) (by decide),fun e=>absurd (h.symm.trans e) (by decide),fun e=>absurd (h.symm.trans e) (by decide)⟩
theorem wr_5 (h:p.kind=5):wrOne p=wrApp p.sub p.sender p.text p.data:=by unfold wrOne;simp [h]
theorem ty_5 (h:p.kind=5):typK p.kind=204:=by rw [h];rfl
theorem WrOk.of6 (h:p.kind=6) (h6:u32R p.sender/\u32R p.media/\p.pairs.length<=253/\∀x∈p.pairs,(0<=x.1/\x.1 < 65536)/\0<=x.2/\x.2 < 65536):WrOk p:=
 ⟨by omega,by omega,fun e=>absurd (h.symm.trans e) (by decide),fun e=>absurd (h.symm.trans e) (by decide),fun e=>absurd (h.symm.trans e) (by decide),fun e=>absurd (h.symm.trans e) (by decide),fun e=>absurd (h.symm.trans e) (by decide),fun _=>h6,fun e=>absurd (h.symm.trans e) (by decide),fun e=>absurd (h.symm.trans e) (by decide),fun e=>absurd (h.symm.trans e) (by decide),fun e=>absurd (h.symm.trans e) (by decide),fun e=>absurd (h.symm.trans e) (by decide),fun e=>absurd (h.symm.trans e) (by decide)⟩
theorem wr_6 (h:p.kind=6):wrOne p=wrFb 1 205 ((2+1*p.pairs.length:Nat):Int) p.sender p.media (p.pairs.flatMap wPar):=by unfold wrOne;simp [h]
theorem ty_6 (h:p.kind=6):typK p.kind=205:=by rw [h];rfl
theorem WrOk.of7 (h:p.kind=7) (h7:u32R p.sender/\u32R p.media):WrOk p:=
 ⟨by omega,by omega,fun e=>absurd (h.symm.trans e) (by decide),fun e=>absurd (h.symm.trans e) (by decide),fun e=>absurd (h.symm.trans e) (by decide),fun e=>absurd (h.symm.trans e) (by decide),fun e=>absurd (h.symm.trans e) (by decide),fun e=>absurd (h.symm.trans e) (by decide),fun _=>h7,fun e=>absurd (h.symm.trans e) (by decide),fun e=>absurd (h.symm.trans e) (by decide),fun e=>absurd (h.symm.trans e) (by decide),fun e=>absurd (h.symm.trans e) (by decide),fun e=>absurd (h.symm.trans e) (by decide)⟩
theorem wr_7 (h:p.kind=7):wrOne p=wrTwo 5 205 p.sender p.media:=by unfold wrOne;simp [h]
theorem ty_7 (h:p.kind=7):typK p.kind=205:=by rw [h];rfl
theorem WrOk.of8 (h:p.kind=8) (h8:u32R p.sender/\u32R p.time/\p.blocks.length<=100000/\(p.blocks.flatMap wBlo).length<=262132/\∀y∈p.blocks,BloR y):WrOk p:=
 ⟨by omega,by omega,fun e=>absurd (h.symm.trans e) (by decide),fun e=>absurd (h.symm.trans e) (by decide),fun e=>absurd (h.symm.trans e) (by decide),fun e=>absurd (h.symm.trans e) (by decide),fun e=>absurd (h.symm.trans e) (by decide),fun e=>absurd (h.symm.trans e) (by decide),fun e=>absurd (h.symm.trans e) (by decide),fun _=>h8,fun e=>absurd (h.symm.trans e) (by decide),fun e=>absurd (h.symm.trans e) (by decide),fun e=>absurd (h.symm.trans e) (by decide),fun e=>absurd (h.symm.trans e) (by decide)⟩
theorem wr_8 (h:p.kind=8):wrOne p=wrCc p.sender p.blocks p.time:=by unfold wrOne;simp [h]
theorem ty_8 (h:p.kind=8):typK p.kind=205:=by rw [h];rfl
theorem WrOk.of9 (h:p.kind=9) (h9:u32R p.sender/\u32R p.media):WrOk p:=
 ⟨by omega,by omega,fun e=>absurd (h.symm.trans e) (by decide),fun e=>absurd (h.symm.trans e) (by decide),fun e=>absurd (h.symm.trans e) (by decide),fun e=>absurd (h.symm.trans e) (by decide),fun e=>absurd (h.symm.trans e) (by decide),fun e=>absurd (h.symm.trans e) (by decide),fun e=>absurd (h.symm.trans e) (by decide),fun e=>absurd (h.symm.trans e) (by decide),fun _=>h9,fun e=>absurd (h.symm.trans e) (by decide),fun e=>absurd (h.symm.trans e) (by decide),fun e=>absurd (h.symm.trans e) (by decide)⟩
theorem wr_9 (h:p.kind=9):wrOne p=wrTwo 1 206 p.sender p.media:=by unfold wrOne;simp [h]
theorem ty_9 (h:p.kind=9):typK p.kind=206:=by rw [h];rfl
theorem WrOk.of10 (h:p.kind=10) (h10:u32R p.sender/\u32R p.media/\p.slices.length<=253/\∀x∈p.slices,(0<=x.1/\x.1 < 8192)/\(0<=x.2.1/\x.2.1 < 8192)/\0<=x.2.2/\x.2.2 < 64):WrOk p:=
 ⟨by omega,by omega,fun e=>absurd (h.symm.trans e) (by decide),fun e=>absurd (h.symm.trans e) (by decide),fun e=>absurd (h.symm.trans e) (by decide),fun e=>absurd (h.symm.trans e) (by decide),fun e=>absurd (h.symm.trans e) (by decide),fun e=>absurd (h.symm.trans e) (by decide),fun e=>absurd (h.symm.trans e) (by decide),fun e=>absurd (h.symm.trans e) (by decide),fun e=>absurd (h.symm.trans e) (by decide),fun _=>h10,fun e=>absurd (h.symm.trans e) (by decide),fun e=>absurd (h.symm.trans e) (by decide)⟩
theorem wr_10 (h:p.kind=10):wrOne p=wrFb 2 206 ((2+1*p.slices.length:Nat):Int) p.sender p.media (p.slices.flatMap wSli):=by unfold wrOne;simp [h]
theorem ty_10 (h:p.kind=10):typK p.kind=206:=by rw [h];rfl
theorem WrOk.of11 (h:p.kind=11) (h11:u32R p.sender/\u32R p.media/\p.entries.length<=30000/\∀x∈p.entries,0<=x.1/\x.1 < 4294967296):WrOk p:=
 ⟨by omega,by omega,fun e=>absurd (h.symm.trans e) (by decide),fun e=>absurd (h.symm.trans e) (by decide),fun e=>absurd (h.symm.trans e) (by decide),fun e=>absurd (h.symm.trans e) (by decide),fun e=>absurd (h.symm.trans e) (by decide),fun e=>absurd (h.symm.trans e) (by decide),fun e=>absurd (h.symm.trans e) (by decide),fun e=>absurd (h.symm.trans e) (by decide),fun e=>absurd (h.symm.trans e) (by decide),fun e=>absurd (h.symm.trans e) (by decide),fun _=>h11,fun e=>absurd (h.symm.trans e) (by decide)⟩
theorem wr_11 (h:p.kind=11):wrOne p=wrFb 4 206 ((2+2*p.entries.length:Nat):Int) p.sender p.media (p.entries.flatMap wEnt):=by unfold wrOne;simp [h]
theorem ty_11 (h:p.kind=11):typK p.kind=206:=by rw [h];rfl
theorem WrOk.of12 (h:p.kind=12) (h12:u32R p.sender/\p.sources.length<=255/\(∀y∈p.sources,u32R y)/\∃m i:Nat,0 < m/\m < 262144/\i<=63/\p.bits=(sgl m i:Int)):WrOk p:=
 ⟨by omega,by omega,fun e=>absurd (h.symm.trans e) (by decide),fun e=>absurd (h.symm.trans e) (by decide),fun e=>absurd (h.symm.trans e) (by decide),fun e=>absurd (h.symm.trans e) (by decide),fun e=>absurd (h.symm.trans e) (by decide),fun e=>absurd (h.symm.trans e) (by decide),fun e=>absurd (h.symm.trans e) (by decide),fun e=>absurd (h.symm.trans e) (by decide),fun e=>absurd (h.symm.trans e) (by decide),fun e=>absurd (h.symm.trans e) (by decide),fun e=>absurd (h.symm.trans e) (by decide),fun _=>h12⟩
theorem wr_12 (h:p.kind=12):wrOne p=wrRemb p.sender p.bits p.sources:=by unfold wrOne;simp [h]
theorem ty_12 (h:p.kind=12):typK p.kind=206:=by rw [h];rfl
theorem hdrB_eq {c c' t t' n n':Int} (h:c=c') (h2:t=t') (h3:n=n'):hdrB c t n=hdrB c' t' n':=by rw [h,h2,h3]
theorem wRep_fl (L:List Rep):(L.flatMap wRep).length=24*L.length:=flat_bd (f:=wRep) (fun _=>rfl) L
theorem b64_len (v:Int):(b64 v).length=8:=rfl
theorem fm1z (hk:p.kind=1) (hF:FoOk p) {B:List Int} (hB:B=b32 p.sender++b64 p.ntp++b32 p.rtp++b32 p.packets++b32 p.octets++p.reports.flatMap wRep++p.ext) (hn:p.reports.length<=31) (hl:∀y∈p.reports,y.2.2.1 < 16777216) (h4:p.ext.length % 4=0):FmOk p ((p.reports.length % 32:Nat):Int) B:=by
 subst hB
 refine ⟨by omega,WrX.no (by omega),fun hm=>?_⟩
 have hx:(b32 p.sender++b64 p.ntp++b32 p.rtp++b32 p.packets++b32 p.octets++p.reports.flatMap wRep++p.ext).length=24+24*p.reports.length+p.ext.length:=by
  simp only [ae,b32_len,b64_len,wRep_fl]
 rw [hx] at hm ⊢
 refine ⟨WrOk.of1 hk ⟨hF.s,hF.ntp,hF.rtp,hF.pks,hF.ocs,hn,h4,by omega,fun y hy=>?_⟩,?_⟩
 ·obtain ⟨h0,h2,h3⟩:=hF.reps y hy
  exact ⟨h0,⟨h2.1,hl y hy⟩,h3⟩
 ·rw [wr_1 hk,ty_1 hk]
  unfold wrSR
  congr 1
  refine hdrB_eq ?_ rfl ?_
  ·rw [bf (by omega)]
  ·congr 1;omega
theorem fm2z (hk:p.kind=2) (hF:FoOk p) {B:List Int} (hB:B=b32 p.sender++p.reports.flatMap wRep++p.ext) (hn:p.reports.length<=31) (hl:∀y∈p.reports,y.2.2.1 < 16777216) (h4:p.ext.length % 4=0):FmOk p ((p.reports.length % 32:Nat):Int) B:=by
 subst hB
 refine ⟨by omega,WrX.no (by omega),fun hm=>?_⟩
 have hx:(b32 p.sender++p.reports.flatMap wRep++p.ext).length=4+24*p.reports.length+p.ext.length:=by
  simp only [ae,b32_len,wRep_fl]
 rw [hx] at hm ⊢
 refine ⟨WrOk.of2 hk ⟨hF.s,hn,h4,by omega,fun y hy=>?_⟩,?_⟩
 ·obtain ⟨h0,h2,h3⟩:=hF.reps y hy
  exact ⟨h0,⟨h2.1,hl y hy⟩,h3⟩
 ·rw [wr_2 hk,ty_2 hk]
  unfold wrRR
  congr 1
  refine hdrB_eq ?_ rfl ?_
  ·rw [bf (by omega)]
  ·congr 1;omega
theorem fm3z (hk:p.kind=3) (hF:FoOk p) {B:List Int} (hB:B=p.chunks.flatMap wChk) (hn:p.chunks.length<=31) (hi:∀c∈p.chunks,∀i∈c.2,ItmR i):FmOk p ((p.chunks.length % 32:Nat):Int) B:=by
 subst hB
 refine ⟨by omega,WrX.no (by omega),fun hm=>?_⟩
 refine ⟨WrOk.of3 hk ⟨hn,by omega,fun y hy=>⟨hF.chks y hy,hi y hy⟩⟩,?_⟩
 rw [wr_3 hk,ty_3 hk]
 unfold wrSD
 congr 1
 refine hdrB_eq ?_ rfl ?_
 ·rw [bf (by omega)]
 ·congr 1;omega
theorem fm4 (hk:p.kind=4) (hF:FoOk p) {B:List Int} (hB:B=p.sources.flatMap b32++wBye p.text) (hn:p.sources.length<=31) (ht:p.text.size<=255):FmOk p ((p.sources.length % 32:Nat):Int) B:=by
 subst hB
 refine ⟨by omega,WrX.no (by omega),fun hm=>?_⟩
 refine ⟨WrOk.of4 hk ⟨hn,ht,hF.srcs⟩,?_⟩
 rw [wr_4 hk,ty_4 hk]
 unfold wrBye
 congr 1
 refine hdrB_eq ?_ rfl ?_
 ·rw [bf (by omega)]
 ·rw [ae,fl32];congr 1;omega
theorem fm5 (hk:p.kind=5) (hF:FoOk p) {B:List Int} (hB:B=b32 p.sender++sbs p.text++p.data) (hn:p.sub.toNat<=31) (ht:p.text.size=4) (h4:p.data.length % 4=0) (hd:p.data.length<=65520):FmOk p ((p.sub.toNat % 32:Nat):Int) B:=by
 subst hB
 refine ⟨by omega,WrX.no (by omega),fun hm=>?_⟩
 have h0:=hF.sub
 refine ⟨WrOk.of5 hk ⟨⟨h0.1,by omega⟩,hF.s,ht,h4,hd⟩,?_⟩
 rw [wr_5 hk,ty_5 hk]
 unfold wrApp
 congr 1
 refine hdrB_eq ?_ rfl ?_
 ·rw [bf (by omega)];omega
 ·rw [ae,ae,b32_len,sbs_len,ht];congr 1;omega
theorem fm6 (hk:p.kind=6) (hF:FoOk p) {B:List Int} (hB:B=b32 p.sender++b32 p.media++p.pairs.flatMap wPar) (h0:0 < p.pairs.length) (hn:p.pairs.length<=253):FmOk p 1 B:=by
 subst hB
 refine ⟨by omega,⟨fun _ e=>by rw [e] at h0;simp at h0,fun e=>by omega,fun e=>by omega,fun e=>by omega⟩,fun hm=>?_⟩
 refine ⟨WrOk.of6 hk ⟨hF.s,hF.m,hn,hF.prs⟩,?_⟩
 rw [wr_6 hk,ty_6 hk]
 unfold wrFb
 congr 1
 refine hdrB_eq rfl rfl ?_
 rw [ae,ae,b32_len,b32_len,flat_bd wPar_len];congr 1;omega
theorem fm7 (hk:p.kind=7) (hF:FoOk p) {B:List Int} (hB:B=b32 p.sender++b32 p.media):FmOk p 5 B:=by
 subst hB
 refine ⟨by omega,WrX.no (by omega),fun hm=>?_⟩
 refine ⟨WrOk.of7 hk ⟨hF.s,hF.m⟩,?_⟩
 rw [wr_7 hk,ty_7 hk]
 unfold wrTwo
 congr 1
 exact hdrB_eq rfl rfl (by rw [ae,b32_len,b32_len];rfl)
theorem fm9 (hk:p.kind=9) (hF:FoOk p) {B:List Int} (hB:B=b32 p.sender++b32 p.media):FmOk p 1 B:=by
 subst hB
 refine ⟨by omega,WrX.no (by omega),fun hm=>?_⟩
 refine ⟨WrOk.of9 hk ⟨hF.s,hF.m⟩,?_⟩
 rw [wr_9 hk,ty_9 hk]
 unfold wrTwo
 congr 1
 exact hdrB_eq rfl rfl (by rw [ae,b32_len,b32_len];rfl)
theorem wBlo_ge:∀L:List Blo,8*L.length<=(L.flatMap wBlo).length
 | []=>bE _
 | y::r=>by
  have:=wBlo_ge r
  rw [av,ae,wBlo_len,aA]
  unfold bLen
  omega
theorem blo_len {L:List Blo} (hm:8+(L.flatMap wBlo).length<=240000):L.length<=100000:=by
 have:=wBlo_ge L
 omega
theorem fm8 (hk:p.kind=8) (hF:FoOk p) {B:List Int} (hB:B=b32 p.sender++p.blocks.flatMap wBlo++b32 p.time) (h0:p.blocks≠[]) (hl:∀y∈p.blocks,y.2.2.length<=16384/\∀m∈y.2.2,m.2.1 < 4/\m.2.2 < 8192/\MetF m):FmOk p 11 B:=by
 subst hB
 refine ⟨by omega,⟨fun e=>by omega,fun _=>⟨h0,fun y hy m hm=>((hl y hy).2 m hm).2.2⟩,fun e=>by omega,fun e=>by omega⟩,fun hm=>?_⟩
 have hx:(b32 p.sender++p.blocks.flatMap wBlo++b32 p.time).length=8+(p.blocks.flatMap wBlo).length:=by
  simp only [ae,b32_len];omega
 rw [hx] at hm ⊢
 have hs:=hF.sz (by omega)
 unfold Pk.size at hs
 have hb:=bsz_len p.blocks
 refine ⟨WrOk.of8 hk ⟨hF.s,hF.tim,blo_len hm,by omega,fun y hy=>?_⟩,?_⟩
 ·obtain ⟨h0,h1,h2⟩:=hF.bls y hy
  obtain ⟨h3,h4⟩:=hl y hy
  exact ⟨h0,h1,h3,fun m hm=>⟨⟨(h2 m hm).1.1,(h4 m hm).1⟩,(h2 m hm).2.1,(h4 m hm).2.1⟩⟩
 ·rw [wr_8 hk,ty_8 hk]
  unfold wrCc
  congr 1
  refine hdrB_eq rfl rfl ?_
  congr 1;omega
theorem fm10 (hk:p.kind=10) (hF:FoOk p) {B:List Int} (hB:B=b32 p.sender++b32 p.media++p.slices.flatMap wSli) (h0:0 < p.slices.length) (hn:p.slices.length<=253) (hl:∀x∈p.slices,x.1 < 8192/\x.2.1 < 8192/\x.2.2 < 64):FmOk p 2 B:=by
 subst hB
 refine ⟨by omega,⟨fun e=>by omega,fun e=>by omega,fun _ e=>by rw [e] at h0;simp at h0,fun e=>by omega⟩,fun hm=>?_⟩
 refine ⟨WrOk.of10 hk ⟨hF.s,hF.m,hn,fun x hx=>⟨⟨(hF.sls x hx).1.1,(hl x hx).1⟩,⟨(hF.sls x hx).2.1.1,(hl x hx).2.1⟩,(hF.sls x hx).2.2.1,(hl x hx).2.2⟩⟩,?_⟩
 rw [wr_10 hk,ty_10 hk]
 unfold wrFb
 congr 1
 refine hdrB_eq rfl rfl ?_
 rw [ae,ae,b32_len,b32_len,flat_bd wSli_len];congr 1;omega
theorem fm11 (hk:p.kind=11) (hF:FoOk p) {B:List Int} (h0:0 < p.entries.length) (hB:B=b32 p.sender++b32 p.media++p.entries.flatMap wEnt):FmOk p 4 B:=by
 subst hB
 refine ⟨by omega,⟨fun e=>by omega,fun e=>by omega,fun e=>by omega,fun _ e=>by rw [e] at h0;simp at h0⟩,fun hm=>?_⟩
 have hx:(b32 p.sender++b32 p.media++p.entries.flatMap wEnt).length=8+8*p.entries.length:=by
  rw [ae,ae,b32_len,b32_len,flat_bd wEnt_len]
 rw [hx] at hm ⊢
 refine ⟨WrOk.of11 hk ⟨hF.s,hF.m,by omega,hF.ens⟩,?_⟩
 rw [wr_11 hk,ty_11 hk]
 unfold wrFb
 congr 1
 refine hdrB_eq rfl rfl ?_
 congr 1;omega
theorem fm12 (hk:p.kind=12) (hF:FoOk p) (hb:∃m i:Nat,0 < m/\m < 262144/\i<=63/\p.bits=(sgl m i:Int)) {B:List Int} {v:Int} (hv:v=brE p.bits*262144+brM p.bits) (hM:0<=brM p.bits/\brM p.bits < 262144) (hE:0<=brE p.bits/\brE p.bits<=63) (hB:B=b32 p.sender++b32 0++[82,69,77,66,((p.sources.length % 256:Nat):Int),v / 65536 % 256,v / 256 % 256,v % 256]++p.sources.flatMap b32) (hn:p.sources.length<=255):FmOk p 15 B:=by
 refine ⟨by omega,WrX.no (by omega),fun hm=>?_⟩
 refine ⟨WrOk.of12 hk ⟨hF.s,hn,hF.srcs,hb⟩,?_⟩
 have hx:B.length=16+4*p.sources.length:=by
  rw [hB,ae,ae,ae,b32_len,b32_len,fl32]
  show 4+4+8+_=_
  omega
 rw [hx,wr_12 hk,ty_12 hk,hB,show v / 65536 % 256=brE p.bits*4+brM p.bits / 65536 by omega,show v / 256 % 256=brM p.bits / 256 % 256 by omega,show v % 256=brM p.bits % 256 by omega,bf (show p.sources.length < 256 by omega)]
 unfold wrRemb
 congr 1
 refine hdrB_eq rfl rfl ?_
 congr 1;omega
def dw (M e:Nat):Nat:=e*4503599627370496+M
theorem dw_read {e:Nat} (h2:2 ^ 52<=M) (h3:M < 2 ^ (52+1)) (he:e<=2044):Ieee.double.read (dw M e)=.number false M ((e:Int) - 1074):=by
 have hs:Ieee.double.signWeight=9223372036854775808:=by decide
 have hb:Ieee.double.binade=4503599627370496:=by decide
 have hI:Ieee.double.infRung=9218868437227405312:=by decide
 have hp:Ieee.double.leastPlace=-1074:=by decide
 unfold dw
 simp only [Nat.reducePow,Nat.reduceAdd] at h2 h3
 rw [read_normal _ _ (by rw [hs];omega) (by rw [hb];omega) (by rw [hI];omega),hb,hp]
 congr 1
 ·omega
 ·omega
theorem dw_big {e:Nat} (h2:2 ^ 52<=M) (h3:M < 2 ^ (52+1)) (he:e<=2044):(Ieee.double.order (dw M e) 4688247212092686336 == some .gt || Ieee.double.order (dw M e) 4688247212092686336 == some .eq)=decide (1040<=e):=by
 have hr:Ieee.double.read 4688247212092686336=.number false (2 ^ 52) (-34):=by decide +kernel
 unfold Ieee.Format.order
 rw [dw_read h2 h3 he,hr]
 rcases ord_pow (p:=(e:Int) - 1074) (q:=-34) h2 h3 with ⟨h4,h⟩ | ⟨h4,h⟩
 ·rw [h4,decide_eq_false (by omega)];rfl
 ·rw [decide_eq_true (by omega)]
  rcases h4 with h4 | h4<;>rw [h4]<;>rfl
theorem dw_pos {e:Nat} (h2:2 ^ 52<=M) (h3:M < 2 ^ (52+1)) (he:e<=2044):Ieee.double.order (dw M e) 0=some .gt:=by
 have hr:Ieee.double.read 0=.number false 0 (-1074):=by decide +kernel
 unfold Ieee.Format.order
 rw [dw_read h2 h3 he,hr,ord_zero (by have:=aR 52;omega)]
theorem dw_self {e:Nat} (h2:2 ^ 52<=M) (h3:M < 2 ^ (52+1)) (he:e<=2044):(Ieee.double.order (dw M e) (dw M e) != some .eq)=false:=by
 unfold Ieee.Format.order
 rw [dw_read h2 h3 he,ord_pos _ _ rfl rfl,cmp_eq rfl]
 rfl
theorem dw_less {e:Nat} (h2:2 ^ 52<=M) (h3:M < 2 ^ (52+1)) (he:e<=2044):floatBits .sub .f64 (dw M e) (dw M e)=some 0:=by
 change Ieee.double.sub (dw M e) (dw M e)=some 0
 unfold Ieee.Format.sub
 rw [dw_read h2 h3 he]
 simp only [Ieee.Datum.opposite,Ieee.Datum.sum,Ieee.signed,Bool.not_false,be,bO,if_true,aU]
 rw [Int.add_right_neg]
 simp only [Ieee.Format.write,Ieee.Format.nearest,Ieee.Format.word,Int.natAbs_zero,if_true,Bool.false_and,be,bO]
theorem dw_half {e:Nat} (h2:2 ^ 52<=M) (h3:M < 2 ^ (52+1)) (he:e<=2043):floatBits .quo .f64 (dw M (e+1)) 4611686018427387904=some (dw M e):=by
 change Ieee.double.div (dw M (e+1)) 4611686018427387904=some (dw M e)
 unfold Ieee.Format.div
 have two:Ieee.double.read 4611686018427387904=.number false (2 ^ 52) (-51):=by decide +kernel
 rw [dw_read h2 h3 (by omega),two,quot_two Ieee.double h2 h3 rfl]
 simp only [aU,Ieee.Format.write]
 congr 1
 rw [nearest_exact Ieee.double _ 55 M 3 0 _ (by have:=aR 52;omega) (log2_of (by simp only [Nat.reducePow] at h2 ⊢;omega) (by simp only [Nat.reducePow,Nat.reduceAdd] at h3 ⊢;omega))]
 ·simp only [dw,Ieee.Format.leastPlace,Ieee.double,Ieee.Format.binade,Nat.reducePow,Nat.reduceSub,Int.reducePow,Int.reduceSub]
  congr 2
  omega
 ·simp only [Ieee.Format.leastPlace,Ieee.double,Nat.reducePow,Nat.reduceSub,Int.reducePow,Int.reduceSub];omega
 ·simp only [Ieee.double];omega
 ·simp only [Ieee.double];omega
 ·simp
 ·simp only [Ieee.Format.leastPlace,Ieee.double,Ieee.Format.binade,Ieee.Format.infRung,Nat.reducePow,Nat.reduceAdd,Nat.reduceMul,Nat.reduceSub,Int.reducePow,Int.reduceSub] at h3 ⊢
  omega
theorem norm52 {L:Nat} (h0:0 < M) (hL:M.log2=L) (hL2:L<=23):2 ^ 52<=M*2 ^ (52 - L)/\M*2 ^ (52 - L) < 2 ^ (52+1):=by
 have h2:=Nat.log2_self_le (n:=M) (by omega)
 have h3:M < 2 ^ (M.log2+1):=Nat.lt_log2_self
 rw [hL] at h2 h3
 constructor
 ·calc 2 ^ 52=2 ^ L*2 ^ (52 - L):=by rw [<-bS];congr 1;omega
   _<=M*2 ^ (52 - L):=Nat.mul_le_mul_right _ h2
 ·calc M*2 ^ (52 - L) < 2 ^ (L+1)*2 ^ (52 - L):=Nat.mul_lt_mul_of_pos_right h3 (aR _)
   _=2 ^ (52+1):=by rw [<-bS];congr 1;omega
theorem widen {L e:Nat} {p:Int} (hd:Ieee.single.read b=.number false M p) (h0:0 < M) (hL:M.log2=L) (hL2:L<=23) (hp:-149<=p) (hp2:p<=104) (he:(e:Int)=p+1022+L):floatToFloatBits .f32 b .f64=some (dw (M*2 ^ (52 - L)) e):=by
 obtain ⟨h4,h5⟩:=norm52 h0 hL hL2
 have hw:Ieee.double.nearest false M p=dw (M*2 ^ (52 - L)) e:=by
  rw [nearest_exact Ieee.double M L (M*2 ^ (52 - L)) 0 (52 - L) _ (by omega) hL]
  ·simp only [dw,Ieee.Format.leastPlace,Ieee.double,Ieee.Format.binade,Nat.reducePow,Nat.reduceSub,Int.reducePow,Int.reduceSub]
   congr 2
   omega
  ·simp only [Ieee.Format.leastPlace,Ieee.double,Nat.reducePow,Nat.reduceSub,Int.reducePow,Int.reduceSub];omega
  ·simp only [Ieee.double];omega
  ·simp only [Ieee.double];omega
  ·rw [Nat.pow_zero,bd]
  ·generalize hN:M*2 ^ (52 - L)=N at h4 h5
   simp only [Ieee.Format.leastPlace,Ieee.double,Ieee.Format.binade,Ieee.Format.infRung,Nat.reducePow,Nat.reduceAdd,Nat.reduceMul,Nat.reduceSub,Int.reducePow,Int.reduceSub] at h5 ⊢
   omega
 have e1:FloatKind.f32.decode b=.number false M p:=by unfold FloatKind.decode FloatKind.format;exact hd
 have e2:FloatKind.f64.encode (.number false M p)=dw (M*2 ^ (52 - L)) e:=by unfold FloatKind.encode FloatKind.format;exact hw
 have e3:FloatKind.f64.decode (dw (M*2 ^ (52 - L)) e)=.number false (M*2 ^ (52 - L)) ((e:Int) - 1074):=by
  unfold FloatKind.decode FloatKind.format;exact dw_read h4 h5 (by omega)
 unfold floatToFloatBits
 rw [ap (by decide),e1]
 simp only
 rw [e2,e3]
 simp [Ieee.Datum.isInfinity]
theorem cut_zero (M d:Nat):Ieee.Toward.zero.cut false M d=M / 2 ^ min d (M.log2+2):=by
 unfold Ieee.Toward.cut
 simp only [Nat.one_shiftLeft,Bool.toNat_false,Nat.add_zero]
theorem dw_int {e:Nat} (h2:2 ^ 52<=M) (h3:M < 2 ^ (52+1)) (he:e < 1040):∃n:Nat,n < 262144/\floatToIntVal .f64 (dw M e) .u32=some (n:Int):=by
 have hr:FloatKind.f64.decode (dw M e)=.number false M ((e:Int) - 1074):=by
  unfold FloatKind.decode FloatKind.format;exact dw_read h2 h3 (by omega)
 have hl:M.log2=52:=log2_of h2 h3
 have e1:u32.min=0/\u32.max=4294967295:=by decide
 have hn:M / 2 ^ min (1074 - e) (M.log2+2) < 262144:=by
  rw [hl,Nat.div_lt_iff_lt_mul (aR _)]
  have h4:2 ^ 35<=2 ^ min (1074 - e) (52+2):=bR (by decide) (by omega)
  simp only [Nat.reducePow,Nat.reduceAdd] at h3 h4 ⊢
  omega
 obtain ⟨q,hq⟩:∃q,q=M / 2 ^ min (1074 - e) (M.log2+2):=⟨_,rfl⟩
 rw [<-hq] at hn
 refine ⟨q,hn,val_of (toInt_of ?_) (by omega)⟩
 rw [hr]
 unfold Ieee.Datum.integral
 simp only
 rw [show ((e:Int) - 1074).toNat=0 by omega,show (-((e:Int) - 1074)).toNat=1074 - e by omega,Nat.shiftLeft_zero,cut_zero,<-hq]
theorem ord_same {N:Nat} {p q:Int} (h0:2 ^ k<=M) (h1:M < 2 ^ (k+1)) (h2:2 ^ k<=N) (h3:N < 2 ^ (k+1)) (h:Ieee.Datum.order (.number false M p) (.number false N q)=some .eq):M=N/\p=q:=by
 have aux:∀{M N:Nat} {p q:Int},2 ^ k<=N->M < 2 ^ (k+1)->p < q->((M*2 ^ (p - min p q).toNat:Nat):Int) < ((N*2 ^ (q - min p q).toNat:Nat):Int):=by
  intro M N p q hN hM hpq
  obtain ⟨d,hd⟩:∃d:Nat,(q - min p q).toNat=d+1:=⟨(q - min p q).toNat - 1,by omega⟩
  rw [show (p - min p q).toNat=0 by omega,hd,Nat.pow_zero,bd]
  have:2 ^ (k+1)<=N*2 ^ (d+1):=by
   calc 2 ^ (k+1)=2 ^ k*2 ^ 1:=bS _ _ _
    _<=N*2 ^ (d+1):=Nat.mul_le_mul hN (bR (by decide) (by omega))
  omega
 rw [ord_pos _ _ rfl rfl] at h
 have h:=Int.compare_eq_eq.1 (Option.some.inj h)
 rcases Int.lt_trichotomy p q with hpq | hpq | hpq
 ·have:=aux h2 h1 hpq
  omega
 ·subst hpq
  rw [Int.min_self,Int.sub_self] at h
  simp only [Int.toNat_zero,Nat.pow_zero,bd] at h
  exact ⟨by omega,rfl⟩
 ·have:=aux (M:=N) (N:=M) h0 h3 hpq
  rw [Int.min_comm q p] at this
  omega
theorem dw_dbl {e:Nat} (h2:2 ^ 52<=M) (h3:M < 2 ^ (52+1)) (he:e<=2044) (h0:0 < n) (h1:n < 262144) (h:Ieee.double.order (dw M e) (dbl n 0)=some .eq):M=n*2 ^ (52 - n.log2)/\e=1022+n.log2:=by
 obtain ⟨hl,h4,h5⟩:=norm_range (k:=52) h0 h1 (by omega)
 unfold Ieee.Format.order at h
 rw [dw_read h2 h3 he,dbl_read h0 h1 (by omega)] at h
 obtain ⟨h6,h7⟩:=ord_same h2 h3 h4 h5 h
 exact ⟨h6,by omega⟩
theorem ne_of {o:Option Ordering} (h:o≠some .eq):(o != some .eq)=true:=by simp [h]
/-! ### NaNs and infinities -/
theorem nan_word (x:Nat):∃s t,FloatKind.f64.decode (x % 2*2 ^ 63+0x7ff0000000000000+1+x / 2 % (2 ^ 52 - 1))=.nan s t:=by
 have h4:x / 2 % (2 ^ 52 - 1) < 2 ^ 52 - 1:=Nat.mod_lt _ (by decide)
 generalize x / 2 % (2 ^ 52 - 1)=y at h4
 have h5:x % 2 < 2:=Nat.mod_lt _ (by decide)
 generalize x % 2=z at h5
 have hs:Ieee.double.signWeight=9223372036854775808:=by decide
 have hb:Ieee.double.binade=4503599627370496:=by decide
 have hI:Ieee.double.infRung=9218868437227405312:=by decide
 unfold FloatKind.decode FloatKind.format
 simp only [Ieee.Format.read,hs,hb,hI]
 simp only [Nat.reducePow,Nat.reduceSub] at h4 ⊢
 rw [ap (by omega),ap (by omega),ap (by omega)]
 exact ⟨_,_,rfl⟩
theorem conv_any (w:World) (b:Nat):∃r w',(convert 236 272 (.float .f32 b)).run pg w=.ok (.float .f64 r) w'/\w.grownBy w' none/\((∃s t,FloatKind.f32.decode b=.nan s t)->∃s t,FloatKind.f64.decode r=.nan s t):=by
 cases hd:FloatKind.f32.decode b with
 | nan s t=>
  refine ⟨_,_,by simp only [convert,aL,aH uF32,aH uF64,aB,Conv.floatToFloat,hd];simp [choose,Sem.run,Question.forced];rfl,grew_drew w none,fun _=>?_⟩
  simp only [Question.cut]
  exact nan_word _
 | infinity s=>
  exact ⟨_,w,by simp only [convert,aL,aH uF32,aH uF64,aB,Conv.floatToFloat,hd];simp;rfl,grew_refl w none,fun ⟨s,t,h⟩=>by cases h⟩
 | number s m e=>
  by_cases hi:(FloatKind.f64.decode (FloatKind.f64.encode (.number s m e))).isInfinity=true
  ·exact ⟨_,_,by simp only [convert,aL,aH uF32,aH uF64,aB,Conv.floatToFloat,hd,hi];simp [choose,Sem.run,Question.forced];rfl,grew_drew w none,fun ⟨s,t,h⟩=>by cases h⟩
  ·exact ⟨_,w,by simp only [convert,aL,aH uF32,aH uF64,aB,Conv.floatToFloat,hd,hi];simp;rfl,grew_refl w none,fun ⟨s,t,h⟩=>by cases h⟩
theorem sub_nan (w:World) (t:TypeId) (x y:Nat) (h:Ieee.double.sub x y=none):∃r w',(binOp .sub t (.float .f64 x) (.float .f64 y)).run pg w=.ok (.float .f64 r) w'/\w.grownBy w' none/\∃s u,FloatKind.f64.decode r=.nan s u:=by
 have h':FloatKind.f64.format.sub x y=none:=by unfold FloatKind.format;exact h
 refine ⟨_,_,by simp only [binOp,Op.floatArith,h',aL,bv,aB];simp [choose,Sem.run,Question.forced];rfl,grew_drew w none,?_⟩
 simp only [Question.cut]
 exact nan_word _
theorem sgl_fin (h0:0 < b) (h1:b < 2139095040):∃(M L:Nat) (p:Int),Ieee.single.read b=.number false M p/\0 < M/\M.log2=L/\L<=23/\-149<=p/\p<=104/\((L=23/\(b:Int)=(p+149)*8388608+M)\/(L<=22/\p=-149)):=by
 have hs:Ieee.single.signWeight=2147483648:=by decide
 have hb:Ieee.single.binade=8388608:=by decide
 have hI:Ieee.single.infRung=2139095040:=by decide
 have hp:Ieee.single.leastPlace=-149:=by decide
 rcases Nat.lt_or_ge b 8388608 with h | h
 ·refine ⟨b,b.log2,-149,?_,h0,rfl,?_,by omega,by omega,Or.inr ⟨?_,rfl⟩⟩
  ·simp only [Ieee.Format.read,hs,hb,hp,bf (show b < 2147483648 by omega),Nat.div_eq_of_lt (show b < 2147483648 by omega)]
   rw [aG h]
   rfl
  ·have:=(Nat.log2_lt (k:=23) (by omega)).2 (show b < 2 ^ 23 by omega);omega
  ·have:=(Nat.log2_lt (k:=23) (by omega)).2 (show b < 2 ^ 23 by omega);omega
 ·have hm:=Nat.mod_lt b (show 0 < 8388608 by decide)
  refine ⟨8388608+b % 8388608,23,-149+(b / 8388608 - 1:Nat),?_,by omega,log2_of (by simp only [Nat.reducePow];omega) (by simp only [Nat.reducePow,Nat.reduceAdd];omega),by omega,by omega,by omega,Or.inl ⟨rfl,by omega⟩⟩
  rw [read_normal _ _ (by rw [hs];omega) (by rw [hb];exact h) (by rw [hI];exact h1),hb,hp]
def MaPost (w:World) (b:Int) (en:Ending) (w':World):Prop:=∃(v:Int) (ok:Bool),en=.returned (.tuple #[.int .u32 v,.bool ok])/\w.grownBy w' none/\(0<=v/\v < 4294967296)/\(ok=true->v=brE b*262144+brM b/\∃m i:Nat,0 < m/\m < 262144/\i<=63/\b=(sgl m i:Int))
theorem MaPost.no {b:Int} (g:w.grownBy w' none):MaPost w b (.returned (.tuple #[.int .u32 0,.bool false])) w':=⟨0,false,rfl,g,⟨by decide,by decide⟩,fun h=>by cases h⟩
theorem conv_f {r:Nat} (h:floatToFloatBits .f32 b .f64=some r):(convert 236 272 (.float .f32 b)).run pg w=.ok (.float .f64 r) w:=run_convert_float_float w _ _ .f32 .f64 _ _ (by rw [uF32];rfl) uF64 h
theorem int_zero:(convert 51 272 (.int .u32 0)).run pg w=.ok (.float .f64 0) w:=by
 simp only [convert,aL,aH uU32,aH uF64,aB,Conv.intToFloat,bv,FloatKind.nearest,FloatKind.encode,FloatKind.format,Ieee.Format.write]
 rfl
theorem cMant (hb:b < 4294967296):Calls pg 115 #[.int .u32 (b:Int)] w (MaPost w (b:Int)):=by
 apply of115
 refine ⟨_,_,run_f32from (by omega),?_⟩
 rw [au,ishr_of (b:=(31:Int)) 31 (by rfl) (by decide)]
 rcases Nat.lt_or_ge b 2147483648 with hs | hs
 case inr=>
  obtain ⟨r,w',hr,hg,_⟩:=conv_any w b
  refine ⟨r,w',hr,?_⟩
  rw [show (b:Int) / 2 ^ 31=1 by omega]
  exact ⟨fun _=>.no hg,fun h=>absurd h (by decide)⟩
 rw [show (b:Int) / 2 ^ 31=0 by omega]
 have hS:Ieee.single.signWeight=2147483648:=by decide
 have hB:Ieee.single.binade=8388608:=by decide
 have hI:Ieee.single.infRung=2139095040:=by decide
 have nne:∀{x y:Nat},(∃s t,FloatKind.f64.decode x=.nan s t)->(FloatKind.f64.format.order x y != some .eq)=true:=by
  rintro x y ⟨s,t,h⟩
  unfold FloatKind.decode at h
  unfold Ieee.Format.order
  rw [h]
  rfl
 rcases Nat.lt_trichotomy b 2139095040 with hlt | rfl | hgt
 case inr.inr=>
  obtain ⟨r,w',hr,hg,hn⟩:=conv_any w b
  have hn2:=hn (by
   unfold FloatKind.decode FloatKind.format
   simp only [Ieee.Format.read,hS,hB,hI]
   rw [bf hs,ap (by omega),ap (by omega),ap (by omega)]
   exact ⟨_,_,rfl⟩)
  refine ⟨r,w',hr,fun h=>absurd h (by decide),fun _=>?_⟩
  exact ⟨true,w',run_fne (nne hn2),fun _=>.no hg,fun h=>absurd h (by decide)⟩
 case inr.inl=>
  refine ⟨9218868437227405312,w,conv_f (by decide +kernel),fun h=>absurd h (by decide),fun _=>?_⟩
  refine ⟨false,w,run_fne (by rw [f64_f];decide +kernel),fun h=>absurd h (by decide),fun _=>?_⟩
  obtain ⟨r,w',hr,hg,hn⟩:=sub_nan w 272 9218868437227405312 9218868437227405312 (by decide +kernel)
  refine ⟨r,w',hr,?_⟩
  exact ⟨true,w',run_fne (nne hn),fun _=>.no hg,fun h=>absurd h (by decide)⟩
 rcases bL b with rfl | h0
 ·refine ⟨0,w,conv_f (by decide +kernel),fun h=>absurd h (by decide),fun _=>?_⟩
  refine ⟨false,w,run_fne (by rw [f64_f];decide +kernel),fun h=>absurd h (by decide),fun _=>?_⟩
  refine ⟨0,w,run_float_arith w .sub _ .f64 _ _ _ (by decide +kernel),?_⟩
  refine ⟨false,w,run_fne (by rw [f64_f];decide +kernel),fun h=>absurd h (by decide),fun _=>?_⟩
  exact ⟨true,w,run_feq (by rw [f64_f];decide +kernel),fun _=>.no (grew_refl w none),fun h=>absurd h (by decide)⟩
 obtain ⟨M0,L,p,hrd,hM0,hL,hL2,hp,hp2,hcase⟩:=sgl_fin h0 hlt
 obtain ⟨e0,he0⟩:∃e0:Nat,(e0:Int)=p+1022+L:=⟨(p+1022+L).toNat,by omega⟩
 obtain ⟨h2,h3⟩:=norm52 hM0 hL hL2
 have hw:=widen hrd hM0 hL hL2 hp hp2 he0
 obtain ⟨M,hM⟩:∃M,M=M0*2 ^ (52 - L):=⟨_,rfl⟩
 rw [<-hM] at h2 h3 hw
 refine ⟨_,w,conv_f hw,fun h=>absurd h (by decide),fun _=>?_⟩
 refine ⟨false,w,run_fne (by rw [f64_f];exact dw_self h2 h3 (by omega)),fun h=>absurd h (by decide),fun _=>?_⟩
 refine ⟨0,w,run_float_arith w .sub _ .f64 _ _ _ (dw_less h2 h3 (by omega)),?_⟩
 refine ⟨false,w,run_fne (by rw [f64_f];decide +kernel),fun h=>absurd h (by decide),fun _=>?_⟩
 refine ⟨false,w,run_feq (by rw [f64_f,dw_pos h2 h3 (by omega)];rfl),fun h=>absurd h (by decide),fun _=>?_⟩
 refine ⟨fun v e q w'=>v=dw M q/\e=(e0:Int) - q/\q<=e0/\(q=e0\/1039<=q)/\w'=w,⟨e0,rfl,by omega,aN _,Or.inl rfl,rfl⟩,?_⟩
 rintro dd v e q w' ⟨rfl,rfl,hq,hor,rfl⟩
 refine ⟨decide (1040<=q),w',run_geq (by rw [f64_f];exact dw_big h2 h3 (by omega)),fun hb=>?_,fun hb=>?_⟩
 ·rw [ah] at hb
  obtain ⟨j,rfl⟩:∃k,q=k+1:=⟨q - 1,by omega⟩
  refine ⟨_,w',run_float_arith w' .quo _ .f64 _ _ _ (dw_half h2 h3 (by omega)),?_⟩
  exact ⟨j,by omega,rfl,by rw [wu32];omega,by omega,Or.inr (by omega),rfl⟩
 ·rw [af] at hb
  refine ⟨fun _=>.no (grew_refl w' none),fun h63=>?_⟩
  rw [af] at h63
  obtain ⟨n,hn,hint⟩:=dw_int h2 h3 (show q < 1040 by omega)
  refine ⟨_,w',run_convert_float_int w' _ _ .f64 .u32 _ _ (by rw [uF64];rfl) uU32 hint,?_⟩
  rcases bL n with rfl | hn0
  ·refine ⟨0,w',int_zero,?_⟩
   exact ⟨true,w',run_fne (by rw [f64_f,dw_pos h2 h3 (by omega)];rfl),fun _=>.no (grew_refl w' none),fun h=>absurd h (by decide)⟩
  refine ⟨_,w',int_dbl hn0 hn,?_⟩
  by_cases heq:Ieee.double.order (dw M q) (dbl n 0)=some .eq
  ·refine ⟨false,w',run_fne (by rw [f64_f,heq];rfl),fun h=>absurd h (by decide),fun _=>?_⟩
   obtain ⟨hMn,hqn⟩:=dw_dbl h2 h3 (by omega) hn0 hn heq
   have hl:n.log2<=17:=(norm_range (k:=23) hn0 hn (by omega)).1
   obtain ⟨E,hE⟩:∃E:Nat,(E:Int)=(e0:Int) - q:=⟨e0 - q,by omega⟩
   have hbs:b=sgl n E:=by
    rcases hcase with ⟨rfl,hbv⟩ | ⟨hLs,hps⟩
    ·have hMM:M0=n*2 ^ (23 - n.log2):=by
      have h9:M0*2 ^ 29=n*2 ^ (23 - n.log2)*2 ^ 29:=by
       rw [Nat.mul_assoc,<-bS,show 23 - n.log2+29=52 - n.log2 by omega,<-hMn,hM]
      exact Nat.eq_of_mul_eq_mul_right (aR 29) h9
     unfold sgl
     rw [<-hMM]
     have:E+n.log2+126=(p+149).toNat:=by omega
     rw [this]
     omega
    ·omega
   refine ⟨_,w',run_convert_float_int w' _ _ .f64 .u32 _ _ (by rw [uF64];rfl) uU32 hint,?_⟩
   obtain ⟨e1,e2⟩:=br_sgl (i:=E) (j:=0) hn0 hn (by omega) (by omega) (by omega)
   rw [<-hE]
   have e3:ior .u32 (ishl .u32 (E:Int) (18:Int)) (n:Int)=(E:Int)*262144+n:=by
    rw [ishl_of 18 (by rfl) (by decide),wu32,show (E:Int)*2 ^ 18 % 4294967296=(E:Int)*262144 by omega]
    exact ior_add (k:=.u32) (by rfl) 18 (E:Int) (by omega) (by omega) (by omega) (by omega) (by simp only [IntKind.bits];omega)
   rw [e3]
   refine ⟨_,true,rfl,grew_refl w' none,by omega,fun _=>⟨?_,n,E,hn0,hn,by omega,by rw [hbs]⟩⟩
   rw [hbs,e1,e2,Nat.pow_zero,bd]
   simp
  ·exact ⟨true,w',run_fne (by rw [f64_f];exact ne_of heq),fun _=>.no (grew_refl w' none),fun h=>absurd h (by decide)⟩
theorem tabC {L:List Int} {k:Int} (hB:Blk w b t (u8s L)) (h:k.toNat < L.length):w.cell? ((⟨b,0,none⟩:Addr).add (k.toNat*1))=some (.int .u8 (L.getD k.toNat 0)):=by
 rw [add_flat,aK,bd]
 exact hB.cell (tabAt h)
theorem grown_same {l:List Value} (g:w.grownBy w' (some b)) (h:Blk w b t l) (h':Blk w' b t l):w.grownBy w' none:=by
 obtain ⟨g1,g2,g3,g4,g5⟩:=g
 refine ⟨g1,g2,g3,g4,fun k hk _=>?_⟩
 by_cases e:k=b
 ·subst e;rw [h.eq,h'.eq]
 ·exact g5 k hk (fun h=>e (by injection h))
theorem tmod4 (h:(((n:Nat):Int).tmod (4:Int) == (0:Int))=true):n % 4=0:=by
 have h:((n:Nat):Int).tmod 4=0:=by simpa using h
 rw [bz (by omega)] at h
 omega
theorem sli_w {f n p:Int} (hf:0<=f/\f < 8192) (hn:0<=n/\n < 8192) (hp:0<=p/\p < 64) :
  ior .u32 (ior .u32 (ishl .u32 (u32.wrap f) (19:Int)) (ishl .u32 (u32.wrap n) (6:Int))) (u32.wrap p)=f*524288+n*64+p:=by
 rw [wu32,wu32,wu32,show f % 4294967296=f by omega,show n % 4294967296=n by omega,show p % 4294967296=p by omega]
 rw [ishl_of 19 (by rfl) (by decide),ishl_of 6 (by rfl) (by decide),wu32,wu32]
 rw [show f*2 ^ 19 % 4294967296=f*524288 by omega,show n*2 ^ 6 % 4294967296=n*64 by omega]
 rw [ior_add (k:=.u32) (by rfl) 19 f (a:=f*524288) (b:=n*64) (by omega) hf.1 (by omega) (by omega) (by simp only [IntKind.bits];omega)]
 exact ior_add (by rfl) 6 (f*8192+n) (by omega) (by omega) hp.1 (by omega) (by simp only [IntKind.bits];omega)
theorem ior_u32 (a b:Int):0<=ior .u32 a b/\ior .u32 a b < 4294967296:=by
 unfold ior
 rw [wu32]
 omega
theorem ior_u16 (a b:Int):0<=ior .u16 a b/\ior .u16 a b < 65536:=by
 unfold ior
 rw [wu16]
 omega
theorem br_rng (h0:0 < m) (h1:m < 262144) (hi:i<=63):(0<=brE (sgl m i:Int)/\brE (sgl m i:Int)<=63)/\0<=brM (sgl m i:Int)/\brM (sgl m i:Int) < 262144:=by
 have hl:m.log2<=17:=(norm_range (k:=23) h0 h1 (by omega)).1
 obtain ⟨e1,e2⟩:=br_sgl (m:=m) (i:=i) (j:=min i (17 - m.log2)) h0 h1 (by omega) (by omega) (by omega)
 obtain ⟨h2,h3⟩:=small_of h0 (min i (17 - m.log2)) (by omega)
 rw [e1,e2]
 omega
theorem met_f {b c:Int} (hb:0<=b/\b < 4) (hc:0<=c/\c < 8192):ior .u16 (ishl .u16 (u16.wrap b) (13:Int)) c=metN (false,b,c):=by
 rw [wu16,show b % 65536=b by omega,ishl_of 13 (by rfl) (by decide),wu16,show b*2 ^ 13 % 65536=b*8192 by omega]
 rw [ior_add (k:=.u16) (by rfl) 13 b (a:=b*8192) (b:=c) (by omega) hb.1 hc.1 (by omega) (by simp only [IntKind.bits];omega)]
 simp [metN]
theorem met_t {b c:Int} (hb:0<=b/\b < 4) (hc:0<=c/\c < 8192):ior .u16 (ior .u16 (ishl .u16 (u16.wrap b) (13:Int)) c) (32768:Int)=metN (true,b,c):=by
 rw [wu16,show b % 65536=b by omega,ishl_of 13 (by rfl) (by decide),wu16,show b*2 ^ 13 % 65536=b*8192 by omega]
 rw [ior_add (k:=.u16) (by rfl) 13 b (a:=b*8192) (b:=c) (by omega) hb.1 hc.1 (by omega) (by simp only [IntKind.bits];omega)]
 rw [ior_add' (k:=.u16) (by rfl) 15 1 (a:=32768) (b:=b*8192+c) (by decide) (by decide) (by omega) (by omega) (by simp only [IntKind.bits];omega)]
 simp [metN]
 omega
theorem wBlo_le:∀L:List Blo,(L.flatMap wBlo).length<=12*bsz L
 | []=>aN _
 | y::r=>by
  have:=wBlo_le r
  rw [av,ae,wBlo_len]
  simp only [bsz,bLen]
  omega
theorem wBlo_4:∀L:List Blo,(L.flatMap wBlo).length % 4=0
 | []=>rfl
 | y::r=>by
  have:=wBlo_4 r
  rw [av,ae,wBlo_len]
  unfold bLen
  omega
theorem itLen_isz:∀l:List Itm,itLen l<=2*isz l
 | []=>aN _
 | i::r=>by
  have:=itLen_isz r
  simp only [itLen] at this ⊢
  simp only [aX,bP,isz]
  omega
theorem itLen_tk {l:List Itm} (h:i < l.length):itLen (l.take i)+(2+l[i].2.size)<=itLen l:=by
 have h2:=pre_le wItm h
 rw [wItm_it,wItm_it,wItm_len] at h2
 exact h2
theorem wChk_le:∀L:List Chk,(L.flatMap wChk).length<=8*csz L
 | []=>aN _
 | y::r=>by
  have:=wChk_le r
  have h2:=itLen_isz y.2
  rw [av,ae,wChk_len]
  simp only [csz,up4]
  omega
theorem wChk_4:∀L:List Chk,(L.flatMap wChk).length % 4=0
 | []=>rfl
 | y::r=>by
  have:=wChk_4 r
  rw [av,ae,wChk_len]
  unfold up4
  omega
def FmJ (F:Fr) (p:Pk) (ex:List Ex) (R:List Ro) (b5 b3 b1:Nat) (CC:List Value) (b:Option Addr) (bl bc:Nat) (w:World):Prop:=
 ∃(r:Option Nat) (B:List Int) (c:Int) (ok:Bool),bl=B.length/\Sat F w (.own 5 1 b bl bc r (ob B)::.blk b5 4 [.bool ok]::.blk b3 42 [.bool false,.int .u8 c,.int .u8 (typK p.kind),.int .u16 0]::.blk b1 63 CC::ex) R/\(0<=c/\c<=31)/\B.length<=24*p.size+40/\(ok=true->FmOk p c B)
def FmPost (F:Fr) (ex:List Ex) (ro:List Ro) (p:Pk) (en:Ending) (w':World):Prop:=
 ∃c a k r B ok,en=.returned (.tuple #[.agg #[.bool false,.int .u8 c,.int .u8 (typK p.kind),.int .u16 0],.slice a B.length k,.bool ok])/\Sat F w' (.own 5 1 a B.length k r (ob B)::ex) ro/\(0<=c/\c<=31)/\B.length<=24*p.size+40/\(ok=true->FmOk p c B)
theorem c88 (H:Sat F w ex ro) (hp:Ro.deep p.dat cells∈ro) (hF:FoOk p) :
  Calls pg 88 #[.agg cells.toArray] w (FmPost F ex ro p):=by
 have lo:=hF.lo
 have hi:=hF.hi
 have hpz:p.size=p.reports.length+p.ext.length+csz p.chunks+p.sources.length+p.text.size+p.data.length+p.pairs.length+p.slices.length+p.entries.length+bsz p.blocks+ssz p.statuses+p.deltas.length:=rfl
 obtain ⟨a7,a8,a9,a10,a13,a14,a15,a16,a18,a24,a25,c7,c8,c9,c10,c13,c14,c15,c16,c18,c24,c25,R,rfl,hr,H,m7,m8,m9,m10,m13,m14,m15,m16,m18,m24,m25⟩:=H.pkF hp
 apply of88
 refine sNew H ?_;clear H;intro b1 w _ H
 replace H:Sat F w (.blk b1 63 (pkC p a7 a8 a9 a10 a13 a14 a15 a16 a18 a24 a25 c7 c8 c9 c10 c13 c14 c15 c16 c18 c24 c25)::ex) R:=H
 refine sNew H ?_;clear H;intro b3 w _ H
 refine sNew H ?_;clear H;intro b5 w _ H
 refine sSt0 H (by rfl) (by kernel_rfl) (by rfl) (by rfl) ?_;clear H;intro w _ H
 replace H:Sat F w (.blk b5 4 [.bool true]::.blk b3 42 [.bool false,.int .u8 0,.int .u8 0,.int .u16 0]::.blk b1 63 (pkC p a7 a8 a9 a10 a13 a14 a15 a16 a18 a24 a25 c7 c8 c9 c10 c13 c14 c15 c16 c18 c24 c25)::ex) R:=H
 have hkn:p.kind.toNat < 14:=by omega
 refine ⟨fun _ w=>Sat F w (.blk b5 4 [.bool true]::.blk b3 42 [.bool false,.int .u8 (cntK p.kind),.int .u8 (typK p.kind),.int .u16 0]::.blk b1 63 (pkC p a7 a8 a9 a10 a13 a14 a15 a16 a18 a24 a25 c7 c8 c9 c10 c13 c14 c15 c16 c18 c24 c25)::ex) R,?_,?_⟩
 ·refine ⟨none,?_⟩;replace H:=H.drew;generalize w.drew=w at H ⊢;obtain ⟨F2,ex2,S,back1,back2,hm⟩:=H.regN
  refine ⟨nn,H.b2.row,_,(H.b2.at0 rfl),?_⟩
  refine ⟨nn,H.b2.row,_,(H.b2.at0 rfl),?_⟩
  clear H;have H:=S;clear S
  refine ⟨?_,?_⟩
  ·refine sNew H ?_;clear H;intro b14 w _ H
   refine ⟨(back1 H).1,_,rfl,by omega,by omega,?_⟩
   refine ⟨?_,?_⟩
   ·refine ⟨_,(tabC (L:=typL) (by exact H.b0) hkn),(back1 H).1,?_⟩
    refine sNew H ?_;clear H;intro b18 w _ H
    refine ⟨(back2 H).1,_,rfl,by omega,by omega,?_⟩
    refine ⟨_,(tabC (L:=cntL) (by exact H.b0) hkn),(back2 H).1,?_⟩
    replace H:=(back2 H).2;clear back1 back2 hm
    refine sSw3 H rfl (by kernel_rfl) (by rfl) (by rfl) ?_;clear H;intro w _ H
    exact H.sub ((sc1).trans (sc1)) (fun _ h=>h)
   ·refine sNew H ?_;clear H;intro b23 w _ H
    refine ⟨(back2 H).1,_,rfl,by omega,by omega,?_⟩
    refine ⟨?_,?_⟩
    ·refine ⟨_,(tabC (L:=typL) (by exact H.b1) hkn),(back2 H).1,_,(tabC (L:=cntL) (by exact H.b0) hkn),(back2 H).1,?_⟩
     replace H:=(back2 H).2;clear back1 back2 hm
     refine sSw3 H rfl (by kernel_rfl) (by rfl) (by rfl) ?_;clear H;intro w _ H
     exact H.sub ((sc1).trans (sc1)) (fun _ h=>h)
    ·refine ⟨_,(tabC (L:=cntL) (by exact H.b0) hkn),(back2 H).1,_,(tabC (L:=typL) (by exact H.b1) hkn),(back2 H).1,?_⟩
     replace H:=(back2 H).2;clear back1 back2 hm
     refine sSw3 H rfl (by kernel_rfl) (by rfl) (by rfl) ?_;clear H;intro w _ H
     exact H.sub ((sc1).trans (sc1)) (fun _ h=>h)
  ·refine sNew H ?_;clear H;intro b32 w _ H
   refine ⟨(back1 H).1,_,rfl,by omega,by omega,?_⟩
   refine ⟨?_,?_⟩
   ·refine sNew H ?_;clear H;intro b35 w _ H
    refine ⟨(back2 H).1,_,rfl,by omega,by omega,?_⟩
    refine ⟨?_,?_⟩
    ·refine ⟨_,(tabC (L:=typL) (by exact H.b0) hkn),(back2 H).1,_,(tabC (L:=cntL) (by exact H.b1) hkn),(back2 H).1,?_⟩
     replace H:=(back2 H).2;clear back1 back2 hm
     refine sSw3 H rfl (by kernel_rfl) (by rfl) (by rfl) ?_;clear H;intro w _ H
     exact H.sub ((sc1).trans (sc1)) (fun _ h=>h)
    ·refine ⟨_,(tabC (L:=cntL) (by exact H.b1) hkn),(back2 H).1,_,(tabC (L:=typL) (by exact H.b0) hkn),(back2 H).1,?_⟩
     replace H:=(back2 H).2;clear back1 back2 hm
     refine sSw3 H rfl (by kernel_rfl) (by rfl) (by rfl) ?_;clear H;intro w _ H
     exact H.sub ((sc1).trans (sc1)) (fun _ h=>h)
   ·refine ⟨_,(tabC (L:=cntL) (by exact H.b0) hkn),(back1 H).1,?_⟩
    refine sNew H ?_;clear H;intro b45 w _ H
    refine ⟨(back2 H).1,_,rfl,by omega,by omega,?_⟩
    refine ⟨_,(tabC (L:=typL) (by exact H.b0) hkn),(back2 H).1,?_⟩
    replace H:=(back2 H).2;clear back1 back2 hm
    refine sSw3 H rfl (by kernel_rfl) (by rfl) (by rfl) ?_;clear H;intro w _ H
    exact H.sub ((sc1).trans (sc1)) (fun _ h=>h)
 clear H;rintro dd w H
 refine ⟨none,?_⟩;replace H:=H.drew;generalize w.drew=w at H ⊢;obtain ⟨F2,ex2,S,back1,back2,hm⟩:=H.regN
 refine ⟨nn,H.b2.row,_,(H.b2.at0 rfl),?_⟩
 refine ⟨nn,H.b2.row,_,(H.b2.at0 rfl),?_⟩
 clear H;have H:=S;clear S
 refine call_j (c112 (B:=[]) (H.nilOwn 5 1) hF.s (by omega)) ?_
 clear H;rintro _ w ⟨aa,ka,ra,rfl,H⟩
 refine ⟨_,_,_,rfl,(back1 H).1,?_⟩
 refine call_j (c112 H hF.m (by omega)) ?_
 clear H;rintro _ w ⟨ab,kt,rt,rfl,H⟩
 refine ⟨_,_,_,rfl,?_⟩
 replace H:=(back1 H).2;clear back1 back2 hm
 rw [bI] at H
 refine ⟨fun b bl bc _ w=>FmJ F p ex R b5 b3 b1 (pkC p a7 a8 a9 a10 a13 a14 a15 a16 a18 a24 a25 c7 c8 c9 c10 c13 c14 c15 c16 c18 c24 c25) b bl bc w,?_,?_⟩
 ·have hkk:p.kind=0\/p.kind=1\/p.kind=2\/p.kind=3\/p.kind=4\/p.kind=5\/p.kind=6\/p.kind=7\/p.kind=8\/p.kind=9\/p.kind=10\/p.kind=11\/p.kind=12\/p.kind=13:=by omega
  rcases hkk with hk | hk | hk | hk | hk | hk | hk | hk | hk | hk | hk | hk | hk | hk
  ·
   replace H:=H.d1
   refine ⟨_,(H.b2.at0 rfl),?_⟩
   rw [hk]
   refine ⟨fun b _ w=>b=false/\Sat F w (.blk b5 4 [.bool true]::.blk b3 42 [.bool false,.int .u8 (cntK p.kind),.int .u8 (typK p.kind),.int .u16 0]::.blk b1 63 (pkC p a7 a8 a9 a10 a13 a14 a15 a16 a18 a24 a25 c7 c8 c9 c10 c13 c14 c15 c16 c18 c24 c25)::ex) R,⟨fun hc=>⟨(absurd hc (by decide)),H⟩,fun hc=>⟨(by decide),H⟩⟩,?_⟩
   clear H;rintro ddj bj w ⟨rfl,H⟩
   refine fF ?_
   refine fF ?_
   refine fF ?_
   refine fF ?_
   refine fF ?_
   refine ⟨fun b _ w=>b=false/\Sat F w (.blk b5 4 [.bool true]::.blk b3 42 [.bool false,.int .u8 (cntK p.kind),.int .u8 (typK p.kind),.int .u16 0]::.blk b1 63 (pkC p a7 a8 a9 a10 a13 a14 a15 a16 a18 a24 a25 c7 c8 c9 c10 c13 c14 c15 c16 c18 c24 c25)::ex) R,⟨fun hc=>⟨(absurd hc (by decide)),H⟩,fun hc=>⟨(by decide),H⟩⟩,?_⟩
   clear H;rintro ddj bj w ⟨rfl,H⟩
   refine fF ?_
   refine fF ?_
   refine fF ?_
   refine fF ?_
   refine fF ?_
   refine sSt0 H (by rfl) (by kernel_rfl) (by rfl) (by rfl) ?_;clear H;intro w _ H
   rw [show cntK p.kind=0 by rw [hk];rfl] at H
   exact ⟨none,[],0,false,rfl,H.nilOwn 5 1,⟨by decide,by decide⟩,bE _,(fun h=>(by cases h))⟩
  ·
   replace H:=H.d1
   refine ⟨_,(H.b2.at0 rfl),?_⟩
   rw [hk]
   refine ⟨fun b _ w=>b=true/\Sat F w (.blk b5 4 [.bool true]::.blk b3 42 [.bool false,.int .u8 (cntK p.kind),.int .u8 (typK p.kind),.int .u16 0]::.blk b1 63 (pkC p a7 a8 a9 a10 a13 a14 a15 a16 a18 a24 a25 c7 c8 c9 c10 c13 c14 c15 c16 c18 c24 c25)::ex) R,⟨fun hc=>⟨(by decide),H⟩,fun hc=>⟨(absurd hc (by decide)),H⟩⟩,?_⟩
   clear H;rintro ddj bj w ⟨rfl,H⟩
   refine fT ?_
   refine ⟨_,(H.b2.at0 rfl),?_⟩
   refine call_j (c112 (B:=[]) (H.nilOwn 5 1) hF.s (by omega)) ?_
   clear H;rintro _ w ⟨a3,k3,r3,rfl,H⟩
   rw [bI] at H
   refine ⟨_,_,_,rfl,?_⟩
   obtain ⟨PRE,hPRE⟩:∃PRE:List Int,PRE=b32 p.sender++b64 p.ntp++b32 p.rtp++b32 p.packets++b32 p.octets:=⟨_,rfl⟩
   have hPl:PRE.length=24:=by rw [hPRE];rfl
   have hsz:=hF.sz (by omega)
   unfold Pk.size at hsz
   refine ⟨fun b bl bc _ w=>∃r,bl=PRE.length/\Sat F w (.own 5 1 b bl bc r (ob (PRE))::.blk b5 4 [.bool true]::.blk b3 42 [.bool false,.int .u8 (cntK p.kind),.int .u8 (typK p.kind),.int .u16 0]::.blk b1 63 (pkC p a7 a8 a9 a10 a13 a14 a15 a16 a18 a24 a25 c7 c8 c9 c10 c13 c14 c15 c16 c18 c24 c25)::ex) R,?_,?_⟩
   ·refine ⟨_,(H.b3.at0 rfl),?_⟩
    refine ⟨fun _=>?_,fun hc=>absurd hc (by rw [hk];decide)⟩
    have hntp:=hF.ntp
    refine ⟨r3,?_⟩;replace H:=H.drew;generalize w.drew=w at H ⊢;obtain ⟨F2,ex2,S,back1,back2,hm⟩:=H.regO
    refine ⟨(H.ne (mt (mt (mt ms))) ms),H.b3.row,_,(H.b3.at0 rfl),?_⟩
    refine ⟨(H.ne (mt (mt (mt ms))) ms),H.b3.row,_,(H.b3.at0 rfl),?_⟩
    refine ⟨(H.ne (mt (mt (mt ms))) ms),H.b3.row,_,(H.b3.at0 rfl),?_⟩
    refine ⟨(H.ne (mt (mt (mt ms))) ms),H.b3.row,_,(H.b3.at0 rfl),?_⟩
    refine ⟨(H.ne (mt (mt (mt ms))) ms),H.b3.row,_,(H.b3.at0 rfl),?_⟩
    clear H;have H:=S;clear S
    rw [ishr_of (b:=(32:Int)) 32 (by rfl) (by decide),wu32,wu32,show p.ntp / 2 ^ 32 % 4294967296=p.ntp / 4294967296 by omega]
    refine call_j (c112 H (by omega) (by omega)) ?_
    clear H;rintro _ w ⟨a4,k4,r4,rfl,H⟩
    refine ⟨_,_,_,rfl,(back1 H).1,?_⟩
    refine call_j (c112 H (by omega) (by omega)) ?_
    clear H;rintro _ w ⟨a5,k5,r5,rfl,H⟩
    refine ⟨_,_,_,rfl,(back1 H).1,?_⟩
    refine call_j (c112 H hF.rtp (by omega)) ?_
    clear H;rintro _ w ⟨a6,k6,r6,rfl,H⟩
    refine ⟨_,_,_,rfl,(back1 H).1,?_⟩
    refine call_j (c112 H hF.pks (by omega)) ?_
    clear H;rintro _ w ⟨aq,kq,rq,rfl,H⟩
    refine ⟨_,_,_,rfl,(back1 H).1,?_⟩
    refine call_j (c112 H hF.ocs (by omega)) ?_
    clear H;rintro _ w ⟨ar,kr,rr,rfl,H⟩
    refine ⟨_,_,_,rfl,?_⟩
    replace H:=(back1 H).2;clear back1 back2 hm
    refine ⟨rr,by rw [hPl],?_⟩
    rw [hPRE]
    exact H
   clear H;rintro dd2 b bl bc w ⟨r,hbl,H⟩
   refine ⟨_,_,_,(H.b3.at0 rfl),?_⟩
   replace H:=H.u2
   refine call_j (c111 H (by omega)) ?_
   clear H;rintro _ w ⟨rfl,ok1,H,hok1⟩
   refine ⟨rfl,?_⟩
   replace H:=H.r2
   refine ⟨_,_,_,(H.b3.at0 rfl),?_⟩
   refine ⟨fun b bl bc x q w=>∃(j:Nat) (r:Option Nat) (ok:Bool) (B:List Int),x=(j:Int)/\j+q=p.reports.length/\bl=B.length/\B.length<=24+24*j/\(ok=true->ok1=true/\B=PRE++(p.reports.take j).flatMap wRep/\∀y∈p.reports.take j,y.2.2.1 < 16777216)/\Sat F w (.own 5 1 b bl bc r (ob (B))::.blk b5 4 [.bool ok]::.blk b3 42 [.bool false,.int .u8 ((p.reports.length % 32:Nat):Int),.int .u8 (typK p.kind),.int .u16 0]::.blk b1 63 (pkC p a7 a8 a9 a10 a13 a14 a15 a16 a18 a24 a25 c7 c8 c9 c10 c13 c14 c15 c16 c18 c24 c25)::ex) R,⟨p.reports.length,0,r,ok1,PRE,rfl,by omega,hbl,by omega,fun h=>⟨h,by simp,by simp⟩,H⟩,?_⟩
   clear H;rintro dd3 b bl bc x q w ⟨j,r,ok,B,rfl,hjq,rfl,hBl,hok,H⟩
   refine ⟨fun hc=>?_,fun hc=>?_⟩
   ·rw [ah] at hc
    have hjl:j < p.reports.length:=by omega
    obtain ⟨pp,us,e,hus,hcell,H1⟩:=H.eltF Rep.dat_len' (by decide) m7 (j:=j) hjl
    have htk:p.reports.take (j+1)=p.reports.take j++[p.reports[j]]:=by rw [am,ai hjl];rfl
    have hRj:=hF.reps p.reports[j] (ax hjl)
    clear H
    generalize p.reports[j]=D at H1 htk hRj
    obtain ⟨d0,d1,d2,d3,d4,d5,d6⟩:=D
    refine ⟨pp,e,by omega,by omega,?_⟩
    obtain rfl:=H1.ones (us:=[.int .u32 d0,.int .u8 d1,.int .u32 d2,.int .u32 d3,.int .u32 d4,.int .u32 d5,.int .u32 d6]) ms
    refine ⟨_,_,_,_,_,_,_,LdC [.int .u32 d0,.int .u8 d1,.int .u32 d2,.int .u32 d3,.int .u32 d4,.int .u32 d5,.int .u32 d6] (by kernel_rfl) (by rw [show (j:Int).toNat*7=j*7 by omega];exact hcell),?_⟩
    have H:=H1
    clear H1 hcell
    refine sNew H ?_;clear H;intro b4 w _ H
    refine sSw0 H rfl (by kernel_rfl) (by rfl) (by rfl) ?_;clear H;intro w _ H
    refine ⟨_,_,_,_,_,_,_,H.b0.ld,?_⟩
    refine call_j (c113 H hRj) ?_
    clear H;rintro _ w ⟨xa,xc,xr,X,okx,rfl,H,hXl,hokx⟩
    refine ⟨_,_,_,_,rfl,?_⟩
    replace H:=H.freeze.r1
    refine ⟨r,?_⟩;replace H:=H.drew;generalize w.drew=w at H ⊢;obtain ⟨F2,ex2,S,back1,back2,hm⟩:=H.regO
    refine ⟨(H.ne (mt (mt ms)) ms),H.b2.row,_,(by exact Ce (by rfl) H.b2 rfl),?_⟩
    clear H;have H:=S;clear S
    refine sAppV H ms (by omega) ?_
    clear H;intro a5 n5 k5 r5 w hn5 _ H
    refine ⟨(back1 H).1,?_⟩
    replace H:=(back1 H).2;clear back1 back2 hm
    have hl2:n5=(B++X).length:=by rw [ae];exact hn5
    have hl3:(B++X).length<=24+24*(j+1):=by rw [ae];omega
    refine ⟨fun ht=>?_,fun ht=>?_⟩
    ·refine sSt2 H (by rfl) (by kernel_rfl) (by rfl) (by rfl) ?_;clear H;intro w _ H
     refine ⟨q - 1,by omega,j+1,r5,okx,B++X,by rw [wi64_of (by omega) (by omega)];simp,by omega,hl2,hl3,fun h=>?_,H.dq (fun r h=>by simp [h])⟩
     obtain ⟨h1,h2,h3⟩:=hok ht
     obtain ⟨h4,h5⟩:=hokx h
     refine ⟨h1,?_,?_⟩
     ·rw [h2,h4,htk,aj,an];simp
     ·rw [htk]
      intro y hy
      rcases aV.1 hy with hy | hy
      ·exact h3 y hy
      ·rw [aQ.1 hy];exact h5
    ·refine sSt2 H (by rfl) (by kernel_rfl) (by rfl) (by rfl) ?_;clear H;intro w _ H
     exact ⟨q - 1,by omega,j+1,r5,false,B++X,by rw [wi64_of (by omega) (by omega)];simp,by omega,hl2,hl3,(fun h=>(by cases h)),H.dq (fun r h=>by simp [h])⟩
   rw [af] at hc
   obtain rfl:j=p.reports.length:=by omega
   rw [ao] at hok
   refine ⟨r,?_⟩;replace H:=H.drew;generalize w.drew=w at H ⊢;obtain ⟨F2,ex2,S,back1,back2,hm⟩:=H.regO
   refine ⟨(H.ne (mt (mt (mt ms))) ms),H.b3.row,_,_,_,(H.b3.at0 rfl),?_⟩
   refine ⟨(H.ne (mt ms) ms),H.b1.row,_,(by exact Ce (by rfl) H.b1 rfl),?_⟩
   clear H;have H:=S;clear S
   refine sAppV H m8 (by omega) ?_
   clear H;intro a5 n5 k5 r5 w hn5 _ H
   refine ⟨(back1 H).1,?_⟩
   replace H:=(back1 H).2;clear back1 back2 hm
   have hl2:n5=(B++p.ext).length:=by rw [ae];exact hn5
   have hl3:(B++p.ext).length<=24*p.size+40:=by rw [ae];omega
   refine ⟨fun ht=>?_,fun ht=>?_⟩
   ·refine ⟨_,_,_,(H.b3.at0 rfl),?_⟩
    refine ⟨by decide,?_⟩
    refine sSt1 H (by rfl) (by kernel_rfl) (by rfl) (by rfl) ?_;clear H;intro w _ H
    refine ⟨r5,B++p.ext,_,_,hl2,H,⟨by omega,by omega⟩,hl3,fun h=>?_⟩
    obtain ⟨h1,h2,h3⟩:=hok ht
    exact fm1z hk hF (by rw [h2,hPRE]) (hok1 h1).2 h3 (tmod4 h)
   ·refine sSt1 H (by rfl) (by kernel_rfl) (by rfl) (by rfl) ?_;clear H;intro w _ H
    exact ⟨r5,B++p.ext,_,false,hl2,H,⟨by omega,by omega⟩,hl3,(fun h=>(by cases h))⟩
  ·
   replace H:=H.d1
   refine ⟨_,(H.b2.at0 rfl),?_⟩
   rw [hk]
   refine ⟨fun b _ w=>b=true/\Sat F w (.blk b5 4 [.bool true]::.blk b3 42 [.bool false,.int .u8 (cntK p.kind),.int .u8 (typK p.kind),.int .u16 0]::.blk b1 63 (pkC p a7 a8 a9 a10 a13 a14 a15 a16 a18 a24 a25 c7 c8 c9 c10 c13 c14 c15 c16 c18 c24 c25)::ex) R,⟨fun hc=>⟨(absurd hc (by decide)),H⟩,fun hc=>⟨(by decide),H⟩⟩,?_⟩
   clear H;rintro ddj bj w ⟨rfl,H⟩
   refine fT ?_
   refine ⟨_,(H.b2.at0 rfl),?_⟩
   refine call_j (c112 (B:=[]) (H.nilOwn 5 1) hF.s (by omega)) ?_
   clear H;rintro _ w ⟨a3,k3,r3,rfl,H⟩
   rw [bI] at H
   refine ⟨_,_,_,rfl,?_⟩
   obtain ⟨PRE,hPRE⟩:∃PRE:List Int,PRE=b32 p.sender:=⟨_,rfl⟩
   have hPl:PRE.length=4:=by rw [hPRE];rfl
   have hsz:=hF.sz (by omega)
   unfold Pk.size at hsz
   refine ⟨fun b bl bc _ w=>∃r,bl=PRE.length/\Sat F w (.own 5 1 b bl bc r (ob (PRE))::.blk b5 4 [.bool true]::.blk b3 42 [.bool false,.int .u8 (cntK p.kind),.int .u8 (typK p.kind),.int .u16 0]::.blk b1 63 (pkC p a7 a8 a9 a10 a13 a14 a15 a16 a18 a24 a25 c7 c8 c9 c10 c13 c14 c15 c16 c18 c24 c25)::ex) R,?_,?_⟩
   ·refine ⟨_,(H.b3.at0 rfl),?_⟩
    refine ⟨fun hc=>absurd hc (by rw [hk];decide),fun _=>?_⟩
    refine ⟨r3,by rw [hPl],?_⟩
    rw [hPRE]
    exact H
   clear H;rintro dd2 b bl bc w ⟨r,hbl,H⟩
   refine ⟨_,_,_,(H.b3.at0 rfl),?_⟩
   replace H:=H.u2
   refine call_j (c111 H (by omega)) ?_
   clear H;rintro _ w ⟨rfl,ok1,H,hok1⟩
   refine ⟨rfl,?_⟩
   replace H:=H.r2
   refine ⟨_,_,_,(H.b3.at0 rfl),?_⟩
   refine ⟨fun b bl bc x q w=>∃(j:Nat) (r:Option Nat) (ok:Bool) (B:List Int),x=(j:Int)/\j+q=p.reports.length/\bl=B.length/\B.length<=24+24*j/\(ok=true->ok1=true/\B=PRE++(p.reports.take j).flatMap wRep/\∀y∈p.reports.take j,y.2.2.1 < 16777216)/\Sat F w (.own 5 1 b bl bc r (ob (B))::.blk b5 4 [.bool ok]::.blk b3 42 [.bool false,.int .u8 ((p.reports.length % 32:Nat):Int),.int .u8 (typK p.kind),.int .u16 0]::.blk b1 63 (pkC p a7 a8 a9 a10 a13 a14 a15 a16 a18 a24 a25 c7 c8 c9 c10 c13 c14 c15 c16 c18 c24 c25)::ex) R,⟨p.reports.length,0,r,ok1,PRE,rfl,by omega,hbl,by omega,fun h=>⟨h,by simp,by simp⟩,H⟩,?_⟩
   clear H;rintro dd3 b bl bc x q w ⟨j,r,ok,B,rfl,hjq,rfl,hBl,hok,H⟩
   refine ⟨fun hc=>?_,fun hc=>?_⟩
   ·rw [ah] at hc
    have hjl:j < p.reports.length:=by omega
    obtain ⟨pp,us,e,hus,hcell,H1⟩:=H.eltF Rep.dat_len' (by decide) m7 (j:=j) hjl
    have htk:p.reports.take (j+1)=p.reports.take j++[p.reports[j]]:=by rw [am,ai hjl];rfl
    have hRj:=hF.reps p.reports[j] (ax hjl)
    clear H
    generalize p.reports[j]=D at H1 htk hRj
    obtain ⟨d0,d1,d2,d3,d4,d5,d6⟩:=D
    refine ⟨pp,e,by omega,by omega,?_⟩
    obtain rfl:=H1.ones (us:=[.int .u32 d0,.int .u8 d1,.int .u32 d2,.int .u32 d3,.int .u32 d4,.int .u32 d5,.int .u32 d6]) ms
    refine ⟨_,_,_,_,_,_,_,LdC [.int .u32 d0,.int .u8 d1,.int .u32 d2,.int .u32 d3,.int .u32 d4,.int .u32 d5,.int .u32 d6] (by kernel_rfl) (by rw [show (j:Int).toNat*7=j*7 by omega];exact hcell),?_⟩
    have H:=H1
    clear H1 hcell
    refine sNew H ?_;clear H;intro b4 w _ H
    refine sSw0 H rfl (by kernel_rfl) (by rfl) (by rfl) ?_;clear H;intro w _ H
    refine ⟨_,_,_,_,_,_,_,H.b0.ld,?_⟩
    refine call_j (c113 H hRj) ?_
    clear H;rintro _ w ⟨xa,xc,xr,X,okx,rfl,H,hXl,hokx⟩
    refine ⟨_,_,_,_,rfl,?_⟩
    replace H:=H.freeze.r1
    refine ⟨r,?_⟩;replace H:=H.drew;generalize w.drew=w at H ⊢;obtain ⟨F2,ex2,S,back1,back2,hm⟩:=H.regO
    refine ⟨(H.ne (mt (mt ms)) ms),H.b2.row,_,(by exact Ce (by rfl) H.b2 rfl),?_⟩
    clear H;have H:=S;clear S
    refine sAppV H ms (by omega) ?_
    clear H;intro a5 n5 k5 r5 w hn5 _ H
    refine ⟨(back1 H).1,?_⟩
    replace H:=(back1 H).2;clear back1 back2 hm
    have hl2:n5=(B++X).length:=by rw [ae];exact hn5
    have hl3:(B++X).length<=24+24*(j+1):=by rw [ae];omega
    refine ⟨fun ht=>?_,fun ht=>?_⟩
    ·refine sSt2 H (by rfl) (by kernel_rfl) (by rfl) (by rfl) ?_;clear H;intro w _ H
     refine ⟨q - 1,by omega,j+1,r5,okx,B++X,by rw [wi64_of (by omega) (by omega)];simp,by omega,hl2,hl3,fun h=>?_,H.dq (fun r h=>by simp [h])⟩
     obtain ⟨h1,h2,h3⟩:=hok ht
     obtain ⟨h4,h5⟩:=hokx h
     refine ⟨h1,?_,?_⟩
     ·rw [h2,h4,htk,aj,an];simp
     ·rw [htk]
      intro y hy
      rcases aV.1 hy with hy | hy
      ·exact h3 y hy
      ·rw [aQ.1 hy];exact h5
    ·refine sSt2 H (by rfl) (by kernel_rfl) (by rfl) (by rfl) ?_;clear H;intro w _ H
     exact ⟨q - 1,by omega,j+1,r5,false,B++X,by rw [wi64_of (by omega) (by omega)];simp,by omega,hl2,hl3,(fun h=>(by cases h)),H.dq (fun r h=>by simp [h])⟩
   rw [af] at hc
   obtain rfl:j=p.reports.length:=by omega
   rw [ao] at hok
   refine ⟨r,?_⟩;replace H:=H.drew;generalize w.drew=w at H ⊢;obtain ⟨F2,ex2,S,back1,back2,hm⟩:=H.regO
   refine ⟨(H.ne (mt (mt (mt ms))) ms),H.b3.row,_,_,_,(H.b3.at0 rfl),?_⟩
   refine ⟨(H.ne (mt ms) ms),H.b1.row,_,(by exact Ce (by rfl) H.b1 rfl),?_⟩
   clear H;have H:=S;clear S
   refine sAppV H m8 (by omega) ?_
   clear H;intro a5 n5 k5 r5 w hn5 _ H
   refine ⟨(back1 H).1,?_⟩
   replace H:=(back1 H).2;clear back1 back2 hm
   have hl2:n5=(B++p.ext).length:=by rw [ae];exact hn5
   have hl3:(B++p.ext).length<=24*p.size+40:=by rw [ae];omega
   refine ⟨fun ht=>?_,fun ht=>?_⟩
   ·refine ⟨_,_,_,(H.b3.at0 rfl),?_⟩
    refine ⟨by decide,?_⟩
    refine sSt1 H (by rfl) (by kernel_rfl) (by rfl) (by rfl) ?_;clear H;intro w _ H
    refine ⟨r5,B++p.ext,_,_,hl2,H,⟨by omega,by omega⟩,hl3,fun h=>?_⟩
    obtain ⟨h1,h2,h3⟩:=hok ht
    exact fm2z hk hF (by rw [h2,hPRE]) (hok1 h1).2 h3 (tmod4 h)
   ·refine sSt1 H (by rfl) (by kernel_rfl) (by rfl) (by rfl) ?_;clear H;intro w _ H
    exact ⟨r5,B++p.ext,_,false,hl2,H,⟨by omega,by omega⟩,hl3,(fun h=>(by cases h))⟩
  ·
   replace H:=H.d1
   refine ⟨_,(H.b2.at0 rfl),?_⟩
   rw [hk]
   refine ⟨fun b _ w=>b=false/\Sat F w (.blk b5 4 [.bool true]::.blk b3 42 [.bool false,.int .u8 (cntK p.kind),.int .u8 (typK p.kind),.int .u16 0]::.blk b1 63 (pkC p a7 a8 a9 a10 a13 a14 a15 a16 a18 a24 a25 c7 c8 c9 c10 c13 c14 c15 c16 c18 c24 c25)::ex) R,⟨fun hc=>⟨(absurd hc (by decide)),H⟩,fun hc=>⟨(by decide),H⟩⟩,?_⟩
   clear H;rintro ddj bj w ⟨rfl,H⟩
   refine fF ?_
   refine fT ?_
   have hsz:=hF.sz (by omega)
   unfold Pk.size at hsz
   have hcl:=csz_len p.chunks
   have hcm:=csz_mem p.chunks
   have hbl:=wChk_le p.chunks
   refine ⟨_,_,_,(H.b2.at0 rfl),?_⟩
   refine call_j (c111 H (by omega)) ?_
   clear H;rintro _ w ⟨rfl,ok1,H,hok1⟩
   refine ⟨rfl,?_⟩
   refine ⟨_,_,_,(H.b2.at0 rfl),?_⟩
   refine ⟨fun b bl bc x q w=>∃(j:Nat) (r:Option Nat) (ok:Bool) (B:List Int),x=(j:Int)/\j+q=p.chunks.length/\bl=B.length/\B.length=((p.chunks.take j).flatMap wChk).length/\(ok=true->ok1=true/\B=(p.chunks.take j).flatMap wChk/\∀y∈p.chunks.take j,∀i∈y.2,ItmR i)/\Sat F w (.own 5 1 b bl bc r (ob (B))::.blk b5 4 [.bool ok]::.blk b3 42 [.bool false,.int .u8 ((p.chunks.length % 32:Nat):Int),.int .u8 (typK p.kind),.int .u16 0]::.blk b1 63 (pkC p a7 a8 a9 a10 a13 a14 a15 a16 a18 a24 a25 c7 c8 c9 c10 c13 c14 c15 c16 c18 c24 c25)::ex) R,⟨p.chunks.length,0,none,ok1,[],rfl,by omega,rfl,by rw [aP,aD],fun h=>⟨h,by simp,by simp⟩,H.nilOwn 5 1⟩,?_⟩
   clear H;rintro dd3 b bl bc x q w ⟨j,r,ok,B,rfl,hjq,rfl,hBl,hok,H⟩
   refine ⟨fun hc=>?_,fun hc=>?_⟩
   ·rw [ah] at hc
    have hjl:j < p.chunks.length:=by omega
    obtain ⟨pp,us,e,hus,hcell,H1⟩:=H.eltF Chk.dat_len' (by decide) m9 (j:=j) hjl
    have htk:p.chunks.take (j+1)=p.chunks.take j++[p.chunks[j]]:=by rw [am,ai hjl];rfl
    have h0:=hF.chks p.chunks[j] (ax hjl)
    have hDm:=hcm p.chunks[j] (ax hjl)
    have hpre:=pre_le wChk hjl
    rw [wChk_len] at hpre
    clear H
    generalize p.chunks[j]=D at H1 htk h0 hDm hpre
    obtain ⟨d0,msz⟩:=D
    replace hDm:msz.length<=csz p.chunks:=hDm
    replace hpre:((p.chunks.take j).flatMap wChk).length+up4 (4+itLen msz+1)<=(p.chunks.flatMap wChk).length:=hpre
    have hup:4+itLen msz+1<=up4 (4+itLen msz+1):=by unfold up4;omega
    refine ⟨pp,e,by omega,by omega,?_⟩
    obtain ⟨x0,us0,rfl,H2⟩:=H1.uncons ms
    obtain ⟨x1,us1,rfl,H3⟩:=H2.uncons (mt ms)
    obtain rfl:us1=[]:=by simpa using hus
    obtain rfl:=H2.one1 ms
    obtain ⟨sa,sn,sc,rfl,hsl⟩:=H3.rowS ms
    rw [flat_len Itm.dat_len] at hsl
    obtain rfl:sn=msz.length:=by omega
    refine ⟨_,_,_,_,LdC [.int .u32 d0,.slice sa msz.length sc] (by kernel_rfl) (by rw [show (j:Int).toNat*2=j*2 by omega];exact hcell),?_⟩
    have H:Sat F w _ (.deep [.row 2 (msz.flatMap Itm.dat)] [.slice sa msz.length sc]::R):=H3.sub (ak _) (fun r h=>by rcases aI.1 h with rfl | h;exact ms;simp [h])
    clear H1 H2 H3 hcell
    refine sNew H ?_;clear H;intro b4 w _ H
    refine sSw0 H rfl (by kernel_rfl) (by rfl) (by rfl) ?_;clear H;intro w _ H
    refine ⟨_,(H.b0.at0 rfl),?_⟩
    replace H:=H.r1
    refine call_j (c112 H h0 (by omega)) ?_
    clear H;rintro _ w ⟨a4,k4,r4,rfl,H⟩
    refine ⟨_,_,_,rfl,?_⟩
    obtain ⟨B0,hB0⟩:∃B0,B0=B++b32 d0:=⟨_,rfl⟩
    rw [<-hB0] at H
    have hB0l:B0.length=B.length+4:=by rw [hB0];simp only [ae,b32_len]
    refine ⟨_,_,_,(H.b1.at0 rfl),?_⟩
    refine ⟨fun b' bl' bc' x' q' w=>∃(i:Nat) (r':Option Nat) (ok3:Bool) (X:List Int),x'=(i:Int)/\i+q'=msz.length/\bl'=(B0++X).length/\X.length=itLen (msz.take i)/\(ok3=true->ok=true/\X=(msz.take i).flatMap wItm/\∀m∈msz.take i,ItmR m)/\Sat F w (.own 5 1 b' bl' bc' r' (ob (B0++X))::.blk b4 147 [.int .u32 d0,.slice sa msz.length sc]::.blk b5 4 [.bool ok3]::.blk b3 42 [.bool false,.int .u8 ((p.chunks.length % 32:Nat):Int),.int .u8 (typK p.kind),.int .u16 0]::.blk b1 63 (pkC p a7 a8 a9 a10 a13 a14 a15 a16 a18 a24 a25 c7 c8 c9 c10 c13 c14 c15 c16 c18 c24 c25)::ex) (.deep [.row 2 (msz.flatMap Itm.dat)] [.slice sa msz.length sc]::R),⟨msz.length,0,r4,ok,[],rfl,by omega,by rw [aE,hB0l],rfl,fun h=>⟨h,by simp,by simp⟩,by rw [aE];exact H⟩,?_⟩
    clear H;rintro dd5 b' bl' bc' x' q' w ⟨i,r',ok3,X,rfl,hiq,hbl',hXl,hok3,H⟩
    have hbl2:bl'=B0.length+X.length:=by rw [hbl',ae]
    refine ⟨fun hc2=>?_,fun hc2=>?_⟩
    ·rw [ah] at hc2
     have hil:i < msz.length:=by omega
     obtain ⟨p2,us,e2',hus2,hcell,H1⟩:=H.eltF Itm.dat_len (by decide) ms (j:=i) hil
     have htk2:msz.take (i+1)=msz.take i++[msz[i]]:=by rw [am,ai hil];rfl
     have hle:=itLen_tk hil
     clear H
     generalize msz[i]=E at H1 htk2 hle
     obtain ⟨e0,e1⟩:=E
     replace hle:itLen (msz.take i)+(2+e1.size)<=itLen msz:=hle
     refine ⟨p2,e2',by omega,by omega,?_⟩
     obtain rfl:=H1.ones (us:=[.int .u8 e0,.string e1]) ms
     refine ⟨_,_,LdC [.int .u8 e0,.string e1] (by kernel_rfl) (by rw [show (i:Int).toNat*2=i*2 by omega];exact hcell),?_⟩
     have H:=H1.sub (ak _) (fun r h=>mt h)
     clear H1 hcell
     refine sNew H ?_;clear H;intro b7 w _ H
     refine sSw0 H rfl (by kernel_rfl) (by rfl) (by rfl) ?_;clear H;intro w _ H
     refine ⟨fun _ w=>∃ok4:Bool,(ok4=true->ok3=true/\e0≠0/\e1.size<=255)/\Sat F w (.blk b7 149 [.int .u8 e0,.string e1]::.own 5 1 b' bl' bc' r' (ob (B0++X))::.blk b4 147 [.int .u32 d0,.slice sa msz.length sc]::.blk b5 4 [.bool ok4]::.blk b3 42 [.bool false,.int .u8 ((p.chunks.length % 32:Nat):Int),.int .u8 (typK p.kind),.int .u16 0]::.blk b1 63 (pkC p a7 a8 a9 a10 a13 a14 a15 a16 a18 a24 a25 c7 c8 c9 c10 c13 c14 c15 c16 c18 c24 c25)::ex) (.deep [.row 2 (msz.flatMap Itm.dat)] [.slice sa msz.length sc]::R),?_,?_⟩
     ·refine ⟨_,(by exact Ce (by rfl) H.b3 rfl),?_⟩
      refine ⟨fun h2=>?_,fun h2=>?_⟩
      ·refine ⟨_,(H.b0.at0 rfl),?_⟩
       refine ⟨fun h3=>?_,fun h3=>?_⟩
       ·refine ⟨_,(H.b0.at0 rfl),?_⟩
        refine sSt3 H (by rfl) (by kernel_rfl) (by rfl) (by rfl) ?_;clear H;intro w _ H
        exact ⟨decide (((e1.size:Nat):Int)<=(255:Int)),fun h=>⟨h2,by simpa using h3,by rw [ah] at h;omega⟩,H⟩
       ·refine sSt3 H (by rfl) (by kernel_rfl) (by rfl) (by rfl) ?_;clear H;intro w _ H
        exact ⟨false,(fun h=>(by cases h)),H⟩
      ·refine sSt3 H (by rfl) (by kernel_rfl) (by rfl) (by rfl) ?_;clear H;intro w _ H
       exact ⟨false,(fun h=>(by cases h)),H⟩
     clear H;rintro dd6 w ⟨ok4,hok4,H⟩
     have w1:u8.wrap ((e1.size:Nat):Int)=((e1.size % 256:Nat):Int):=by rw [wu8];omega
     replace H:=H.r1
     refine ⟨r',?_⟩;replace H:=H.drew;generalize w.drew=w at H ⊢;obtain ⟨F2,ex2,S,back1,back2,hm⟩:=H.regO
     refine ⟨(H.ne (mt ms) ms),H.b1.row,_,(H.b1.at0 rfl),?_⟩
     refine ⟨(H.ne (mt ms) ms),H.b1.row,_,(H.b1.at0 rfl),?_⟩
     refine ⟨(H.ne (mt ms) ms),H.b1.row,_,(H.b1.at0 rfl),?_⟩
     clear H;have H:=S;clear S
     rw [w1]
     refine sNew H ?_;clear H;intro b8 w _ H
     refine ⟨(back2 H).1,?_⟩
     refine sApp1 H (bytes:=1) (by kernel_rfl) [.int .u8 e0,.int .u8 ((e1.size % 256:Nat):Int)] (ob [e0,((e1.size % 256:Nat):Int)]) (by rfl) (fun j u hu=>by rw [add_flat,aK];exact H.b0.cell hu) (fun G h=>DeepL.ones [_,_]) (by simp [Value.oneCell']) (by unfold maxLen;omega) (by omega) ?_
     clear H;intro a6 n6 k6 r6 w hn6 _ H
     refine ⟨(back2 H).1,?_⟩
     rw [<-ob_append] at H
     replace H:=H.r1
     refine sAppS H e1 (by omega) (by omega) ?_
     clear H;intro aw kw rw' w H
     replace H:=(back2 H).2;clear back1 back2 hm
     have hX:B0++X++[e0,((e1.size % 256:Nat):Int)]++sbs e1=B0++(X++([e0,((e1.size % 256:Nat):Int)]++sbs e1)):=by simp only [an]
     rw [hX] at H
     have hl1:(X++([e0,((e1.size % 256:Nat):Int)]++sbs e1)).length=X.length+(2+e1.size):=by rw [ae,ae,sbs_len];rfl
     refine ⟨q' - 1,by omega,i+1,rw',ok4,_,by rw [wi64_of (by omega) (by omega)];simp,by omega,by rw [ae,hl1];omega,by rw [hl1,htk2,itLen_snoc,hXl],fun h=>?_,H.dr⟩
     obtain ⟨h0,h1,h2⟩:=hok4 h
     obtain ⟨h3,h4,h5⟩:=hok3 h0
     refine ⟨h3,?_,?_⟩
     ·rw [h4,htk2,aj,bf (show e1.size < 256 by omega)]
      simp only [fm1,fm2,fm3]
      rfl
     ·rw [htk2]
      intro y hy
      rcases aV.1 hy with hy | hy
      ·exact h5 y hy
      ·rw [aQ.1 hy];exact ⟨h1,h2⟩
    rw [af] at hc2
    obtain rfl:i=msz.length:=by omega
    rw [ao] at hok3 hXl
    refine ⟨rfl,?_⟩
    refine sPush0 H (bytes:=1) (by kernel_rfl) (ob [0]) (by rfl) (fun G h=>DeepL.ones [_]) (by rfl) (by unfold maxLen;omega) (by omega) ?_
    clear H;intro a6 n6 k6 r6 w hn6 _ H
    rw [<-ob_append] at H
    refine call_j (c114 H (by omega)) ?_
    clear H;rintro _ w ⟨a8,k8,r8,rfl,H⟩
    refine ⟨_,_,_,rfl,?_⟩
    have h4:=wChk_4 (p.chunks.take j)
    have hpad:pad4 n6=pad4 (4+itLen msz+1):=by unfold pad4;omega
    have hu4:up4 (4+itLen msz+1)=4+itLen msz+1+pad4 (4+itLen msz+1):=by unfold up4 pad4;omega
    have hl:n6+pad4 n6=(B0++X++[0]++List.replicate (pad4 n6) 0).length:=by rw [ae,ae,ae,bi];simp only [aA,ay];omega
    refine ⟨q - 1,by omega,j+1,r8,ok3,_,by rw [wi64_of (by omega) (by omega)];simp,by omega,hl,?_,fun h=>?_,H.dq (fun r h=>mt h)⟩
    ·rw [<-hl,htk,aj,ae]
     simp only [fm1,fm2,fm3]
     rw [wChk_len]
     show _=_+up4 (4+itLen msz+1)
     omega
    ·obtain ⟨h2,h3,h5⟩:=hok3 h
     obtain ⟨h6,h7,h8⟩:=hok h2
     refine ⟨h6,?_,?_⟩
     ·have hq:(b32 d0++msz.flatMap wItm++[0]).length=4+itLen msz+1:=by rw [ae,ae,b32_len,wItm_it];rfl
      rw [hpad,hB0,h7,h3,htk,aj]
      simp only [av,aD,aE,wChk]
      rw [hq]
      simp only [an]
     ·rw [htk]
      intro y hy
      rcases aV.1 hy with hy | hy
      ·exact h8 y hy
      ·rw [aQ.1 hy];exact h5
   rw [af] at hc
   obtain rfl:j=p.chunks.length:=by omega
   rw [ao] at hBl hok
   exact ⟨r,B,_,ok,rfl,H,⟨by omega,by omega⟩,by omega,fun h=>fm3z hk hF (hok h).2.1 (hok1 (hok h).1).2 (hok h).2.2⟩
  ·
   replace H:=H.d1
   refine ⟨_,(H.b2.at0 rfl),?_⟩
   rw [hk]
   refine ⟨fun b _ w=>b=false/\Sat F w (.blk b5 4 [.bool true]::.blk b3 42 [.bool false,.int .u8 (cntK p.kind),.int .u8 (typK p.kind),.int .u16 0]::.blk b1 63 (pkC p a7 a8 a9 a10 a13 a14 a15 a16 a18 a24 a25 c7 c8 c9 c10 c13 c14 c15 c16 c18 c24 c25)::ex) R,⟨fun hc=>⟨(absurd hc (by decide)),H⟩,fun hc=>⟨(by decide),H⟩⟩,?_⟩
   clear H;rintro ddj bj w ⟨rfl,H⟩
   refine fF ?_
   refine fF ?_
   refine fT ?_
   have hsz:=hF.sz (by omega)
   unfold Pk.size at hsz
   have w1:u8.wrap ((p.text.size:Nat):Int)=((p.text.size % 256:Nat):Int):=by rw [wu8];omega
   refine ⟨_,_,_,(H.b2.at0 rfl),?_⟩
   refine call_j (c111 H (by omega)) ?_
   clear H;rintro _ w ⟨rfl,ok1,H,hok1⟩
   refine ⟨rfl,?_⟩
   refine ⟨_,_,_,(H.b2.at0 rfl),?_⟩
   refine ⟨fun b bl bc x q w=>∃(j:Nat) (r:Option Nat),x=(j:Int)/\j+q=p.sources.length/\bl=4*j/\Sat F w (.own 5 1 b bl bc r (ob ((p.sources.take j).flatMap b32))::.blk b5 4 [.bool ok1]::.blk b3 42 [.bool false,.int .u8 ((p.sources.length % 32:Nat):Int),.int .u8 (typK p.kind),.int .u16 0]::.blk b1 63 (pkC p a7 a8 a9 a10 a13 a14 a15 a16 a18 a24 a25 c7 c8 c9 c10 c13 c14 c15 c16 c18 c24 c25)::ex) R,⟨p.sources.length,0,none,rfl,by omega,rfl,by rw [aP,aD];exact H.nilOwn 5 1⟩,?_⟩
   clear H;rintro dd3 b bl bc x q w ⟨j,r,rfl,hjq,rfl,H⟩
   refine ⟨fun hc=>?_,fun hc=>?_⟩
   ·rw [ah] at hc
    have hjl:j < p.sources.length:=by omega
    have htk:p.sources.take (j+1)=p.sources.take j++[p.sources[j]]:=by rw [am,ai hjl];rfl
    have hRj:=hF.srcs p.sources[j] (ax hjl)
    obtain ⟨bb,oo,hle,hcell⟩:=H.elt m10 (by omega)
    have hc1:=hcell j (.int .u32 p.sources[j]) (by rw [oi_get _ _ _ hjl];simp [List.getD,ai hjl])
    refine ⟨_,hle,by omega,by omega,?_⟩
    refine ⟨_,(by rw [show (j:Int).toNat*1=j by omega,add_flat];exact hc1),?_⟩
    clear hcell hc1
    refine call_j (c112 H hRj (by omega)) ?_
    clear H;rintro _ w ⟨a6,k6,r6,rfl,H⟩
    refine ⟨_,_,_,rfl,?_⟩
    refine ⟨q - 1,by omega,j+1,r6,by rw [wi64_of (by omega) (by omega)];simp,by omega,by omega,?_⟩
    rw [htk,aj]
    simp only [fm1,fm2,fm3]
    exact H
   rw [af] at hc
   obtain rfl:j=p.sources.length:=by omega
   rw [ao] at H
   refine ⟨_,(by exact Ce (by rfl) H.b1 rfl),?_⟩
   refine ⟨fun hok=>?_,fun hok=>?_⟩
   ·refine ⟨_,(H.b3.at0 rfl),?_⟩
    refine sSt1 H (by rfl) (by kernel_rfl) (by rfl) (by rfl) ?_;clear H;intro w _ H
    obtain ⟨ok2,hok2e⟩:∃ok2,ok2=decide (((p.text.size:Nat):Int)<=(255:Int)):=⟨_,rfl⟩
    have hok2:ok2=true->p.text.size<=255:=fun h=>by rw [hok2e,ah] at h;omega
    rw [<-hok2e] at H
    clear hok2e
    refine ⟨_,(H.b3.at0 rfl),?_⟩
    rw [noStr]
    refine ⟨fun h0=>?_,fun h0=>?_⟩
    ·have hs0:p.text.size≠0:=by simpa using h0
     refine ⟨r,?_⟩;replace H:=H.drew;generalize w.drew=w at H ⊢;obtain ⟨F2,ex2,S,back1,back2,hm⟩:=H.regO
     refine ⟨(H.ne (mt (mt (mt ms))) ms),H.b3.row,_,(H.b3.at0 rfl),?_⟩
     refine ⟨(H.ne (mt (mt (mt ms))) ms),H.b3.row,_,(H.b3.at0 rfl),?_⟩
     clear H;have H:=S;clear S
     refine ⟨rfl,?_⟩
     refine sNew H ?_;clear H;intro b6 w _ H
     refine ⟨(back2 H).1,?_⟩
     rw [w1] at H
     refine sApp1 H (bytes:=1) (by kernel_rfl) [.int .u8 ((p.text.size % 256:Nat):Int)] (ob [((p.text.size % 256:Nat):Int)]) (by rfl) (fun j u hu=>by rw [add_flat,aK];exact H.b0.cell hu) (fun G h=>DeepL.ones [_]) (by simp [Value.oneCell']) (by unfold maxLen;omega) (by omega) ?_
     clear H;intro a6 n6 k6 r6 w hn6 _ H
     refine ⟨(back2 H).1,?_⟩
     rw [<-ob_append] at H
     replace H:=H.r1
     refine sAppS H p.text (by omega) (by omega) ?_
     clear H;intro a7' k7 r7 w H
     replace H:=(back2 H).2;clear back1 back2 hm
     refine call_j (c114 H (by omega)) ?_
     clear H;rintro _ w ⟨a8',k8,r8,rfl,H⟩
     refine ⟨_,_,_,rfl,?_⟩
     have hl:n6+p.text.size+pad4 (n6+p.text.size)=(p.sources.flatMap b32++[((p.text.size % 256:Nat):Int)]++sbs p.text++List.replicate (pad4 (n6+p.text.size)) 0).length:=by
      rw [ae,ae,ae,fl32,sbs_len,bi];simp only [aA,ay];omega
     have hp3:pad4 (n6+p.text.size)<=3:=by unfold pad4;omega
     refine ⟨r8,_,_,ok2,hl,H.dr,⟨by omega,by omega⟩,by rw [<-hl];omega,fun h=>?_⟩
     have hts:=hok2 h
     refine fm4 hk hF ?_ (hok1 hok).2 hts
     unfold wBye
     rw [ap hs0,bf (show p.text.size < 256 by omega),show pad4 (n6+p.text.size)=pad4 (1+p.text.size) by unfold pad4;omega]
     simp only [an]
    ·have hs0:p.text.size=0:=by simpa using h0
     exact ⟨r,_,_,ok2,by rw [fl32],H,⟨by omega,by omega⟩,by rw [fl32];omega,fun h=>fm4 hk hF (by unfold wBye;rw [aG hs0,aE]) (hok1 hok).2 (hok2 h)⟩

   ·refine sSt1 H (by rfl) (by kernel_rfl) (by rfl) (by rfl) ?_;clear H;intro w _ H
    refine ⟨_,(H.b3.at0 rfl),?_⟩
    rw [noStr]
    refine ⟨fun h0=>?_,fun h0=>?_⟩
    ·have hs0:p.text.size≠0:=by simpa using h0
     refine ⟨r,?_⟩;replace H:=H.drew;generalize w.drew=w at H ⊢;obtain ⟨F2,ex2,S,back1,back2,hm⟩:=H.regO
     refine ⟨(H.ne (mt (mt (mt ms))) ms),H.b3.row,_,(H.b3.at0 rfl),?_⟩
     refine ⟨(H.ne (mt (mt (mt ms))) ms),H.b3.row,_,(H.b3.at0 rfl),?_⟩
     clear H;have H:=S;clear S
     refine ⟨rfl,?_⟩
     refine sNew H ?_;clear H;intro b6 w _ H
     refine ⟨(back2 H).1,?_⟩
     rw [w1] at H
     refine sApp1 H (bytes:=1) (by kernel_rfl) [.int .u8 ((p.text.size % 256:Nat):Int)] (ob [((p.text.size % 256:Nat):Int)]) (by rfl) (fun j u hu=>by rw [add_flat,aK];exact H.b0.cell hu) (fun G h=>DeepL.ones [_]) (by simp [Value.oneCell']) (by unfold maxLen;omega) (by omega) ?_
     clear H;intro a6 n6 k6 r6 w hn6 _ H
     refine ⟨(back2 H).1,?_⟩
     rw [<-ob_append] at H
     replace H:=H.r1
     refine sAppS H p.text (by omega) (by omega) ?_
     clear H;intro a7' k7 r7 w H
     replace H:=(back2 H).2;clear back1 back2 hm
     refine call_j (c114 H (by omega)) ?_
     clear H;rintro _ w ⟨a8',k8,r8,rfl,H⟩
     refine ⟨_,_,_,rfl,?_⟩
     have hl:n6+p.text.size+pad4 (n6+p.text.size)=(p.sources.flatMap b32++[((p.text.size % 256:Nat):Int)]++sbs p.text++List.replicate (pad4 (n6+p.text.size)) 0).length:=by
      rw [ae,ae,ae,fl32,sbs_len,bi];simp only [aA,ay];omega
     have hp3:pad4 (n6+p.text.size)<=3:=by unfold pad4;omega
     refine ⟨r8,_,_,false,hl,H.dr,⟨by omega,by omega⟩,by rw [<-hl];omega,(fun h=>(by cases h))⟩
    ·have hs0:p.text.size=0:=by simpa using h0
     exact ⟨r,_,_,false,by rw [fl32],H,⟨by omega,by omega⟩,by rw [fl32];omega,(fun h=>(by cases h))⟩
  ·
   replace H:=H.d1
   refine ⟨_,(H.b2.at0 rfl),?_⟩
   rw [hk]
   refine ⟨fun b _ w=>b=false/\Sat F w (.blk b5 4 [.bool true]::.blk b3 42 [.bool false,.int .u8 (cntK p.kind),.int .u8 (typK p.kind),.int .u16 0]::.blk b1 63 (pkC p a7 a8 a9 a10 a13 a14 a15 a16 a18 a24 a25 c7 c8 c9 c10 c13 c14 c15 c16 c18 c24 c25)::ex) R,⟨fun hc=>⟨(absurd hc (by decide)),H⟩,fun hc=>⟨(by decide),H⟩⟩,?_⟩
   clear H;rintro ddj bj w ⟨rfl,H⟩
   refine fF ?_
   refine fF ?_
   refine fF ?_
   refine fT ?_
   have hsz:=hF.sz (by omega)
   unfold Pk.size at hsz
   have hsub:=hF.sub
   refine ⟨_,(H.b2.at0 rfl),?_⟩
   rw [show i64.wrap p.sub=((p.sub.toNat:Nat):Int) by rw [wi64_of (by omega) (by omega)];omega]
   refine call_j (c111 H (by omega)) ?_
   clear H;rintro _ w ⟨rfl,ok1,H,hok1⟩
   refine ⟨rfl,?_⟩
   refine ⟨none,?_⟩;replace H:=H.drew;generalize w.drew=w at H ⊢;obtain ⟨F2,ex2,S,back1,back2,hm⟩:=H.regN
   refine ⟨nn,H.b2.row,_,(H.b2.at0 rfl),?_⟩
   refine ⟨nn,H.b2.row,_,(H.b2.at0 rfl),?_⟩
   refine ⟨nn,H.b2.row,_,_,_,(H.b2.at0 rfl),?_⟩
   refine ⟨nn,H.b0.row,_,(by exact Ce (by rfl) H.b0 rfl),?_⟩
   clear H;have H:=S;clear S
   refine call_j (c112 (B:=[]) (H.nilOwn 5 1) hF.s (by omega)) ?_
   clear H;rintro _ w ⟨a4,k4,r4,rfl,H⟩
   refine ⟨_,_,_,rfl,(back1 H).1,?_⟩
   rw [bI] at H
   refine sAppS H p.text (by omega) (by omega) ?_
   clear H;intro a5 k5 r5 w H
   refine ⟨(back1 H).1,?_⟩
   refine sAppV H m13 (by omega) ?_
   clear H;intro a6 n6 k6 r6 w hn6 _ H
   refine ⟨(back1 H).1,?_⟩
   replace H:=(back1 H).2;clear back1 back2 hm
   have hl:n6=(b32 p.sender++sbs p.text++p.data).length:=by rw [ae,ae,b32_len,sbs_len];omega
   have hl2:(b32 p.sender++sbs p.text++p.data).length<=24*p.size+40:=by omega
   refine ⟨fun hok=>?_,fun hok=>?_⟩
   ·refine ⟨_,(H.b3.at0 rfl),?_⟩
    refine ⟨fun ht=>?_,fun ht=>?_⟩
    ·have ht:((p.text.size:Nat):Int)=4:=by simpa using ht
     refine ⟨_,_,_,(H.b3.at0 rfl),?_⟩
     refine ⟨by decide,?_⟩
     refine ⟨fun hd=>?_,fun hd=>?_⟩
     ·refine ⟨_,_,_,(H.b3.at0 rfl),?_⟩
      refine sSt1 H (by rfl) (by kernel_rfl) (by rfl) (by rfl) ?_;clear H;intro w _ H
      exact ⟨r6,_,_,_,hl,H,⟨by omega,by omega⟩,hl2,fun h=>fm5 hk hF rfl (hok1 hok).2 (by omega) (tmod4 hd) (by rw [ah] at h;omega)⟩
     ·refine sSt1 H (by rfl) (by kernel_rfl) (by rfl) (by rfl) ?_;clear H;intro w _ H
      exact ⟨r6,_,_,false,hl,H,⟨by omega,by omega⟩,hl2,(fun h=>(by cases h))⟩
    ·refine sSt1 H (by rfl) (by kernel_rfl) (by rfl) (by rfl) ?_;clear H;intro w _ H
     exact ⟨r6,_,_,false,hl,H,⟨by omega,by omega⟩,hl2,(fun h=>(by cases h))⟩
   ·refine sSt1 H (by rfl) (by kernel_rfl) (by rfl) (by rfl) ?_;clear H;intro w _ H
    exact ⟨r6,_,_,false,hl,H,⟨by omega,by omega⟩,hl2,(fun h=>(by cases h))⟩
  ·
   refine ⟨_,(H.b3.at0 rfl),?_⟩
   rw [hk]
   refine ⟨fun b _ w=>b=false/\Sat F w (.own 5 1 ab (0+4+4) kt rt (ob (b32 p.sender++b32 p.media))::.blk b5 4 [.bool true]::.blk b3 42 [.bool false,.int .u8 (cntK p.kind),.int .u8 (typK p.kind),.int .u16 0]::.blk b1 63 (pkC p a7 a8 a9 a10 a13 a14 a15 a16 a18 a24 a25 c7 c8 c9 c10 c13 c14 c15 c16 c18 c24 c25)::ex) R,⟨fun hc=>⟨(absurd hc (by decide)),H⟩,fun hc=>⟨(by decide),H⟩⟩,?_⟩
   clear H;rintro ddj bj w ⟨rfl,H⟩
   refine fF ?_
   refine fF ?_
   refine fF ?_
   refine fF ?_
   refine fT ?_
   rw [show cntK p.kind=1 by rw [hk];rfl] at H
   have hsz:=hF.sz (by omega)
   unfold Pk.size at hsz
   refine ⟨fun b bl bc _ w=>∃(r:Option Nat) (ok:Bool),bl=8/\(ok=true->0 < p.pairs.length/\p.pairs.length<=253)/\Sat F w (.own 5 1 b bl bc r (ob (b32 p.sender++b32 p.media))::.blk b5 4 [.bool ok]::.blk b3 42 [.bool false,.int .u8 1,.int .u8 (typK p.kind),.int .u16 0]::.blk b1 63 (pkC p a7 a8 a9 a10 a13 a14 a15 a16 a18 a24 a25 c7 c8 c9 c10 c13 c14 c15 c16 c18 c24 c25)::ex) R,?_,?_⟩
   ·replace H:=H.drew;generalize w.drew=w at H ⊢
    refine ⟨_,_,_,(H.b3.at0 rfl),?_⟩
    refine ⟨fun hc=>?_,fun hc=>?_⟩
    ·rw [ah] at hc
     refine ⟨_,_,_,(H.b3.at0 rfl),?_⟩
     refine sSt1 H (by rfl) (by kernel_rfl) (by rfl) (by rfl) ?_;clear H;intro w _ H
     exact ⟨rt,_,rfl,fun h=>by rw [ah] at h;omega,H⟩
    ·refine sSt1 H (by rfl) (by kernel_rfl) (by rfl) (by rfl) ?_;clear H;intro w _ H
     exact ⟨rt,false,rfl,(fun h=>(by cases h)),H⟩
   clear H;rintro dd2 b bl bc w ⟨r,ok1,rfl,hok1,H⟩
   refine ⟨_,_,_,(H.b3.at0 rfl),?_⟩
   refine ⟨fun b bl bc x q w=>∃(j:Nat) (r:Option Nat),x=(j:Int)/\j+q=p.pairs.length/\bl=8+4*j/\Sat F w (.own 5 1 b bl bc r (ob (b32 p.sender++b32 p.media++(p.pairs.take j).flatMap wPar))::.blk b5 4 [.bool ok1]::.blk b3 42 [.bool false,.int .u8 1,.int .u8 (typK p.kind),.int .u16 0]::.blk b1 63 (pkC p a7 a8 a9 a10 a13 a14 a15 a16 a18 a24 a25 c7 c8 c9 c10 c13 c14 c15 c16 c18 c24 c25)::ex) R,⟨p.pairs.length,0,r,rfl,by omega,rfl,by rw [aP,aD,aE];exact H⟩,?_⟩
   clear H;rintro dd3 b bl bc x q w ⟨j,r,rfl,hjq,rfl,H⟩
   refine ⟨fun hc=>?_,fun hc=>?_⟩
   ·rw [ah] at hc
    have hjl:j < p.pairs.length:=by omega
    obtain ⟨pp,us,e,hus,hcell,H1⟩:=H.eltF Par.dat_lenK (by decide) m14 (j:=j) hjl
    have htk:p.pairs.take (j+1)=p.pairs.take j++[p.pairs[j]]:=by rw [am,ai hjl];rfl
    have hRj:=hF.prs p.pairs[j] (ax hjl)
    clear H
    generalize p.pairs[j]=D at H1 htk hRj
    obtain ⟨e0,e1⟩:=D
    refine ⟨pp,e,by omega,by omega,?_⟩
    obtain rfl:=H1.ones (us:=[.int .u16 e0,.int .u16 e1]) ms
    refine ⟨_,_,LdC [.int .u16 e0,.int .u16 e1] (by kernel_rfl) (by rw [show (j:Int).toNat*2=j*2 by omega];exact hcell),?_⟩
    have H:=H1.sub (ak _) (fun r h=>mt h)
    clear H1 hcell
    refine sNew H ?_;clear H;intro b4 w _ H
    refine sSw0 H rfl (by kernel_rfl) (by rfl) (by rfl) ?_;clear H;intro w _ H
    replace H:=H.r1
    refine ⟨r,?_⟩;replace H:=H.drew;generalize w.drew=w at H ⊢;obtain ⟨F2,ex2,S,back1,back2,hm⟩:=H.regO
    refine ⟨(H.ne (mt ms) ms),H.b1.row,_,(H.b1.at0 rfl),?_⟩
    refine ⟨(H.ne (mt ms) ms),H.b1.row,_,(H.b1.at0 rfl),?_⟩
    clear H;have H:=S;clear S
    refine call_j (c49 H hRj.1 (by omega)) ?_
    clear H;rintro _ w ⟨a5,k5,r5,rfl,H⟩
    refine ⟨_,_,_,rfl,(back1 H).1,?_⟩
    refine call_j (c49 H hRj.2 (by omega)) ?_
    clear H;rintro _ w ⟨a6,k6,r6,rfl,H⟩
    refine ⟨_,_,_,rfl,?_⟩
    replace H:=(back1 H).2;clear back1 back2 hm
    refine ⟨q - 1,by omega,j+1,r6,by rw [wi64_of (by omega) (by omega)];simp,by omega,by omega,?_⟩
    rw [htk,aj]
    simp only [fm1,fm2,fm3]
    rw [an,an] at H
    exact H.dr
   rw [af] at hc
   obtain rfl:j=p.pairs.length:=by omega
   rw [ao] at H
   exact ⟨r,_,1,ok1,by rw [ae,flat_bd wPar_len];rfl,H,⟨by decide,by decide⟩,by rw [ae,flat_bd wPar_len];show 8+_<=_;omega,fun h=>fm6 hk hF rfl (hok1 h).1 (hok1 h).2⟩
  ·
   refine ⟨_,(H.b3.at0 rfl),?_⟩
   rw [hk]
   refine ⟨fun b _ w=>b=false/\Sat F w (.own 5 1 ab (0+4+4) kt rt (ob (b32 p.sender++b32 p.media))::.blk b5 4 [.bool true]::.blk b3 42 [.bool false,.int .u8 (cntK p.kind),.int .u8 (typK p.kind),.int .u16 0]::.blk b1 63 (pkC p a7 a8 a9 a10 a13 a14 a15 a16 a18 a24 a25 c7 c8 c9 c10 c13 c14 c15 c16 c18 c24 c25)::ex) R,⟨fun hc=>⟨(absurd hc (by decide)),H⟩,fun hc=>⟨(by decide),H⟩⟩,?_⟩
   clear H;rintro ddj bj w ⟨rfl,H⟩
   refine fF ?_
   refine fF ?_
   refine fF ?_
   refine fF ?_
   refine fF ?_
   refine ⟨fun b _ w=>b=true/\Sat F w (.own 5 1 ab (0+4+4) kt rt (ob (b32 p.sender++b32 p.media))::.blk b5 4 [.bool true]::.blk b3 42 [.bool false,.int .u8 (cntK p.kind),.int .u8 (typK p.kind),.int .u16 0]::.blk b1 63 (pkC p a7 a8 a9 a10 a13 a14 a15 a16 a18 a24 a25 c7 c8 c9 c10 c13 c14 c15 c16 c18 c24 c25)::ex) R,⟨fun hc=>⟨(by decide),H⟩,fun hc=>⟨(absurd hc (by decide)),H⟩⟩,?_⟩
   clear H;rintro ddj bj w ⟨rfl,H⟩
   refine fT ?_
   rw [show cntK p.kind=5 by rw [hk];rfl] at H
   exact ⟨rt,b32 p.sender++b32 p.media,5,true,rfl,H,⟨by decide,by decide⟩,by show 8<=24*p.size+40;omega,fun _=>fm7 hk hF rfl⟩
  ·
   replace H:=H.d1
   refine ⟨_,(H.b2.at0 rfl),?_⟩
   rw [hk]
   refine ⟨fun b _ w=>b=false/\Sat F w (.blk b5 4 [.bool true]::.blk b3 42 [.bool false,.int .u8 (cntK p.kind),.int .u8 (typK p.kind),.int .u16 0]::.blk b1 63 (pkC p a7 a8 a9 a10 a13 a14 a15 a16 a18 a24 a25 c7 c8 c9 c10 c13 c14 c15 c16 c18 c24 c25)::ex) R,⟨fun hc=>⟨(absurd hc (by decide)),H⟩,fun hc=>⟨(by decide),H⟩⟩,?_⟩
   clear H;rintro ddj bj w ⟨rfl,H⟩
   refine fF ?_
   refine fF ?_
   refine fF ?_
   refine fF ?_
   refine fF ?_
   refine ⟨fun b _ w=>b=false/\Sat F w (.blk b5 4 [.bool true]::.blk b3 42 [.bool false,.int .u8 (cntK p.kind),.int .u8 (typK p.kind),.int .u16 0]::.blk b1 63 (pkC p a7 a8 a9 a10 a13 a14 a15 a16 a18 a24 a25 c7 c8 c9 c10 c13 c14 c15 c16 c18 c24 c25)::ex) R,⟨fun hc=>⟨(absurd hc (by decide)),H⟩,fun hc=>⟨(by decide),H⟩⟩,?_⟩
   clear H;rintro ddj bj w ⟨rfl,H⟩
   refine fF ?_
   refine fF ?_
   refine fF ?_
   refine fF ?_
   refine fT ?_
   rw [show cntK p.kind=11 by rw [hk];rfl] at H
   have hsz:=hF.sz (by omega)
   unfold Pk.size at hsz
   have hcl:=bsz_len p.blocks
   have hcm:=bsz_mem p.blocks
   have hbl:=wBlo_le p.blocks
   refine ⟨none,?_⟩;replace H:=H.drew;generalize w.drew=w at H ⊢;obtain ⟨F2,ex2,S,back1,back2,hm⟩:=H.regN
   refine ⟨nn,H.b2.row,_,(H.b2.at0 rfl),?_⟩
   refine ⟨nn,H.b2.row,_,_,_,(H.b2.at0 rfl),?_⟩
   clear H;have H:=S;clear S
   refine call_j (c112 (B:=[]) (H.nilOwn 5 1) hF.s (by omega)) ?_
   clear H;rintro _ w ⟨a3,k3,r3,rfl,H⟩
   refine ⟨_,_,_,rfl,(back1 H).1,?_⟩
   replace H:=(back1 H).2;clear back1 back2 hm
   rw [bI] at H
   refine sSt1 H (by rfl) (by kernel_rfl) (by rfl) (by rfl) ?_;clear H;intro w _ H
   have hg:decide (((p.blocks.length:Nat):Int) > (0:Int))=true->p.blocks≠[]:=fun h e=>by rw [e] at h;exact absurd h (by decide)
   generalize decide (((p.blocks.length:Nat):Int) > (0:Int))=ok0 at H hg
   refine ⟨_,_,_,(H.b3.at0 rfl),?_⟩
   refine ⟨fun b bl bc x q w=>∃(j:Nat) (r:Option Nat) (ok:Bool) (B:List Int),x=(j:Int)/\j+q=p.blocks.length/\bl=B.length/\B.length=4+((p.blocks.take j).flatMap wBlo).length/\(ok=true->(ok0=true/\B=b32 p.sender++(p.blocks.take j).flatMap wBlo)/\∀y∈p.blocks.take j,y.2.2.length<=16384/\∀m∈y.2.2,m.2.1 < 4/\m.2.2 < 8192/\MetF m)/\Sat F w (.own 5 1 b bl bc r (ob (B))::.blk b5 4 [.bool ok]::.blk b3 42 [.bool false,.int .u8 11,.int .u8 (typK p.kind),.int .u16 0]::.blk b1 63 (pkC p a7 a8 a9 a10 a13 a14 a15 a16 a18 a24 a25 c7 c8 c9 c10 c13 c14 c15 c16 c18 c24 c25)::ex) R,⟨p.blocks.length,0,r3,ok0,b32 p.sender,rfl,by omega,rfl,by rw [aP,aD];rfl,fun h=>⟨⟨h,by simp⟩,by simp⟩,H⟩,?_⟩
   clear H;rintro dd3 b bl bc x q w ⟨j,r,ok,B,rfl,hjq,rfl,hBl,hok,H⟩
   refine ⟨fun hc=>?_,fun hc=>?_⟩
   ·rw [ah] at hc
    have hjl:j < p.blocks.length:=by omega
    obtain ⟨pp,us,e,hus,hcell,H1⟩:=H.eltF Blo.dat_len' (by decide) m18 (j:=j) hjl
    have htk:p.blocks.take (j+1)=p.blocks.take j++[p.blocks[j]]:=by rw [am,ai hjl];rfl
    have hRj:=hF.bls p.blocks[j] (ax hjl)
    have hDm:=hcm p.blocks[j] (ax hjl)
    have hpre:=pre_le wBlo hjl
    rw [wBlo_len] at hpre
    clear H
    generalize p.blocks[j]=D at H1 htk hRj hDm hpre
    obtain ⟨d0,d1,msz⟩:=D
    replace hDm:msz.length<=bsz p.blocks:=hDm
    replace hpre:((p.blocks.take j).flatMap wBlo).length+bLen msz.length<=(p.blocks.flatMap wBlo).length:=hpre
    have hbL:bLen msz.length=8+2*(msz.length+msz.length % 2):=rfl
    obtain ⟨h0,h1,hms⟩:u32R d0/\(0<=d1/\d1 < 65536)/\∀m∈msz,(0<=m.2.1/\m.2.1 < 256)/\0<=m.2.2/\m.2.2 < 65536:=hRj
    refine ⟨pp,e,by omega,by omega,?_⟩
    obtain ⟨x0,us0,rfl,H2⟩:=H1.uncons ms
    obtain ⟨x1,us1,rfl,H3⟩:=H2.uncons (mt ms)
    obtain ⟨x2,us2,rfl,H4⟩:=H3.uncons (mt ms)
    obtain rfl:us2=[]:=by simpa using hus
    obtain rfl:=H2.one1 ms
    obtain rfl:=H3.one1 ms
    obtain ⟨sa,sn,sc,rfl,hsl⟩:=H4.rowS ms
    rw [flat_len Met.dat_len'] at hsl
    obtain rfl:sn=msz.length:=by omega
    refine ⟨_,_,_,_,_,LdC [.int .u32 d0,.int .u16 d1,.slice sa msz.length sc] (by kernel_rfl) (by rw [show (j:Int).toNat*3=j*3 by omega];exact hcell),?_⟩
    have H:Sat F w _ (.deep [.row 3 (msz.flatMap Met.dat)] [.slice sa msz.length sc]::R):=H4.sub (ak _) (fun r h=>by rcases aI.1 h with rfl | h;exact ms;simp [h])
    clear H1 H2 H3 H4 hcell
    refine sNew H ?_;clear H;intro b4 w _ H
    refine sSw0 H rfl (by kernel_rfl) (by rfl) (by rfl) ?_;clear H;intro w _ H
    refine ⟨fun _ w=>∃ok2:Bool,(ok2=true->ok=true/\msz.length<=16384)/\Sat F w (.blk b4 158 [.int .u32 d0,.int .u16 d1,.slice sa msz.length sc]::.own 5 1 b B.length bc r (ob (B))::.blk b5 4 [.bool ok2]::.blk b3 42 [.bool false,.int .u8 11,.int .u8 (typK p.kind),.int .u16 0]::.blk b1 63 (pkC p a7 a8 a9 a10 a13 a14 a15 a16 a18 a24 a25 c7 c8 c9 c10 c13 c14 c15 c16 c18 c24 c25)::ex) (.deep [.row 3 (msz.flatMap Met.dat)] [.slice sa msz.length sc]::R),?_,?_⟩
    ·refine ⟨_,(by exact Ce (by rfl) H.b2 rfl),?_⟩
     refine ⟨fun h2=>?_,fun h2=>?_⟩
     ·refine ⟨_,_,_,(H.b0.at0 rfl),?_⟩
      refine sSt2 H (by rfl) (by kernel_rfl) (by rfl) (by rfl) ?_;clear H;intro w _ H
      exact ⟨decide (((msz.length:Nat):Int)<=(16384:Int)),fun h=>⟨h2,by rw [ah] at h;omega⟩,H⟩
     ·refine sSt2 H (by rfl) (by kernel_rfl) (by rfl) (by rfl) ?_;clear H;intro w _ H
      exact ⟨false,(fun h=>(by cases h)),H⟩
    clear H;rintro dd4 w ⟨ok2,hok2,H⟩
    have w1:u16.wrap ((msz.length:Nat):Int)=((msz.length % 65536:Nat):Int):=by rw [wu16];omega
    replace H:=H.r1
    refine ⟨r,?_⟩;replace H:=H.drew;generalize w.drew=w at H ⊢;obtain ⟨F2,ex2,S,back1,back2,hm⟩:=H.regO
    refine ⟨(H.ne (mt ms) ms),H.b1.row,_,(H.b1.at0 rfl),?_⟩
    refine ⟨(H.ne (mt ms) ms),H.b1.row,_,(H.b1.at0 rfl),?_⟩
    refine ⟨(H.ne (mt ms) ms),H.b1.row,_,_,_,(H.b1.at0 rfl),?_⟩
    clear H;have H:=S;clear S
    rw [w1]
    refine call_j (c112 H h0 (by omega)) ?_
    clear H;rintro _ w ⟨a4,k4,r4,rfl,H⟩
    refine ⟨_,_,_,rfl,(back1 H).1,?_⟩
    refine call_j (c49 H h1 (by omega)) ?_
    clear H;rintro _ w ⟨a5,k5,r5,rfl,H⟩
    refine ⟨_,_,_,rfl,(back1 H).1,?_⟩
    refine call_j (c49 H (by omega) (by omega)) ?_
    clear H;rintro _ w ⟨a6,k6,r6,rfl,H⟩
    refine ⟨_,_,_,rfl,?_⟩
    replace H:=(back1 H).2;clear back1 back2 hm
    obtain ⟨B0,hB0⟩:∃B0,B0=B++b32 d0++b16 d1++b16 ((msz.length % 65536:Nat):Int):=⟨_,rfl⟩
    rw [<-hB0] at H
    have hB0l:B0.length=B.length+8:=by rw [hB0];simp only [ae,b32_len,b16_len]
    refine ⟨_,_,_,(H.b1.at0 rfl),?_⟩
    refine ⟨fun b' bl' bc' x' q' w=>∃(i:Nat) (r':Option Nat) (ok3:Bool) (X:List Int),x'=(i:Int)/\i+q'=msz.length/\bl'=(B0++X).length/\X.length=2*i/\(ok3=true->ok2=true/\X=(msz.take i).flatMap wMet/\∀m∈msz.take i,m.2.1 < 4/\m.2.2 < 8192/\MetF m)/\Sat F w (.own 5 1 b' bl' bc' r' (ob (B0++X))::.blk b4 158 [.int .u32 d0,.int .u16 d1,.slice sa msz.length sc]::.blk b5 4 [.bool ok3]::.blk b3 42 [.bool false,.int .u8 11,.int .u8 (typK p.kind),.int .u16 0]::.blk b1 63 (pkC p a7 a8 a9 a10 a13 a14 a15 a16 a18 a24 a25 c7 c8 c9 c10 c13 c14 c15 c16 c18 c24 c25)::ex) (.deep [.row 3 (msz.flatMap Met.dat)] [.slice sa msz.length sc]::R),⟨msz.length,0,r6,ok2,[],rfl,by omega,by rw [aE,hB0l],rfl,fun h=>⟨h,by simp,by simp⟩,by rw [aE];exact H⟩,?_⟩
    clear H;rintro dd5 b' bl' bc' x' q' w ⟨i,r',ok3,X,rfl,hiq,hbl',hXl,hok3,H⟩
    have hbl2:bl'=B0.length+X.length:=by rw [hbl',ae]
    refine ⟨fun hc2=>?_,fun hc2=>?_⟩
    ·rw [ah] at hc2
     have hil:i < msz.length:=by omega
     obtain ⟨p2,us,e2',hus2,hcell,H1⟩:=H.eltF Met.dat_len' (by decide) ms (j:=i) hil
     have htk2:msz.take (i+1)=msz.take i++[msz[i]]:=by rw [am,ai hil];rfl
     have hEj:=hms msz[i] (ax hil)
     clear H
     generalize msz[i]=E at H1 htk2 hEj
     obtain ⟨e0,e1,e2⟩:=E
     refine ⟨p2,e2',by omega,by omega,?_⟩
     obtain rfl:=H1.ones (us:=[.bool e0,.int .u8 e1,.int .u16 e2]) ms
     refine ⟨_,_,_,LdC [.bool e0,.int .u8 e1,.int .u16 e2] (by kernel_rfl) (by rw [show (i:Int).toNat*3=i*3 by omega];exact hcell),?_⟩
     have H:=H1.sub (ak _) (fun r h=>mt h)
     clear H1 hcell
     refine sNew H ?_;clear H;intro b7 w _ H
     refine sSw0 H rfl (by kernel_rfl) (by rfl) (by rfl) ?_;clear H;intro w _ H
     refine ⟨fun _ w=>∃ok4:Bool,(ok4=true->ok3=true/\e1 < 4/\e2 < 8192/\MetF (e0,e1,e2))/\Sat F w (.blk b7 160 [.bool e0,.int .u8 e1,.int .u16 e2]::.own 5 1 b' bl' bc' r' (ob (B0++X))::.blk b4 158 [.int .u32 d0,.int .u16 d1,.slice sa msz.length sc]::.blk b5 4 [.bool ok4]::.blk b3 42 [.bool false,.int .u8 11,.int .u8 (typK p.kind),.int .u16 0]::.blk b1 63 (pkC p a7 a8 a9 a10 a13 a14 a15 a16 a18 a24 a25 c7 c8 c9 c10 c13 c14 c15 c16 c18 c24 c25)::ex) (.deep [.row 3 (msz.flatMap Met.dat)] [.slice sa msz.length sc]::R),?_,?_⟩
     ·refine ⟨_,(by exact Ce (by rfl) H.b3 rfl),?_⟩
      refine ⟨fun h2=>?_,fun h2=>?_⟩
      ·refine ⟨_,(H.b0.at0 rfl),?_⟩
       refine ⟨fun h3=>?_,fun h3=>?_⟩
       ·refine ⟨_,(H.b0.at0 rfl),?_⟩
        refine ⟨fun h4=>?_,fun h4=>?_⟩
        ·rw [ah] at h3 h4
         refine ⟨_,(H.b0.at0 rfl),?_⟩
         refine ⟨fun h5=>?_,fun h5=>?_⟩
         ·refine sSt3 H (by rfl) (by kernel_rfl) (by rfl) (by rfl) ?_;clear H;intro w _ H
          exact ⟨true,fun _=>⟨h2,h3,h4,Or.inl h5⟩,H⟩
         ·refine ⟨_,(H.b0.at0 rfl),?_⟩
          refine ⟨fun h6=>?_,fun h6=>?_⟩
          ·refine ⟨_,(H.b0.at0 rfl),?_⟩
           refine sSt3 H (by rfl) (by kernel_rfl) (by rfl) (by rfl) ?_;clear H;intro w _ H
           exact ⟨e2 == (0:Int),fun h=>⟨h2,h3,h4,Or.inr ⟨by simpa using h6,by simpa using h⟩⟩,H⟩
          ·refine sSt3 H (by rfl) (by kernel_rfl) (by rfl) (by rfl) ?_;clear H;intro w _ H
           exact ⟨false,(fun h=>(by cases h)),H⟩
        ·refine sSt3 H (by rfl) (by kernel_rfl) (by rfl) (by rfl) ?_;clear H;intro w _ H
         exact ⟨false,(fun h=>(by cases h)),H⟩
       ·refine sSt3 H (by rfl) (by kernel_rfl) (by rfl) (by rfl) ?_;clear H;intro w _ H
        exact ⟨false,(fun h=>(by cases h)),H⟩
      ·refine sSt3 H (by rfl) (by kernel_rfl) (by rfl) (by rfl) ?_;clear H;intro w _ H
       exact ⟨false,(fun h=>(by cases h)),H⟩
     clear H;rintro dd6 w ⟨ok4,hok4,H⟩
     refine ⟨_,(H.b0.at0 rfl),?_⟩
     refine ⟨_,(H.b0.at0 rfl),?_⟩
     refine ⟨_,(H.b0.at0 rfl),?_⟩
     refine ⟨fun he=>?_,fun he=>?_⟩
     ·
      have ev:ok4=true->ior .u16 (ior .u16 (ishl .u16 (u16.wrap e1) (13:Int)) e2) (32768:Int)=metN (e0,e1,e2):=by
       intro h
       obtain ⟨_,h1,h2,_⟩:=hok4 h
       rw [he]
       exact met_t ⟨hEj.1.1,h1⟩ ⟨hEj.2.1,h2⟩
      have hvr:0<=ior .u16 (ior .u16 (ishl .u16 (u16.wrap e1) (13:Int)) e2) (32768:Int)/\ior .u16 (ior .u16 (ishl .u16 (u16.wrap e1) (13:Int)) e2) (32768:Int) < 65536:=ior_u16 _ _
      generalize ior .u16 (ior .u16 (ishl .u16 (u16.wrap e1) (13:Int)) e2) (32768:Int)=V at ev hvr ⊢
      replace H:=H.r1
      refine call_j (c49 H hvr (by omega)) ?_
      clear H;rintro _ w ⟨a6,k6,r6,rfl,H⟩
      refine ⟨_,_,_,rfl,?_⟩
      rw [an] at H
      refine ⟨q' - 1,by omega,i+1,r6,ok4,X++b16 V,by rw [wi64_of (by omega) (by omega)];simp,by omega,by rw [hbl',ae,ae,ae,b16_len];omega,by rw [ae,b16_len];omega,fun h=>?_,H.dr⟩
      obtain ⟨h0,h1⟩:=hok4 h
      obtain ⟨h2,h3,h4⟩:=hok3 h0
      refine ⟨h2,?_,?_⟩
      ·rw [h3,htk2,aj,ev h]
       simp only [fm1,fm2,fm3]
       rfl
      ·rw [htk2]
       intro y hy
       rcases aV.1 hy with hy | hy
       ·exact h4 y hy
       ·rw [aQ.1 hy];exact h1

     ·
      have ev:ok4=true->ior .u16 (ishl .u16 (u16.wrap e1) (13:Int)) e2=metN (e0,e1,e2):=by
       intro h
       obtain ⟨_,h1,h2,_⟩:=hok4 h
       rw [he]
       exact met_f ⟨hEj.1.1,h1⟩ ⟨hEj.2.1,h2⟩
      have hvr:0<=ior .u16 (ishl .u16 (u16.wrap e1) (13:Int)) e2/\ior .u16 (ishl .u16 (u16.wrap e1) (13:Int)) e2 < 65536:=ior_u16 _ _
      generalize ior .u16 (ishl .u16 (u16.wrap e1) (13:Int)) e2=V at ev hvr ⊢
      replace H:=H.r1
      refine call_j (c49 H hvr (by omega)) ?_
      clear H;rintro _ w ⟨a6,k6,r6,rfl,H⟩
      refine ⟨_,_,_,rfl,?_⟩
      rw [an] at H
      refine ⟨q' - 1,by omega,i+1,r6,ok4,X++b16 V,by rw [wi64_of (by omega) (by omega)];simp,by omega,by rw [hbl',ae,ae,ae,b16_len];omega,by rw [ae,b16_len];omega,fun h=>?_,H.dr⟩
      obtain ⟨h0,h1⟩:=hok4 h
      obtain ⟨h2,h3,h4⟩:=hok3 h0
      refine ⟨h2,?_,?_⟩
      ·rw [h3,htk2,aj,ev h]
       simp only [fm1,fm2,fm3]
       rfl
      ·rw [htk2]
       intro y hy
       rcases aV.1 hy with hy | hy
       ·exact h4 y hy
       ·rw [aQ.1 hy];exact h1

    rw [af] at hc2
    obtain rfl:i=msz.length:=by omega
    rw [ao] at hok3
    refine call_j (c114 H (by omega)) ?_
    clear H;rintro _ w ⟨a8,k8,r8,rfl,H⟩
    refine ⟨_,_,_,rfl,?_⟩
    have h4:=wBlo_4 (p.blocks.take j)
    have hpad:pad4 bl'=2*(msz.length % 2):=by unfold pad4;omega
    have hl:bl'+pad4 bl'=(B0++X++List.replicate (pad4 bl') 0).length:=by rw [ae,ae,bi];omega
    refine ⟨q - 1,by omega,j+1,r8,ok3,_,by rw [wi64_of (by omega) (by omega)];simp,by omega,hl,?_,fun h=>?_,H.dq (fun r h=>mt h)⟩
    ·rw [<-hl,htk,aj,ae]
     simp only [fm1,fm2,fm3]
     rw [wBlo_len]
     show _=4+(_+bLen msz.length)
     omega
    ·obtain ⟨h2,h3,h5⟩:=hok3 h
     obtain ⟨h6,h7⟩:=hok2 h2
     obtain ⟨⟨h00,h8⟩,h9⟩:=hok h6
     refine ⟨⟨h00,?_⟩,?_⟩
     ·rw [hpad,hB0,h8,h3,htk,aj,bf (show msz.length < 65536 by omega)]
      simp only [av,aD,aE,wBlo,an]
     ·rw [htk]
      intro y hy
      rcases aV.1 hy with hy | hy
      ·exact h9 y hy
      ·rw [aQ.1 hy];exact ⟨h7,h5⟩
   rw [af] at hc
   obtain rfl:j=p.blocks.length:=by omega
   rw [ao] at hBl hok
   refine ⟨_,(H.b3.at0 rfl),?_⟩
   refine call_j (c112 H hF.tim (by omega)) ?_
   clear H;rintro _ w ⟨a8,k8,r8,rfl,H⟩
   refine ⟨_,_,_,rfl,?_⟩
   exact ⟨r8,B++b32 p.time,11,ok,by rw [ae];rfl,H,⟨by decide,by decide⟩,by rw [ae,b32_len];omega,fun h=>fm8 hk hF (by rw [(hok h).1.2]) (hg (hok h).1.1) (hok h).2⟩
  ·
   refine ⟨_,(H.b3.at0 rfl),?_⟩
   rw [hk]
   refine ⟨fun b _ w=>b=false/\Sat F w (.own 5 1 ab (0+4+4) kt rt (ob (b32 p.sender++b32 p.media))::.blk b5 4 [.bool true]::.blk b3 42 [.bool false,.int .u8 (cntK p.kind),.int .u8 (typK p.kind),.int .u16 0]::.blk b1 63 (pkC p a7 a8 a9 a10 a13 a14 a15 a16 a18 a24 a25 c7 c8 c9 c10 c13 c14 c15 c16 c18 c24 c25)::ex) R,⟨fun hc=>⟨(absurd hc (by decide)),H⟩,fun hc=>⟨(by decide),H⟩⟩,?_⟩
   clear H;rintro ddj bj w ⟨rfl,H⟩
   refine fF ?_
   refine fF ?_
   refine fF ?_
   refine fF ?_
   refine fF ?_
   refine ⟨fun b _ w=>b=true/\Sat F w (.own 5 1 ab (0+4+4) kt rt (ob (b32 p.sender++b32 p.media))::.blk b5 4 [.bool true]::.blk b3 42 [.bool false,.int .u8 (cntK p.kind),.int .u8 (typK p.kind),.int .u16 0]::.blk b1 63 (pkC p a7 a8 a9 a10 a13 a14 a15 a16 a18 a24 a25 c7 c8 c9 c10 c13 c14 c15 c16 c18 c24 c25)::ex) R,⟨fun hc=>⟨(absurd hc (by decide)),H⟩,fun hc=>⟨(by decide),H⟩⟩,?_⟩
   clear H;rintro ddj bj w ⟨rfl,H⟩
   refine fT ?_
   rw [show cntK p.kind=1 by rw [hk];rfl] at H
   exact ⟨rt,b32 p.sender++b32 p.media,1,true,rfl,H,⟨by decide,by decide⟩,by show 8<=24*p.size+40;omega,fun _=>fm9 hk hF rfl⟩
  ·
   refine ⟨_,(H.b3.at0 rfl),?_⟩
   rw [hk]
   refine ⟨fun b _ w=>b=false/\Sat F w (.own 5 1 ab (0+4+4) kt rt (ob (b32 p.sender++b32 p.media))::.blk b5 4 [.bool true]::.blk b3 42 [.bool false,.int .u8 (cntK p.kind),.int .u8 (typK p.kind),.int .u16 0]::.blk b1 63 (pkC p a7 a8 a9 a10 a13 a14 a15 a16 a18 a24 a25 c7 c8 c9 c10 c13 c14 c15 c16 c18 c24 c25)::ex) R,⟨fun hc=>⟨(absurd hc (by decide)),H⟩,fun hc=>⟨(by decide),H⟩⟩,?_⟩
   clear H;rintro ddj bj w ⟨rfl,H⟩
   refine fF ?_
   refine fF ?_
   refine fF ?_
   refine fF ?_
   refine fF ?_
   refine ⟨fun b _ w=>b=false/\Sat F w (.own 5 1 ab (0+4+4) kt rt (ob (b32 p.sender++b32 p.media))::.blk b5 4 [.bool true]::.blk b3 42 [.bool false,.int .u8 (cntK p.kind),.int .u8 (typK p.kind),.int .u16 0]::.blk b1 63 (pkC p a7 a8 a9 a10 a13 a14 a15 a16 a18 a24 a25 c7 c8 c9 c10 c13 c14 c15 c16 c18 c24 c25)::ex) R,⟨fun hc=>⟨(absurd hc (by decide)),H⟩,fun hc=>⟨(by decide),H⟩⟩,?_⟩
   clear H;rintro ddj bj w ⟨rfl,H⟩
   refine fF ?_
   refine fT ?_
   rw [show cntK p.kind=2 by rw [hk];rfl] at H
   have hsz:=hF.sz (by omega)
   unfold Pk.size at hsz
   refine ⟨fun b bl bc _ w=>∃(r:Option Nat) (ok:Bool),bl=8/\(ok=true->0 < p.slices.length/\p.slices.length<=253)/\Sat F w (.own 5 1 b bl bc r (ob (b32 p.sender++b32 p.media))::.blk b5 4 [.bool ok]::.blk b3 42 [.bool false,.int .u8 2,.int .u8 (typK p.kind),.int .u16 0]::.blk b1 63 (pkC p a7 a8 a9 a10 a13 a14 a15 a16 a18 a24 a25 c7 c8 c9 c10 c13 c14 c15 c16 c18 c24 c25)::ex) R,?_,?_⟩
   ·replace H:=H.drew;generalize w.drew=w at H ⊢
    refine ⟨_,_,_,(H.b3.at0 rfl),?_⟩
    refine ⟨fun hc=>?_,fun hc=>?_⟩
    ·rw [ah] at hc
     refine ⟨_,_,_,(H.b3.at0 rfl),?_⟩
     refine sSt1 H (by rfl) (by kernel_rfl) (by rfl) (by rfl) ?_;clear H;intro w _ H
     exact ⟨rt,_,rfl,fun h=>by rw [ah] at h;omega,H⟩
    ·refine sSt1 H (by rfl) (by kernel_rfl) (by rfl) (by rfl) ?_;clear H;intro w _ H
     exact ⟨rt,false,rfl,(fun h=>(by cases h)),H⟩
   clear H;rintro dd2 b bl bc w ⟨r,ok1,rfl,hok1,H⟩
   refine ⟨_,_,_,(H.b3.at0 rfl),?_⟩
   refine ⟨fun b bl bc x q w=>∃(j:Nat) (r:Option Nat) (ok:Bool) (B:List Int),x=(j:Int)/\j+q=p.slices.length/\bl=B.length/\B.length=8+4*j/\(ok=true->ok1=true/\B=b32 p.sender++b32 p.media++(p.slices.take j).flatMap wSli/\∀x∈p.slices.take j,x.1 < 8192/\x.2.1 < 8192/\x.2.2 < 64)/\Sat F w (.own 5 1 b bl bc r (ob (B))::.blk b5 4 [.bool ok]::.blk b3 42 [.bool false,.int .u8 2,.int .u8 (typK p.kind),.int .u16 0]::.blk b1 63 (pkC p a7 a8 a9 a10 a13 a14 a15 a16 a18 a24 a25 c7 c8 c9 c10 c13 c14 c15 c16 c18 c24 c25)::ex) R,⟨p.slices.length,0,r,ok1,b32 p.sender++b32 p.media,rfl,by omega,rfl,rfl,fun h=>⟨h,by simp,by simp⟩,H⟩,?_⟩
   clear H;rintro dd3 b bl bc x q w ⟨j,r,ok,B,rfl,hjq,rfl,hBl,hok,H⟩
   refine ⟨fun hc=>?_,fun hc=>?_⟩
   ·rw [ah] at hc
    have hjl:j < p.slices.length:=by omega
    obtain ⟨pp,us,e,hus,hcell,H1⟩:=H.eltF Sli.dat_lenK (by decide) m15 (j:=j) hjl
    have htk:p.slices.take (j+1)=p.slices.take j++[p.slices[j]]:=by rw [am,ai hjl];rfl
    have hRj:=hF.sls p.slices[j] (ax hjl)
    clear H
    generalize p.slices[j]=D at H1 htk hRj
    obtain ⟨e0,e1,e2⟩:=D
    refine ⟨pp,e,by omega,by omega,?_⟩
    obtain rfl:=H1.ones (us:=[.int .u16 e0,.int .u16 e1,.int .u8 e2]) ms
    refine ⟨_,_,_,LdC [.int .u16 e0,.int .u16 e1,.int .u8 e2] (by kernel_rfl) (by rw [show (j:Int).toNat*3=j*3 by omega];exact hcell),?_⟩
    have H:=H1.sub (ak _) (fun r h=>mt h)
    clear H1 hcell
    refine sNew H ?_;clear H;intro b4 w _ H
    refine sSw0 H rfl (by kernel_rfl) (by rfl) (by rfl) ?_;clear H;intro w _ H
    refine ⟨fun _ w=>∃ok2:Bool,(ok2=true->ok=true/\e0 < 8192/\e1 < 8192/\e2 < 64)/\Sat F w (.blk b4 153 [.int .u16 e0,.int .u16 e1,.int .u8 e2]::.own 5 1 b B.length bc r (ob (B))::.blk b5 4 [.bool ok2]::.blk b3 42 [.bool false,.int .u8 2,.int .u8 (typK p.kind),.int .u16 0]::.blk b1 63 (pkC p a7 a8 a9 a10 a13 a14 a15 a16 a18 a24 a25 c7 c8 c9 c10 c13 c14 c15 c16 c18 c24 c25)::ex) R,?_,?_⟩
    ·refine ⟨_,(by exact Ce (by rfl) H.b2 rfl),?_⟩
     refine ⟨fun h1=>?_,fun h1=>?_⟩
     ·refine ⟨_,(H.b0.at0 rfl),?_⟩
      refine ⟨fun h2=>?_,fun h2=>?_⟩
      ·refine ⟨_,(H.b0.at0 rfl),?_⟩
       refine ⟨fun h3=>?_,fun h3=>?_⟩
       ·refine ⟨_,(H.b0.at0 rfl),?_⟩
        refine sSt2 H (by rfl) (by kernel_rfl) (by rfl) (by rfl) ?_;clear H;intro w _ H
        exact ⟨_,fun h=>⟨h1,by rw [ah] at h2;exact h2,by rw [ah] at h3;exact h3,by rw [ah] at h;exact h⟩,H⟩
       ·refine sSt2 H (by rfl) (by kernel_rfl) (by rfl) (by rfl) ?_;clear H;intro w _ H
        exact ⟨false,(fun h=>(by cases h)),H⟩
      ·refine sSt2 H (by rfl) (by kernel_rfl) (by rfl) (by rfl) ?_;clear H;intro w _ H
       exact ⟨false,(fun h=>(by cases h)),H⟩
     ·refine sSt2 H (by rfl) (by kernel_rfl) (by rfl) (by rfl) ?_;clear H;intro w _ H
      exact ⟨false,(fun h=>(by cases h)),H⟩
    clear H;rintro dd4 w ⟨ok2,hok2,H⟩
    refine ⟨_,(H.b0.at0 rfl),?_⟩
    refine ⟨_,(H.b0.at0 rfl),?_⟩
    refine ⟨_,(H.b0.at0 rfl),?_⟩
    have ev:ok2=true->ior .u32 (ior .u32 (ishl .u32 (u32.wrap e0) (19:Int)) (ishl .u32 (u32.wrap e1) (6:Int))) (u32.wrap e2)=e0*524288+e1*64+e2:=by
     intro h
     obtain ⟨_,h0,h1,h2⟩:=hok2 h
     exact sli_w ⟨hRj.1.1,h0⟩ ⟨hRj.2.1.1,h1⟩ ⟨hRj.2.2.1,h2⟩
    have hvr:=ior_u32 (ior .u32 (ishl .u32 (u32.wrap e0) (19:Int)) (ishl .u32 (u32.wrap e1) (6:Int))) (u32.wrap e2)
    generalize ior .u32 (ior .u32 (ishl .u32 (u32.wrap e0) (19:Int)) (ishl .u32 (u32.wrap e1) (6:Int))) (u32.wrap e2)=V at ev hvr ⊢
    replace H:=H.r1
    refine call_j (c112 H hvr (by omega)) ?_
    clear H;rintro _ w ⟨a6,k6,r6,rfl,H⟩
    refine ⟨_,_,_,rfl,?_⟩
    refine ⟨q - 1,by omega,j+1,r6,ok2,B++b32 V,by rw [wi64_of (by omega) (by omega)];simp,by omega,by rw [ae];rfl,by rw [ae,b32_len];omega,fun h=>?_,H.dr⟩
    obtain ⟨h0,h1⟩:=hok2 h
    obtain ⟨h2,h3,h4⟩:=hok h0
    refine ⟨h2,?_,?_⟩
    ·rw [h3,htk,aj,ev h,an]
     simp only [fm1,fm2,fm3]
     rfl
    ·rw [htk]
     intro y hy
     rcases aV.1 hy with hy | hy
     ·exact h4 y hy
     ·rw [aQ.1 hy];exact h1
   rw [af] at hc
   obtain rfl:j=p.slices.length:=by omega
   rw [ao] at hok
   exact ⟨r,B,2,ok,rfl,H,⟨by decide,by decide⟩,by omega,fun h=>fm10 hk hF (hok h).2.1 (hok1 (hok h).1).1 (hok1 (hok h).1).2 (hok h).2.2⟩
  ·
   refine ⟨_,(H.b3.at0 rfl),?_⟩
   rw [hk]
   refine ⟨fun b _ w=>b=false/\Sat F w (.own 5 1 ab (0+4+4) kt rt (ob (b32 p.sender++b32 p.media))::.blk b5 4 [.bool true]::.blk b3 42 [.bool false,.int .u8 (cntK p.kind),.int .u8 (typK p.kind),.int .u16 0]::.blk b1 63 (pkC p a7 a8 a9 a10 a13 a14 a15 a16 a18 a24 a25 c7 c8 c9 c10 c13 c14 c15 c16 c18 c24 c25)::ex) R,⟨fun hc=>⟨(absurd hc (by decide)),H⟩,fun hc=>⟨(by decide),H⟩⟩,?_⟩
   clear H;rintro ddj bj w ⟨rfl,H⟩
   refine fF ?_
   refine fF ?_
   refine fF ?_
   refine fF ?_
   refine fF ?_
   refine ⟨fun b _ w=>b=false/\Sat F w (.own 5 1 ab (0+4+4) kt rt (ob (b32 p.sender++b32 p.media))::.blk b5 4 [.bool true]::.blk b3 42 [.bool false,.int .u8 (cntK p.kind),.int .u8 (typK p.kind),.int .u16 0]::.blk b1 63 (pkC p a7 a8 a9 a10 a13 a14 a15 a16 a18 a24 a25 c7 c8 c9 c10 c13 c14 c15 c16 c18 c24 c25)::ex) R,⟨fun hc=>⟨(absurd hc (by decide)),H⟩,fun hc=>⟨(by decide),H⟩⟩,?_⟩
   clear H;rintro ddj bj w ⟨rfl,H⟩
   refine fF ?_
   refine fF ?_
   refine fT ?_
   rw [show cntK p.kind=4 by rw [hk];rfl] at H
   have hsz:=hF.sz (by omega)
   unfold Pk.size at hsz
   replace H:=H.drew;generalize w.drew=w at H ⊢
   refine ⟨_,_,_,(H.b3.at0 rfl),?_⟩
   refine sSt1 H (by rfl) (by kernel_rfl) (by rfl) (by rfl) ?_;clear H;intro w _ H
   have hg:decide (((p.entries.length:Nat):Int) > (0:Int))=true->0 < p.entries.length:=fun h=>by rw [ah] at h;omega
   generalize decide (((p.entries.length:Nat):Int) > (0:Int))=ok1 at H hg
   refine ⟨_,_,_,(H.b3.at0 rfl),?_⟩
   refine ⟨fun b bl bc x q w=>∃(j:Nat) (r:Option Nat),x=(j:Int)/\j+q=p.entries.length/\bl=8+8*j/\Sat F w (.own 5 1 b bl bc r (ob (b32 p.sender++b32 p.media++(p.entries.take j).flatMap wEnt))::.blk b5 4 [.bool ok1]::.blk b3 42 [.bool false,.int .u8 4,.int .u8 (typK p.kind),.int .u16 0]::.blk b1 63 (pkC p a7 a8 a9 a10 a13 a14 a15 a16 a18 a24 a25 c7 c8 c9 c10 c13 c14 c15 c16 c18 c24 c25)::ex) R,⟨p.entries.length,0,rt,rfl,by omega,rfl,by rw [aP,aD,aE];exact H⟩,?_⟩
   clear H;rintro dd3 b bl bc x q w ⟨j,r,rfl,hjq,rfl,H⟩
   refine ⟨fun hc=>?_,fun hc=>?_⟩
   ·rw [ah] at hc
    have hjl:j < p.entries.length:=by omega
    obtain ⟨pp,us,e,hus,hcell,H1⟩:=H.eltF Ent.dat_lenK (by decide) m16 (j:=j) hjl
    have htk:p.entries.take (j+1)=p.entries.take j++[p.entries[j]]:=by rw [am,ai hjl];rfl
    have hRj:=hF.ens p.entries[j] (ax hjl)
    clear H
    generalize p.entries[j]=D at H1 htk hRj
    obtain ⟨e0,e1⟩:=D
    refine ⟨pp,e,by omega,by omega,?_⟩
    obtain rfl:=H1.ones (us:=[.int .u32 e0,.int .u8 e1]) ms
    refine ⟨_,_,LdC [.int .u32 e0,.int .u8 e1] (by kernel_rfl) (by rw [show (j:Int).toNat*2=j*2 by omega];exact hcell),?_⟩
    have H:=H1.sub (ak _) (fun r h=>mt h)
    clear H1 hcell
    refine sNew H ?_;clear H;intro b4 w _ H
    refine sSw0 H rfl (by kernel_rfl) (by rfl) (by rfl) ?_;clear H;intro w _ H
    replace H:=H.r1
    refine ⟨r,?_⟩;replace H:=H.drew;generalize w.drew=w at H ⊢;obtain ⟨F2,ex2,S,back1,back2,hm⟩:=H.regO
    refine ⟨(H.ne (mt ms) ms),H.b1.row,_,(H.b1.at0 rfl),?_⟩
    refine ⟨(H.ne (mt ms) ms),H.b1.row,_,(H.b1.at0 rfl),?_⟩
    clear H;have H:=S;clear S
    refine ⟨?_,?_⟩
    ·refine call_j (c112 H hRj (by omega)) ?_
     clear H;rintro _ w ⟨a5,k5,r5,rfl,H⟩
     refine ⟨_,_,_,rfl,(back1 H).1,?_⟩
     refine sNew H ?_;clear H;intro b6 w _ H
     refine ⟨(back2 H).1,?_⟩
     refine sApp1 H (bytes:=1) (by kernel_rfl) [.int .u8 e1,.int .u8 0,.int .u8 0,.int .u8 0] (ob [e1,0,0,0]) (by rfl) (fun j u hu=>by rw [add_flat,aK];exact H.b0.cell hu) (fun G h=>DeepL.ones [_,_,_,_]) (by simp [Value.oneCell']) (by unfold maxLen;omega) (by omega) ?_
     clear H;intro a6 n6 k6 r6 w hn6 _ H
     replace H:=(back2 H).2;clear back1 back2 hm
     rw [<-ob_append] at H
     refine ⟨q - 1,by omega,j+1,r6,by rw [wi64_of (by omega) (by omega)];simp,by omega,by omega,?_⟩
     rw [htk,aj]
     simp only [fm1,fm2,fm3]
     have e:b32 p.sender++b32 p.media++(p.entries.take j).flatMap wEnt++b32 e0++[e1,0,0,0]=b32 p.sender++b32 p.media++((p.entries.take j).flatMap wEnt++wEnt (e0,e1)):=by simp only [an,wEnt]
     rw [e] at H
     exact H.dr

    ·refine sNew H ?_;clear H;intro b6 w _ H
     refine ⟨(back2 H).1,?_⟩
     replace H:=H.r1
     refine call_j (c112 H hRj (by omega)) ?_
     clear H;rintro _ w ⟨a5,k5,r5,rfl,H⟩
     refine ⟨_,_,_,rfl,(back2 H).1,?_⟩
     replace H:=H.u1
     refine sApp1 H (bytes:=1) (by kernel_rfl) [.int .u8 e1,.int .u8 0,.int .u8 0,.int .u8 0] (ob [e1,0,0,0]) (by rfl) (fun j u hu=>by rw [add_flat,aK];exact H.b0.cell hu) (fun G h=>DeepL.ones [_,_,_,_]) (by simp [Value.oneCell']) (by unfold maxLen;omega) (by omega) ?_
     clear H;intro a6 n6 k6 r6 w hn6 _ H
     replace H:=(back2 H).2;clear back1 back2 hm
     rw [<-ob_append] at H
     refine ⟨q - 1,by omega,j+1,r6,by rw [wi64_of (by omega) (by omega)];simp,by omega,by omega,?_⟩
     rw [htk,aj]
     simp only [fm1,fm2,fm3]
     have e:b32 p.sender++b32 p.media++(p.entries.take j).flatMap wEnt++b32 e0++[e1,0,0,0]=b32 p.sender++b32 p.media++((p.entries.take j).flatMap wEnt++wEnt (e0,e1)):=by simp only [an,wEnt]
     rw [e] at H
     exact H.dr

   rw [af] at hc
   obtain rfl:j=p.entries.length:=by omega
   rw [ao] at H
   exact ⟨r,_,4,ok1,by rw [ae,flat_bd wEnt_len];rfl,H,⟨by decide,by decide⟩,by rw [ae,flat_bd wEnt_len];show 8+_<=_;omega,fun h=>fm11 hk hF (hg h) rfl⟩
  ·
   replace H:=H.d1
   refine ⟨_,(H.b2.at0 rfl),?_⟩
   rw [hk]
   refine ⟨fun b _ w=>b=false/\Sat F w (.blk b5 4 [.bool true]::.blk b3 42 [.bool false,.int .u8 (cntK p.kind),.int .u8 (typK p.kind),.int .u16 0]::.blk b1 63 (pkC p a7 a8 a9 a10 a13 a14 a15 a16 a18 a24 a25 c7 c8 c9 c10 c13 c14 c15 c16 c18 c24 c25)::ex) R,⟨fun hc=>⟨(absurd hc (by decide)),H⟩,fun hc=>⟨(by decide),H⟩⟩,?_⟩
   clear H;rintro ddj bj w ⟨rfl,H⟩
   refine fF ?_
   refine fF ?_
   refine fF ?_
   refine fF ?_
   refine fF ?_
   refine ⟨fun b _ w=>b=false/\Sat F w (.blk b5 4 [.bool true]::.blk b3 42 [.bool false,.int .u8 (cntK p.kind),.int .u8 (typK p.kind),.int .u16 0]::.blk b1 63 (pkC p a7 a8 a9 a10 a13 a14 a15 a16 a18 a24 a25 c7 c8 c9 c10 c13 c14 c15 c16 c18 c24 c25)::ex) R,⟨fun hc=>⟨(absurd hc (by decide)),H⟩,fun hc=>⟨(by decide),H⟩⟩,?_⟩
   clear H;rintro ddj bj w ⟨rfl,H⟩
   refine fF ?_
   refine fF ?_
   refine fF ?_
   refine fT ?_
   rw [show cntK p.kind=15 by rw [hk];rfl] at H
   have hsz:=hF.sz (by omega)
   unfold Pk.size at hsz
   refine ⟨_,(H.b2.at0 rfl),?_⟩
   obtain ⟨bn,hbn⟩:∃bn:Nat,p.bits=(bn:Int):=⟨p.bits.toNat,by have:=hF.bt.1;omega⟩
   have hbr:=hF.bt.2
   rw [hbn]
   refine call_j (cMant (b:=bn) (by omega)) ?_
   rintro _ w' ⟨v,okm,rfl,g,hvr,hokm⟩
   rw [<-hbn] at hokm
   replace H:=H.grow g
   clear g hbn hbr
   refine ⟨_,_,rfl,?_⟩
   have w1:u8.wrap ((p.sources.length:Nat):Int)=((p.sources.length % 256:Nat):Int):=by rw [wu8];omega
   have w2:u8.wrap (ishr .u32 v (16:Int))=v / 65536 % 256:=by rw [ishr_of (b:=(16:Int)) 16 (by rfl) (by decide),wu8];rfl
   have w3:u8.wrap (ishr .u32 v (8:Int))=v / 256 % 256:=by rw [ishr_of (b:=(8:Int)) 8 (by rfl) (by decide),wu8];rfl
   have w4:u8.wrap v=v % 256:=wu8 _
   obtain ⟨PRE,hPRE⟩:∃PRE:List Int,PRE=b32 p.sender++b32 0++[82,69,77,66,((p.sources.length % 256:Nat):Int),v / 65536 % 256,v / 256 % 256,v % 256]:=⟨_,rfl⟩
   have hPl:PRE.length=16:=by rw [hPRE];rfl
   refine ⟨fun b bl bc _ w=>∃(r:Option Nat) (ok:Bool),bl=16/\(ok=true->okm=true/\p.sources.length<=255)/\Sat F w (.own 5 1 b bl bc r (ob (PRE))::.blk b5 4 [.bool ok]::.blk b3 42 [.bool false,.int .u8 15,.int .u8 (typK p.kind),.int .u16 0]::.blk b1 63 (pkC p a7 a8 a9 a10 a13 a14 a15 a16 a18 a24 a25 c7 c8 c9 c10 c13 c14 c15 c16 c18 c24 c25)::ex) R,?_,?_⟩
   ·rw [hPRE]
    refine ⟨none,?_⟩;replace H:=H.drew;generalize w.drew=w at H ⊢;obtain ⟨F2,ex2,S,back1,back2,hm⟩:=H.regN
    refine ⟨nn,H.b2.row,_,(H.b2.at0 rfl),?_⟩
    refine ⟨nn,H.b2.row,_,_,_,(H.b2.at0 rfl),?_⟩
    clear H;have H:=S;clear S
    rw [w1,w2,w3,w4]
    refine ⟨?_,?_⟩
    ·refine call_j (c112 (B:=[]) (H.nilOwn 5 1) hF.s (by omega)) ?_
     clear H;rintro _ w ⟨a4,k4,r4,rfl,H⟩
     refine ⟨_,_,_,rfl,(back1 H).1,?_⟩
     rw [bI] at H
     refine ⟨?_,?_⟩
     ·refine call_j (c112 H (by decide) (by omega)) ?_
      clear H;rintro _ w ⟨a5,k5,r5,rfl,H⟩
      refine ⟨_,_,_,rfl,(back1 H).1,?_⟩
      refine sNew H ?_;clear H;intro b6 w _ H
      refine ⟨(back2 H).1,?_⟩
      refine sApp1 H (bytes:=1) (by kernel_rfl) [.int .u8 82,.int .u8 69,.int .u8 77,.int .u8 66,.int .u8 ((p.sources.length % 256:Nat):Int),.int .u8 (v / 65536 % 256),.int .u8 (v / 256 % 256),.int .u8 (v % 256)] (ob [82,69,77,66,((p.sources.length % 256:Nat):Int),(v / 65536 % 256),(v / 256 % 256),(v % 256)]) (by rfl) (fun j u hu=>by rw [add_flat,aK];exact H.b0.cell hu) (fun G h=>DeepL.ones [_,_,_,_,_,_,_,_]) (by simp [Value.oneCell']) (by unfold maxLen;omega) (by omega) ?_
      clear H;intro a6 n6 k6 r6 w hn6 _ H
      refine ⟨(back2 H).1,?_⟩
      replace H:=(back2 H).2;clear back1 back2 hm
      rw [<-ob_append] at H
      subst hn6
      refine ⟨fun hm=>?_,fun hm=>?_⟩
      ·refine ⟨_,_,_,(H.b4.at0 rfl),?_⟩
       refine sSt2 H (by rfl) (by kernel_rfl) (by rfl) (by rfl) ?_;clear H;intro w _ H
       exact ⟨r6,decide (((p.sources.length:Nat):Int)<=(255:Int)),rfl,fun h=>⟨hm,by rw [ah] at h;omega⟩,H.dr⟩
      ·refine sSt2 H (by rfl) (by kernel_rfl) (by rfl) (by rfl) ?_;clear H;intro w _ H
       exact ⟨r6,false,rfl,(fun h=>(by cases h)),H.dr⟩
     ·refine sNew H ?_;clear H;intro b6 w _ H
      refine ⟨(back2 H).1,?_⟩
      replace H:=H.r1
      refine call_j (c112 H (by decide) (by omega)) ?_
      clear H;rintro _ w ⟨a5,k5,r5,rfl,H⟩
      refine ⟨_,_,_,rfl,(back2 H).1,?_⟩
      replace H:=H.u1
      refine sApp1 H (bytes:=1) (by kernel_rfl) [.int .u8 82,.int .u8 69,.int .u8 77,.int .u8 66,.int .u8 ((p.sources.length % 256:Nat):Int),.int .u8 (v / 65536 % 256),.int .u8 (v / 256 % 256),.int .u8 (v % 256)] (ob [82,69,77,66,((p.sources.length % 256:Nat):Int),(v / 65536 % 256),(v / 256 % 256),(v % 256)]) (by rfl) (fun j u hu=>by rw [add_flat,aK];exact H.b0.cell hu) (fun G h=>DeepL.ones [_,_,_,_,_,_,_,_]) (by simp [Value.oneCell']) (by unfold maxLen;omega) (by omega) ?_
      clear H;intro a6 n6 k6 r6 w hn6 _ H
      refine ⟨(back2 H).1,?_⟩
      replace H:=(back2 H).2;clear back1 back2 hm
      rw [<-ob_append] at H
      subst hn6
      refine ⟨fun hm=>?_,fun hm=>?_⟩
      ·refine ⟨_,_,_,(H.b4.at0 rfl),?_⟩
       refine sSt2 H (by rfl) (by kernel_rfl) (by rfl) (by rfl) ?_;clear H;intro w _ H
       exact ⟨r6,decide (((p.sources.length:Nat):Int)<=(255:Int)),rfl,fun h=>⟨hm,by rw [ah] at h;omega⟩,H.dr⟩
      ·refine sSt2 H (by rfl) (by kernel_rfl) (by rfl) (by rfl) ?_;clear H;intro w _ H
       exact ⟨r6,false,rfl,(fun h=>(by cases h)),H.dr⟩
    ·refine sNew H ?_;clear H;intro b6 w _ H
     refine ⟨(back1 H).1,?_⟩
     refine call_j (c112 (B:=[]) (H.nilOwn 5 1) hF.s (by omega)) ?_
     clear H;rintro _ w ⟨a4,k4,r4,rfl,H⟩
     refine ⟨_,_,_,rfl,(back2 H).1,?_⟩
     rw [bI] at H
     ·refine call_j (c112 H (by decide) (by omega)) ?_
      clear H;rintro _ w ⟨a5,k5,r5,rfl,H⟩
      refine ⟨_,_,_,rfl,(back2 H).1,?_⟩
      replace H:=H.u1
      refine sApp1 H (bytes:=1) (by kernel_rfl) [.int .u8 82,.int .u8 69,.int .u8 77,.int .u8 66,.int .u8 ((p.sources.length % 256:Nat):Int),.int .u8 (v / 65536 % 256),.int .u8 (v / 256 % 256),.int .u8 (v % 256)] (ob [82,69,77,66,((p.sources.length % 256:Nat):Int),(v / 65536 % 256),(v / 256 % 256),(v % 256)]) (by rfl) (fun j u hu=>by rw [add_flat,aK];exact H.b0.cell hu) (fun G h=>DeepL.ones [_,_,_,_,_,_,_,_]) (by simp [Value.oneCell']) (by unfold maxLen;omega) (by omega) ?_
      clear H;intro a6 n6 k6 r6 w hn6 _ H
      refine ⟨(back2 H).1,?_⟩
      replace H:=(back2 H).2;clear back1 back2 hm
      rw [<-ob_append] at H
      subst hn6
      refine ⟨fun hm=>?_,fun hm=>?_⟩
      ·refine ⟨_,_,_,(H.b4.at0 rfl),?_⟩
       refine sSt2 H (by rfl) (by kernel_rfl) (by rfl) (by rfl) ?_;clear H;intro w _ H
       exact ⟨r6,decide (((p.sources.length:Nat):Int)<=(255:Int)),rfl,fun h=>⟨hm,by rw [ah] at h;omega⟩,H.dr⟩
      ·refine sSt2 H (by rfl) (by kernel_rfl) (by rfl) (by rfl) ?_;clear H;intro w _ H
       exact ⟨r6,false,rfl,(fun h=>(by cases h)),H.dr⟩
   clear H;rintro dd2 b bl bc w ⟨r,ok1,rfl,hok1,H⟩
   refine ⟨_,_,_,(H.b3.at0 rfl),?_⟩
   refine ⟨fun b bl bc x q w=>∃(j:Nat) (r:Option Nat),x=(j:Int)/\j+q=p.sources.length/\bl=16+4*j/\Sat F w (.own 5 1 b bl bc r (ob (PRE++(p.sources.take j).flatMap b32))::.blk b5 4 [.bool ok1]::.blk b3 42 [.bool false,.int .u8 15,.int .u8 (typK p.kind),.int .u16 0]::.blk b1 63 (pkC p a7 a8 a9 a10 a13 a14 a15 a16 a18 a24 a25 c7 c8 c9 c10 c13 c14 c15 c16 c18 c24 c25)::ex) R,⟨p.sources.length,0,r,rfl,by omega,rfl,by rw [aP,aD,aE];exact H⟩,?_⟩
   clear H;rintro dd3 b bl bc x q w ⟨j,r,rfl,hjq,rfl,H⟩
   refine ⟨fun hc=>?_,fun hc=>?_⟩
   ·rw [ah] at hc
    have hjl:j < p.sources.length:=by omega
    have htk:p.sources.take (j+1)=p.sources.take j++[p.sources[j]]:=by rw [am,ai hjl];rfl
    have hRj:=hF.srcs p.sources[j] (ax hjl)
    obtain ⟨bb,oo,hle,hcell⟩:=H.elt m10 (by omega)
    have hc1:=hcell j (.int .u32 p.sources[j]) (by rw [oi_get _ _ _ hjl];simp [List.getD,ai hjl])
    refine ⟨_,hle,by omega,by omega,?_⟩
    refine ⟨_,(by rw [show (j:Int).toNat*1=j by omega,add_flat];exact hc1),?_⟩
    clear hcell hc1
    refine call_j (c112 H hRj (by omega)) ?_
    clear H;rintro _ w ⟨a6,k6,r6,rfl,H⟩
    refine ⟨_,_,_,rfl,?_⟩
    refine ⟨q - 1,by omega,j+1,r6,by rw [wi64_of (by omega) (by omega)];simp,by omega,by omega,?_⟩
    rw [htk,aj]
    simp only [fm1,fm2,fm3]
    rw [an] at H
    exact H
   rw [af] at hc
   obtain rfl:j=p.sources.length:=by omega
   rw [ao] at H
   exact ⟨r,_,15,ok1,by rw [ae,fl32,hPl],H,⟨by decide,by decide⟩,by rw [ae,fl32,hPl];omega,fun h=>by
    obtain ⟨h1,h2⟩:=hok1 h
    obtain ⟨hv,m,i,h3,h4,h5,h6⟩:=hokm h1
    obtain ⟨hE,hM⟩:=br_rng h3 h4 h5
    rw [<-h6] at hE hM
    exact fm12 hk hF ⟨m,i,h3,h4,h5,h6⟩ hv hM hE (by rw [hPRE]) h2⟩
  ·
   replace H:=H.d1
   refine ⟨_,(H.b2.at0 rfl),?_⟩
   rw [hk]
   refine ⟨fun b _ w=>b=false/\Sat F w (.blk b5 4 [.bool true]::.blk b3 42 [.bool false,.int .u8 (cntK p.kind),.int .u8 (typK p.kind),.int .u16 0]::.blk b1 63 (pkC p a7 a8 a9 a10 a13 a14 a15 a16 a18 a24 a25 c7 c8 c9 c10 c13 c14 c15 c16 c18 c24 c25)::ex) R,⟨fun hc=>⟨(absurd hc (by decide)),H⟩,fun hc=>⟨(by decide),H⟩⟩,?_⟩
   clear H;rintro ddj bj w ⟨rfl,H⟩
   refine fF ?_
   refine fF ?_
   refine fF ?_
   refine fF ?_
   refine fF ?_
   refine ⟨fun b _ w=>b=false/\Sat F w (.blk b5 4 [.bool true]::.blk b3 42 [.bool false,.int .u8 (cntK p.kind),.int .u8 (typK p.kind),.int .u16 0]::.blk b1 63 (pkC p a7 a8 a9 a10 a13 a14 a15 a16 a18 a24 a25 c7 c8 c9 c10 c13 c14 c15 c16 c18 c24 c25)::ex) R,⟨fun hc=>⟨(absurd hc (by decide)),H⟩,fun hc=>⟨(by decide),H⟩⟩,?_⟩
   clear H;rintro ddj bj w ⟨rfl,H⟩
   refine fF ?_
   refine fF ?_
   refine fF ?_
   refine fF ?_
   refine fF ?_
   refine sSt0 H (by rfl) (by kernel_rfl) (by rfl) (by rfl) ?_;clear H;intro w _ H
   rw [show cntK p.kind=15 by rw [hk];rfl] at H
   exact ⟨none,[],15,false,rfl,H.nilOwn 5 1,⟨by decide,by decide⟩,bE _,(fun h=>(by cases h))⟩
 clear H;rintro dd58 b bl bc w ⟨r,B,c,ok,rfl,H,hc,hB,hok⟩
 refine ⟨none,?_⟩
 replace H:=H.drew
 generalize w.drew=wd at H ⊢
 refine ⟨aC _,H.b2.row,_,_,_,_,H.b2.ld,?_⟩
 refine ⟨aC _,H.b1.row,_,(by exact Ce (by rfl) H.b1 rfl),?_⟩
 have B0:=H.b2
 refine sSw2 H rfl (by kernel_rfl) (by rfl) (by rfl) ?_
 clear H;intro w g H
 refine ⟨grown_same g B0 H.b2,?_⟩
 refine sSt1 H (by rfl) (by kernel_rfl) (by rfl) (by rfl) ?_;clear H;intro w _ H
 refine ⟨_,_,_,_,H.b2.ld,?_⟩
 refine ⟨_,(by exact Ce (by rfl) H.b1 rfl),?_⟩
 exact ⟨c,b,bc,r,B,ok,rfl,H.dq hr,hc,hB,hok⟩
def RawOk (xs:List Int):Prop:=hdrOk xs=true/\kindOf (hT xs) (hC xs)=0/\hT xs≠207/\4*(hL xs+1)=(xs.length:Int)
theorem WrOk.of0 (h:p.kind=0):WrOk p:=
 ⟨by omega,by omega,fun e=>by omega,fun e=>by omega,fun e=>by omega,fun e=>by omega,fun e=>by omega,fun e=>by omega,fun e=>by omega,fun e=>by omega,fun e=>by omega,fun e=>by omega,fun e=>by omega,fun e=>by omega⟩
theorem wr_0 (h:p.kind=0):wrOne p=p.data:=by unfold wrOne;simp [h]
def F1Post (F:Fr) (ex:List Ex) (ro:List Ro) (p:Pk) (en:Ending) (w':World):Prop:=
 ∃a c X ok ro',en=.returned (.tuple #[.slice a X.length c,.bool ok])/\(∀r∈ro,r∈ro')/\Sat F w' ex ro'/\Ro.B X a X.length c∈ro'/\(ok=true->(0<=p.kind/\p.kind<=12)/\WrX p/\X.length<=24*p.size+44/\(p.kind=0->RawOk p.data)/\(X.length<=240000->WrOk p/\X=wrOne p))
theorem F1Post.no (H:Sat F w exs ro) (hs:ex.Sublist exs):F1Post F ex ro p (.returned (.tuple #[.slice none 0 0,.bool false])) w:=
 ⟨none,0,[],false,_,rfl,fun r h=>mt h,((H.sub hs (fun _ h=>h)).nilOwn 5 1).freeze,ms,fun h=>by cases h⟩
theorem F1Post.raw {ok:Bool} (H:Sat F w exs ro') (hs:ex.Sublist exs) (hr:∀r∈ro,r∈ro') (hk:p.kind=0) (hm:Ro.B p.data a p.data.length c∈ro') (hok:ok=true->RawOk p.data):F1Post F ex ro p (.returned (.tuple #[.slice a p.data.length c,.bool ok])) w:=
 ⟨a,c,p.data,ok,_,rfl,hr,H.sub hs (fun _ h=>h),hm,fun h=>⟨by omega,WrX.no (by omega),by unfold Pk.size;omega,fun _=>hok h,fun _=>⟨WrOk.of0 hk,(wr_0 hk).symm⟩⟩⟩
theorem c48 (H:Sat F w ex ro) (hp:Ro.deep p.dat cells∈ro) (hF0:0<=p.kind->p.kind<=13->FoOk p) :
  Calls pg 48 #[.agg cells.toArray] w (F1Post F ex ro p):=by
 have hp0:=hp
 obtain ⟨a7,a8,a9,a10,a13,a14,a15,a16,a18,a24,a25,c7,c8,c9,c10,c13,c14,c15,c16,c18,c24,c25,R,rfl,hr,H,m7,m8,m9,m10,m13,m14,m15,m16,m18,m24,m25⟩:=H.pkF hp
 apply of48
 refine sNew H ?_;clear H;intro b1 w _ H
 replace H:Sat F w (.blk b1 63 (pkC p a7 a8 a9 a10 a13 a14 a15 a16 a18 a24 a25 c7 c8 c9 c10 c13 c14 c15 c16 c18 c24 c25)::ex) R:=H
 refine ⟨_,(H.b0.at0 rfl),?_⟩
 refine ⟨fun _=>F1Post.no (H.sub (ro':=ro) (ak _) hr) sl1,fun lo=>?_⟩
 rw [af,Int.not_lt] at lo
 refine ⟨_,(H.b0.at0 rfl),?_⟩
 refine ⟨fun _=>F1Post.no (H.sub (ro':=ro) (ak _) hr) sl1,fun hi=>?_⟩
 rw [af] at hi
 replace hi:p.kind<=13:=by omega
 have hF:=hF0 lo hi
 refine ⟨_,(H.b0.at0 rfl),?_⟩
 refine ⟨fun hk=>?_,fun hk=>?_⟩
 ·have hk:p.kind=0:=by simpa using hk
  have hby:=hF.dat hk
  refine ⟨_,_,_,(H.b0.at0 rfl),?_⟩
  have hrd:=H.rd (show Ro.B p.data a13 p.data.length c13∈R from m13)
  refine call_j (c23 hrd hby) ?_
  rintro _ w ⟨rfl,g⟩
  replace H:=H.grow g;clear g hrd
  by_cases hok:hdrOk p.data=true
  ·have hv:hdrVal p.data=.agg #[.bool (hP p.data),.int .u8 (hC p.data),.int .u8 (hT p.data),.int .u16 (hL p.data)]:=by unfold hdrVal;rw [aG hok]
   rw [hv,hok]
   refine ⟨_,_,_,_,_,rfl,?_⟩
   refine sNew H ?_;clear H;intro b13 w _ H
   refine sSw0 H (h:=?_);clear H;intro w _ H
   refine ⟨none,?_⟩;replace H:=H.drew;generalize w.drew=w at H ⊢;obtain ⟨F2,ex2,S,back1,back2,hm⟩:=H.regN
   refine ⟨nn,H.b1.row,_,_,_,(H.b1.at0 rfl),?_⟩
   refine fT ?_
   refine ⟨nn,H.b0.row,_,_,_,_,H.b0.ld,?_⟩
   refine call_j c57 ?_
   clear S back1 back2 hm
   rintro _ w ⟨rfl,K⟩
   replace H:=H.grow K
   refine ⟨_,rfl,K,?_⟩
   have hlb:hL p.data=n16 (p.data.drop 2):=rfl
   have hlr:=n16_lt (hby.drop 2)
   rw [<-hlb] at hlr
   have e1:i64.wrap ((4:Int)*(i64.wrap ((i64.wrap (hL p.data))+(1:Int))))=4*(hL p.data+1):=by
    rw [wi64_of (n:=hL p.data) (by omega) (by omega),wi64_of (n:=hL p.data+1) (by omega) (by omega),wi64_of (by omega) (by omega)]
   refine ⟨fun h0=>?_,fun h0=>?_⟩
   ·have h0:kindOf (hT p.data) (hC p.data)=0:=by simpa using h0
    refine ⟨_,(H.b0.at0 rfl),K,?_⟩
    refine ⟨fun h1=>?_,fun h1=>?_⟩
    ·have h1:hT p.data≠207:=by simpa using h1
     refine ⟨⟨_,(H.b0.at0 rfl),K,_,_,_,(H.b1.at0 rfl),K,?_⟩,⟨_,_,_,(H.b1.at0 rfl),K,_,(H.b0.at0 rfl),K,?_⟩⟩
     ·rw [e1]
      exact F1Post.raw H sl1 hr hk m13 (fun h=>⟨hok,h0,h1,by simpa using h⟩)
     ·rw [e1]
      exact F1Post.raw H sl1 hr hk m13 (fun h=>⟨hok,h0,h1,by simpa using h⟩)
    ·exact ⟨F1Post.raw H sl1 hr hk m13 (fun h=>by cases h),F1Post.raw H sl1 hr hk m13 (fun h=>by cases h)⟩
   ·exact ⟨F1Post.raw H sl1 hr hk m13 (fun h=>by cases h),F1Post.raw H sl1 hr hk m13 (fun h=>by cases h)⟩
  ·have hok:hdrOk p.data=false:=by simpa using hok
   have hv:hdrVal p.data=.agg #[.bool false,.int .u8 0,.int .u8 0,.int .u16 0]:=by unfold hdrVal;rw [hok];rfl
   rw [hv,hok]
   refine ⟨_,_,_,_,_,rfl,?_⟩
   refine sNew H ?_;clear H;intro b13 w _ H
   refine sSw0 H (h:=?_);clear H;intro w _ H
   refine ⟨none,?_⟩;replace H:=H.drew;generalize w.drew=w at H ⊢;obtain ⟨F2,ex2,S,back1,back2,hm⟩:=H.regN
   refine ⟨nn,H.b1.row,_,_,_,(H.b1.at0 rfl),?_⟩
   refine fF ?_
   exact ⟨F1Post.raw H sl1 hr hk m13 (fun h=>by cases h),F1Post.raw H sl1 hr hk m13 (fun h=>by cases h)⟩
 ·have hk:p.kind≠0:=by simpa using hk
  refine ⟨_,H.b0.ld,?_⟩
  refine call_j (c88 H (hr _ hp0) hF) ?_
  clear H;rintro _ w ⟨c,a,k,r,B,ok,rfl,H,hc,hB,hok⟩
  refine ⟨_,_,_,_,_,_,_,_,rfl,?_⟩
  refine sNew H ?_;clear H;intro b37 w _ H
  refine sSw0 H (h:=?_);clear H;intro w _ H
  refine ⟨fun _=>F1Post.no (H.sub (ro':=ro) (ak _) hr) sl1,fun h1=>?_⟩
  have h1:ok=true:=by simpa using h1
  refine ⟨fun _=>F1Post.no (H.sub (ro':=ro) (ak _) hr) sl1,fun h2=>?_⟩
  rw [af] at h2
  refine ⟨by decide,?_⟩
  have e1:u16.wrap (i64.wrap (((B.length:Nat):Int).tdiv (4:Int)))=((B.length / 4:Nat):Int):=by
   rw [aY (by omega),wi64_of (by omega) (by omega),wu16]
   omega
  rw [e1]
  refine sSt0 H (h:=?_);clear H;intro w _ H
  refine ⟨_,_,_,_,H.b0.ld,?_⟩
  refine call_j (c21 H hc (by omega)) ?_
  clear H;rintro _ w ⟨a5,k5,r5,rfl,H⟩
  refine ⟨_,_,_,_,rfl,?_⟩
  replace H:=H.r2.freeze
  refine sAppV H ms (by omega) ?_
  clear H;intro a6 n6 k6 r6 w hn6 _ H
  have hl:n6=(hdrB c (typK p.kind) ((B.length / 4:Nat):Int)++B).length:=by rw [ae];exact hn6
  subst hl
  refine ⟨a6,k6,_,true,_,rfl,fun r h=>mt (mt (hr r h)),H.freeze.sub sl1 (fun _ h=>h),ms,fun _=>⟨by have:=(hok h1).1;omega,(hok h1).2.1,by omega,fun h=>absurd h hk,fun hl=>(hok h1).2.2 (by omega)⟩⟩
def plC (p:Pk) (a8 a10 a13:Option Addr) (c8 c10 c13:Nat) (v7 v9 v14 v15 v16 v18 v24 v25:Value):List Value:=
 [.int .i64 p.kind,.int .u32 p.sender,.int .u32 p.media,.int .u64 p.ntp,.int .u32 p.rtp,.int .u32 p.packets,.int .u32 p.octets,v7,.slice a8 p.ext.length c8,v9,.slice a10 p.sources.length c10,.string p.text,.int .u8 p.sub,.slice a13 p.data.length c13,v14,v15,v16,.int .u32 p.bits,v18,.int .u32 p.time,.int .u16 p.base,.int .u16 p.count,.int .u32 p.ref,.int .u8 p.fb,v24,v25,.bool p.hp,.int .u8 p.hc,.int .u8 p.ht,.int .u16 p.hl]
theorem Sat.sta5 {V:Bool} {a b c:Int} {l:List Int} {us:List Value} (H:Sat F w ex ro) (h:Ro.deep (Sta.dat (V,a,b,c,l)) us∈ro) :
  ∃la lc,us=[.bool V,.int .u16 a,.int .u16 b,.int .u16 c,.slice la l.length lc]/\Sat F w ex (.deep [.row 1 (oi .u16 l)] [.slice la l.length lc]::ro):=by
 obtain ⟨x0,us0,rfl,H1⟩:=H.uncons h
 obtain ⟨x1,us1,rfl,H2⟩:=H1.uncons (mt ms)
 obtain ⟨x2,us2,rfl,H3⟩:=H2.uncons (mt ms)
 obtain ⟨x3,us3,rfl,H4⟩:=H3.uncons (mt ms)
 obtain ⟨x4,us4,rfl,H5⟩:=H4.uncons (mt ms)
 have hn:us4=[]:=by
  have:=(H5.deep (mt ms)).1
  exact aF (by simpa using this)
 subst hn
 obtain rfl:=H1.one1 ms
 obtain rfl:=H2.one1 ms
 obtain rfl:=H3.one1 ms
 obtain rfl:=H4.one1 ms
 obtain ⟨sa,sn,sc,rfl,hl⟩:=H5.rowS ms
 rw [bd,oi_length] at hl
 subst hl
 refine ⟨sa,sc,rfl,H5.sub (ak _) (fun r hr=>?_)⟩
 simp only [aI] at hr ⊢
 rcases hr with rfl | hr
 ·exact .inl rfl
 ·simp [hr]
abbrev N0:Value:=.slice none 0 0
def CvPost (F:Fr) (ex:List Ex) (ro:List Ro) (p:Pk) (en:Ending) (w':World):Prop:=
 ∃cells ro',en=.returned (.agg cells.toArray)/\(∀r∈ro,r∈ro')/\Sat F w' ex ro'/\Ro.deep p.dat cells∈ro'
theorem c41 (H:Sat F w ex ro) (hp:Ro.deep p.dat cells∈ro) (hs:p.size<=1100000):Calls pg 41 #[.agg cells.toArray] w (CvPost F ex ro p):=by
 obtain ⟨a7,a8,a9,a10,a13,a14,a15,a16,a18,a24,a25,c7,c8,c9,c10,c13,c14,c15,c16,c18,c24,c25,R,rfl,hr,H,m7,m8,m9,m10,m13,m14,m15,m16,m18,m24,m25⟩:=H.pkF hp
 unfold Pk.size at hs
 have hcl:=csz_len p.chunks
 have hcm:=csz_mem p.chunks
 have hbl:=bsz_len p.blocks
 have hbm:=bsz_mem p.blocks
 have hsl:=ssz_len p.statuses
 obtain ⟨Z,hZ⟩:∃Z,Z=pk0 0 0 0 false 0 0 0:=⟨_,rfl⟩
 apply of41
 refine sNew H ?_;clear H;intro b1 w _ H
 replace H:Sat F w (.blk b1 75 (pkC p a7 a8 a9 a10 a13 a14 a15 a16 a18 a24 a25 c7 c8 c9 c10 c13 c14 c15 c16 c18 c24 c25)::ex) R:=H
 refine sNew H ?_;clear H;intro b3 w _ H
 replace H:Sat F w (.blk b3 63 Z::.blk b1 75 (pkC p a7 a8 a9 a10 a13 a14 a15 a16 a18 a24 a25 c7 c8 c9 c10 c13 c14 c15 c16 c18 c24 c25)::ex) R:=by rw [hZ];exact H
 refine ⟨_,(H.b1.at0 rfl),?_⟩
 refine ⟨_,(H.b1.at0 rfl),?_⟩
 refine ⟨_,(H.b1.at0 rfl),?_⟩
 refine ⟨_,(H.b1.at0 rfl),?_⟩
 refine ⟨_,(H.b1.at0 rfl),?_⟩
 refine ⟨_,(H.b1.at0 rfl),?_⟩
 refine ⟨_,(H.b1.at0 rfl),?_⟩
 refine ⟨_,_,_,(H.b1.at0 rfl),?_⟩
 refine ⟨_,_,_,(H.b1.at0 rfl),?_⟩
 refine ⟨_,(H.b1.at0 rfl),?_⟩
 refine ⟨_,(H.b1.at0 rfl),?_⟩
 refine ⟨_,_,_,(H.b1.at0 rfl),?_⟩
 refine ⟨_,(H.b1.at0 rfl),?_⟩
 refine ⟨_,(H.b1.at0 rfl),?_⟩
 refine ⟨_,(H.b1.at0 rfl),?_⟩
 refine ⟨_,(H.b1.at0 rfl),?_⟩
 refine ⟨_,(H.b1.at0 rfl),?_⟩
 refine ⟨_,(H.b1.at0 rfl),?_⟩
 refine ⟨_,_,_,_,Ld (vs:=[.bool p.hp,.int .u8 p.hc,.int .u8 p.ht,.int .u16 p.hl]) (by exact add_flat _ _ _) H.b1 (by kernel_rfl) (by rfl) (by rfl),?_⟩
 refine sNew H ?_;clear H;intro b27 w _ H
 refine sSw0 H (h:=?_);clear H;intro w _ H
 replace H:Sat F w (.blk b27 63 (plC p a8 a10 a13 c8 c10 c13 N0 N0 N0 N0 N0 N0 N0 N0)::.blk b3 63 Z::.blk b1 75 (pkC p a7 a8 a9 a10 a13 a14 a15 a16 a18 a24 a25 c7 c8 c9 c10 c13 c14 c15 c16 c18 c24 c25)::ex) R:=H
 refine ⟨_,_,_,(H.b2.at0 rfl),?_⟩
 refine ⟨fun x q w=>∃(j:Nat) (o:Option Addr) (oc:Nat) (r:Option Nat),x=(j:Int)/\j+q=p.reports.length/\Sat F w (.own 144 7 o j oc r ((p.reports.take j).flatMap Rep.dat)::.blk b27 63 (plC p a8 a10 a13 c8 c10 c13 (.slice o j oc) N0 N0 N0 N0 N0 N0 N0)::.blk b3 63 Z::.blk b1 75 (pkC p a7 a8 a9 a10 a13 a14 a15 a16 a18 a24 a25 c7 c8 c9 c10 c13 c14 c15 c16 c18 c24 c25)::ex) R,⟨p.reports.length,0,none,0,none,rfl,by omega,H.nilOwn 144 7⟩,?_⟩
 clear H;rintro dd0 x q w ⟨j,o7,k7,r,rfl,hjq,H⟩
 refine ⟨fun hc=>?_,fun hc=>?_⟩
 ·rw [ah] at hc
  have hjl:j < p.reports.length:=by omega
  obtain ⟨pp,us,e,hus,hcell,H1⟩:=H.eltF Rep.dat_len' (by decide) m7 (j:=j) hjl
  have htk:p.reports.take (j+1)=p.reports.take j++[p.reports[j]]:=by rw [am,ai hjl];rfl
  clear H
  generalize p.reports[j]=D at H1 htk
  obtain ⟨d0,d1,d2,d3,d4,d5,d6⟩:=D
  refine ⟨pp,e,by omega,by omega,?_⟩
  obtain rfl:=H1.ones (us:=[.int .u32 d0,.int .u8 d1,.int .u32 d2,.int .u32 d3,.int .u32 d4,.int .u32 d5,.int .u32 d6]) ms
  refine ⟨_,_,_,_,_,_,_,LdC [.int .u32 d0,.int .u8 d1,.int .u32 d2,.int .u32 d3,.int .u32 d4,.int .u32 d5,.int .u32 d6] (by kernel_rfl) (by rw [show (j:Int).toNat*7=j*7 by omega];exact hcell),?_⟩
  have H:=H1
  clear H1 hcell
  refine sNew H ?_;clear H;intro b4 w _ H
  refine sSw0 H (h:=?_);clear H;intro w _ H
  refine ⟨_,_,_,(H.b2.at0 rfl),?_⟩
  refine ⟨_,_,_,_,_,_,_,H.b0.ld,?_⟩
  refine ⟨rfl,?_⟩
  refine sPush1 H (bytes:=28) (nds:=(Rep.dat (d0,d1,d2,d3,d4,d5,d6))) (hD:=(fun G h=>DeepL.ones [_,_,_,_,_,_,_])) (hK:=?_)
  clear H;intro o2 ol2 oc2 r2 w ex2 _ H
  refine sSt2 H (h:=?_);clear H;intro w _ H
  subst ex2
  refine ⟨q - 1,by omega,j+1,o2,oc2,r2,by rw [wi64_of (by omega) (by omega)];simp,by omega,?_⟩
  rw [htk,aj]
  simp only [fm1,fm2,fm3]
  exact H.sub (sc1) (fun r h=>mt h)
 rw [af] at hc
 obtain rfl:j=p.reports.length:=by omega
 rw [ao] at H
 replace H:=H.freeze
 clear hc hjq r q
 refine ⟨_,_,_,(H.b2.at0 rfl),?_⟩
 refine ⟨fun x q w=>∃(j:Nat) (o:Option Addr) (oc:Nat) (r:Option Nat),x=(j:Int)/\j+q=p.chunks.length/\Sat F w (.own 147 2 o j oc r ((p.chunks.take j).flatMap Chk.dat)::.blk b27 63 (plC p a8 a10 a13 c8 c10 c13 (.slice o7 p.reports.length k7) (.slice o j oc) N0 N0 N0 N0 N0 N0)::.blk b3 63 Z::.blk b1 75 (pkC p a7 a8 a9 a10 a13 a14 a15 a16 a18 a24 a25 c7 c8 c9 c10 c13 c14 c15 c16 c18 c24 c25)::ex) (.deep [.row 7 (p.reports.flatMap Rep.dat)] [.slice o7 p.reports.length k7]::R),⟨p.chunks.length,0,none,0,none,rfl,by omega,H.nilOwn 147 2⟩,?_⟩
 clear H;rintro dd1 x q w ⟨j,o9,k9,r,rfl,hjq,H⟩
 refine ⟨fun hc=>?_,fun hc=>?_⟩
 ·rw [ah] at hc
  have hjl:j < p.chunks.length:=by omega
  obtain ⟨pp,us,e,hus,hcell,H1⟩:=H.eltF Chk.dat_len' (by decide) (mt m9) (j:=j) hjl
  have htk:p.chunks.take (j+1)=p.chunks.take j++[p.chunks[j]]:=by rw [am,ai hjl];rfl
  have hDm:=hcm p.chunks[j] (ax hjl)
  clear H
  generalize p.chunks[j]=D at H1 htk hDm
  obtain ⟨d0,msz⟩:=D
  replace hDm:msz.length<=csz p.chunks:=hDm
  refine ⟨pp,e,by omega,by omega,?_⟩
  obtain ⟨x0,us0,rfl,H2⟩:=H1.uncons ms
  obtain ⟨x1,us1,rfl,H3⟩:=H2.uncons (mt ms)
  obtain rfl:us1=[]:=by simpa using hus
  obtain rfl:=H2.one1 ms
  obtain ⟨sa,sn,sc,rfl,hsl2⟩:=H3.rowS ms
  rw [flat_len Itm.dat_len] at hsl2
  obtain rfl:sn=msz.length:=by omega
  refine ⟨_,_,_,_,LdC [.int .u32 d0,.slice sa msz.length sc] (by kernel_rfl) (by rw [show (j:Int).toNat*2=j*2 by omega];exact hcell),?_⟩
  have H:Sat F w _ (.deep [.row 2 (msz.flatMap Itm.dat)] [.slice sa msz.length sc]::(.deep [.row 7 (p.reports.flatMap Rep.dat)] [.slice o7 p.reports.length k7]::R)):=H3.sub (ak _) (fun r h=>by
   rcases aI.1 h with rfl | h
   ·exact ms
   ·exact (mt (mt (mt (mt (mt h))))))
  clear hcell H1 H2 H3
  refine sNew H ?_;clear H;intro b13 w _ H
  refine sSw0 H (h:=?_);clear H;intro w _ H
  refine ⟨_,(H.b0.at0 rfl),?_⟩
  refine sNew H ?_;clear H;intro b18 w _ H
  refine sSw0 H (h:=?_);clear H;intro w _ H
  refine ⟨_,_,_,(H.b1.at0 rfl),?_⟩
  refine ⟨fun x m2 w=>∃(i:Nat) (o2:Option Addr) (oc2:Nat) (r2:Option Nat),x=(i:Int)/\i+m2=msz.length/\Sat F w (.own 149 2 o2 i oc2 r2 ((msz.take i).flatMap Itm.dat)::.blk b18 147 [.int .u32 d0,.slice o2 i oc2]::.blk b13 169 [.int .u32 d0,.slice sa msz.length sc]::.own 147 2 o9 j k9 r ((p.chunks.take j).flatMap Chk.dat)::.blk b27 63 (plC p a8 a10 a13 c8 c10 c13 (.slice o7 p.reports.length k7) (.slice o9 j k9) N0 N0 N0 N0 N0 N0)::.blk b3 63 Z::.blk b1 75 (pkC p a7 a8 a9 a10 a13 a14 a15 a16 a18 a24 a25 c7 c8 c9 c10 c13 c14 c15 c16 c18 c24 c25)::ex) (.deep [.row 2 (msz.flatMap Itm.dat)] [.slice sa msz.length sc]::(.deep [.row 7 (p.reports.flatMap Rep.dat)] [.slice o7 p.reports.length k7]::R)),⟨msz.length,0,none,0,none,rfl,by omega,H.nilOwn 149 2⟩,?_⟩
  clear H;rintro dd23 x m2 w ⟨i,o2,oc2,r2,rfl,him,H⟩
  refine ⟨fun hc=>?_,fun hc=>?_⟩
  ·rw [ah] at hc
   have hil:i < msz.length:=by omega
   obtain ⟨p2,us,eq2,hus2,hcell,H1⟩:=H.eltF Itm.dat_len (by decide) ms (j:=i) hil
   have htk2:msz.take (i+1)=msz.take i++[msz[i]]:=by rw [am,ai hil];rfl
   clear H
   generalize msz[i]=E at H1 htk2
   obtain ⟨e0,e1⟩:=E
   refine ⟨p2,eq2,by omega,by omega,?_⟩
   obtain rfl:=H1.ones (us:=[.int .u8 e0,.string e1]) ms
   refine ⟨_,_,LdC [.int .u8 e0,.string e1] (by kernel_rfl) (by rw [show (i:Int).toNat*2=i*2 by omega];exact hcell),?_⟩
   have H:=H1
   clear H1 hcell
   refine sNew H ?_;clear H;intro b33 w _ H
   refine sSw0 H (h:=?_);clear H;intro w _ H
   refine ⟨_,_,_,(H.b2.at0 rfl),?_⟩
   refine ⟨_,_,H.b0.ld,?_⟩
   refine ⟨rfl,?_⟩
   refine sPush1 H (bytes:=24) (nds:=(Itm.dat (e0,e1))) (hD:=(fun G h=>DeepL.ones [_,_])) (hK:=?_)
   clear H;intro o3 ol3 oc3 r3 w ex3 _ H
   refine sSt2 H (h:=?_);clear H;intro w _ H
   subst ex3
   refine ⟨m2 - 1,by omega,i+1,o3,oc3,r3,by rw [wi64_of (by omega) (by omega)];simp,by omega,?_⟩
   rw [htk2,aj]
   simp only [fm1,fm2,fm3]
   exact H.sub (sc1) (fun r h=>mt h)
  ·rw [af] at hc
   obtain rfl:i=msz.length:=by omega
   rw [ao] at H
   replace H:=H.freeze
   refine ⟨_,_,_,(H.b3.at0 rfl),?_⟩
   refine ⟨_,_,_,_,H.b0.ld,?_⟩
   refine ⟨rfl,?_⟩
   refine sPush2 H (bytes:=32) (nds:=(Chk.dat (d0,msz))) (hD:=(fun G h=>dc (.one _) (dc (h (.deep [_] [_]) ms).head dn))) (hK:=?_)
   clear H;intro o2 ol2 oc2 r2 w ex2 _ H
   refine sSt3 H (h:=?_);clear H;intro w _ H
   subst ex2
   refine ⟨q - 1,by omega,j+1,o2,oc2,r2,by rw [wi64_of (by omega) (by omega)];simp,by omega,?_⟩
   rw [htk,aj]
   simp only [fm1,fm2,fm3]
   exact H.sub ((sc1).trans (sc1)) (fun r h=>mt (mt h))
 rw [af] at hc
 obtain rfl:j=p.chunks.length:=by omega
 rw [ao] at H
 replace H:=H.freeze
 clear hc hjq r q
 refine ⟨_,_,_,(H.b2.at0 rfl),?_⟩
 refine ⟨fun x q w=>∃(j:Nat) (o:Option Addr) (oc:Nat) (r:Option Nat),x=(j:Int)/\j+q=p.pairs.length/\Sat F w (.own 151 2 o j oc r ((p.pairs.take j).flatMap Par.dat)::.blk b27 63 (plC p a8 a10 a13 c8 c10 c13 (.slice o7 p.reports.length k7) (.slice o9 p.chunks.length k9) (.slice o j oc) N0 N0 N0 N0 N0)::.blk b3 63 Z::.blk b1 75 (pkC p a7 a8 a9 a10 a13 a14 a15 a16 a18 a24 a25 c7 c8 c9 c10 c13 c14 c15 c16 c18 c24 c25)::ex) (.deep [.row 2 (p.chunks.flatMap Chk.dat)] [.slice o9 p.chunks.length k9]::.deep [.row 7 (p.reports.flatMap Rep.dat)] [.slice o7 p.reports.length k7]::R),⟨p.pairs.length,0,none,0,none,rfl,by omega,H.nilOwn 151 2⟩,?_⟩
 clear H;rintro dd2 x q w ⟨j,o14,k14,r,rfl,hjq,H⟩
 refine ⟨fun hc=>?_,fun hc=>?_⟩
 ·rw [ah] at hc
  have hjl:j < p.pairs.length:=by omega
  obtain ⟨pp,us,e,hus,hcell,H1⟩:=H.eltF Par.dat_lenK (by decide) (mt (mt m14)) (j:=j) hjl
  have htk:p.pairs.take (j+1)=p.pairs.take j++[p.pairs[j]]:=by rw [am,ai hjl];rfl
  clear H
  generalize p.pairs[j]=D at H1 htk
  obtain ⟨d0,d1⟩:=D
  refine ⟨pp,e,by omega,by omega,?_⟩
  obtain rfl:=H1.ones (us:=[.int .u16 d0,.int .u16 d1]) ms
  refine ⟨_,_,LdC [.int .u16 d0,.int .u16 d1] (by kernel_rfl) (by rw [show (j:Int).toNat*2=j*2 by omega];exact hcell),?_⟩
  have H:=H1
  clear H1 hcell
  refine sNew H ?_;clear H;intro b4 w _ H
  refine sSw0 H (h:=?_);clear H;intro w _ H
  refine ⟨_,_,_,(H.b2.at0 rfl),?_⟩
  refine ⟨_,_,H.b0.ld,?_⟩
  refine ⟨rfl,?_⟩
  refine sPush1 H (bytes:=4) (nds:=(Par.dat (d0,d1))) (hD:=(fun G h=>DeepL.ones [_,_])) (hK:=?_)
  clear H;intro o2 ol2 oc2 r2 w ex2 _ H
  refine sSt2 H (h:=?_);clear H;intro w _ H
  subst ex2
  refine ⟨q - 1,by omega,j+1,o2,oc2,r2,by rw [wi64_of (by omega) (by omega)];simp,by omega,?_⟩
  rw [htk,aj]
  simp only [fm1,fm2,fm3]
  exact H.sub (sc1) (fun r h=>mt h)
 rw [af] at hc
 obtain rfl:j=p.pairs.length:=by omega
 rw [ao] at H
 replace H:=H.freeze
 clear hc hjq r q
 refine ⟨_,_,_,(H.b2.at0 rfl),?_⟩
 refine ⟨fun x q w=>∃(j:Nat) (o:Option Addr) (oc:Nat) (r:Option Nat),x=(j:Int)/\j+q=p.slices.length/\Sat F w (.own 153 3 o j oc r ((p.slices.take j).flatMap Sli.dat)::.blk b27 63 (plC p a8 a10 a13 c8 c10 c13 (.slice o7 p.reports.length k7) (.slice o9 p.chunks.length k9) (.slice o14 p.pairs.length k14) (.slice o j oc) N0 N0 N0 N0)::.blk b3 63 Z::.blk b1 75 (pkC p a7 a8 a9 a10 a13 a14 a15 a16 a18 a24 a25 c7 c8 c9 c10 c13 c14 c15 c16 c18 c24 c25)::ex) (.deep [.row 2 (p.pairs.flatMap Par.dat)] [.slice o14 p.pairs.length k14]::.deep [.row 2 (p.chunks.flatMap Chk.dat)] [.slice o9 p.chunks.length k9]::.deep [.row 7 (p.reports.flatMap Rep.dat)] [.slice o7 p.reports.length k7]::R),⟨p.slices.length,0,none,0,none,rfl,by omega,H.nilOwn 153 3⟩,?_⟩
 clear H;rintro dd3 x q w ⟨j,o15,k15,r,rfl,hjq,H⟩
 refine ⟨fun hc=>?_,fun hc=>?_⟩
 ·rw [ah] at hc
  have hjl:j < p.slices.length:=by omega
  obtain ⟨pp,us,e,hus,hcell,H1⟩:=H.eltF Sli.dat_lenK (by decide) (mt (mt (mt m15))) (j:=j) hjl
  have htk:p.slices.take (j+1)=p.slices.take j++[p.slices[j]]:=by rw [am,ai hjl];rfl
  clear H
  generalize p.slices[j]=D at H1 htk
  obtain ⟨d0,d1,d2⟩:=D
  refine ⟨pp,e,by omega,by omega,?_⟩
  obtain rfl:=H1.ones (us:=[.int .u16 d0,.int .u16 d1,.int .u8 d2]) ms
  refine ⟨_,_,_,LdC [.int .u16 d0,.int .u16 d1,.int .u8 d2] (by kernel_rfl) (by rw [show (j:Int).toNat*3=j*3 by omega];exact hcell),?_⟩
  have H:=H1
  clear H1 hcell
  refine sNew H ?_;clear H;intro b4 w _ H
  refine sSw0 H (h:=?_);clear H;intro w _ H
  refine ⟨_,_,_,(H.b2.at0 rfl),?_⟩
  refine ⟨_,_,_,H.b0.ld,?_⟩
  refine ⟨rfl,?_⟩
  refine sPush1 H (bytes:=6) (nds:=(Sli.dat (d0,d1,d2))) (hD:=(fun G h=>DeepL.ones [_,_,_])) (hK:=?_)
  clear H;intro o2 ol2 oc2 r2 w ex2 _ H
  refine sSt2 H (h:=?_);clear H;intro w _ H
  subst ex2
  refine ⟨q - 1,by omega,j+1,o2,oc2,r2,by rw [wi64_of (by omega) (by omega)];simp,by omega,?_⟩
  rw [htk,aj]
  simp only [fm1,fm2,fm3]
  exact H.sub (sc1) (fun r h=>mt h)
 rw [af] at hc
 obtain rfl:j=p.slices.length:=by omega
 rw [ao] at H
 replace H:=H.freeze
 clear hc hjq r q
 refine ⟨_,_,_,(H.b2.at0 rfl),?_⟩
 refine ⟨fun x q w=>∃(j:Nat) (o:Option Addr) (oc:Nat) (r:Option Nat),x=(j:Int)/\j+q=p.entries.length/\Sat F w (.own 155 2 o j oc r ((p.entries.take j).flatMap Ent.dat)::.blk b27 63 (plC p a8 a10 a13 c8 c10 c13 (.slice o7 p.reports.length k7) (.slice o9 p.chunks.length k9) (.slice o14 p.pairs.length k14) (.slice o15 p.slices.length k15) (.slice o j oc) N0 N0 N0)::.blk b3 63 Z::.blk b1 75 (pkC p a7 a8 a9 a10 a13 a14 a15 a16 a18 a24 a25 c7 c8 c9 c10 c13 c14 c15 c16 c18 c24 c25)::ex) (.deep [.row 3 (p.slices.flatMap Sli.dat)] [.slice o15 p.slices.length k15]::.deep [.row 2 (p.pairs.flatMap Par.dat)] [.slice o14 p.pairs.length k14]::.deep [.row 2 (p.chunks.flatMap Chk.dat)] [.slice o9 p.chunks.length k9]::.deep [.row 7 (p.reports.flatMap Rep.dat)] [.slice o7 p.reports.length k7]::R),⟨p.entries.length,0,none,0,none,rfl,by omega,H.nilOwn 155 2⟩,?_⟩
 clear H;rintro dd4 x q w ⟨j,o16,k16,r,rfl,hjq,H⟩
 refine ⟨fun hc=>?_,fun hc=>?_⟩
 ·rw [ah] at hc
  have hjl:j < p.entries.length:=by omega
  obtain ⟨pp,us,e,hus,hcell,H1⟩:=H.eltF Ent.dat_lenK (by decide) (mt (mt (mt (mt m16)))) (j:=j) hjl
  have htk:p.entries.take (j+1)=p.entries.take j++[p.entries[j]]:=by rw [am,ai hjl];rfl
  clear H
  generalize p.entries[j]=D at H1 htk
  obtain ⟨d0,d1⟩:=D
  refine ⟨pp,e,by omega,by omega,?_⟩
  obtain rfl:=H1.ones (us:=[.int .u32 d0,.int .u8 d1]) ms
  refine ⟨_,_,LdC [.int .u32 d0,.int .u8 d1] (by kernel_rfl) (by rw [show (j:Int).toNat*2=j*2 by omega];exact hcell),?_⟩
  have H:=H1
  clear H1 hcell
  refine sNew H ?_;clear H;intro b4 w _ H
  refine sSw0 H (h:=?_);clear H;intro w _ H
  refine ⟨_,_,_,(H.b2.at0 rfl),?_⟩
  refine ⟨_,_,H.b0.ld,?_⟩
  refine ⟨rfl,?_⟩
  refine sPush1 H (bytes:=8) (nds:=(Ent.dat (d0,d1))) (hD:=(fun G h=>DeepL.ones [_,_])) (hK:=?_)
  clear H;intro o2 ol2 oc2 r2 w ex2 _ H
  refine sSt2 H (h:=?_);clear H;intro w _ H
  subst ex2
  refine ⟨q - 1,by omega,j+1,o2,oc2,r2,by rw [wi64_of (by omega) (by omega)];simp,by omega,?_⟩
  rw [htk,aj]
  simp only [fm1,fm2,fm3]
  exact H.sub (sc1) (fun r h=>mt h)
 rw [af] at hc
 obtain rfl:j=p.entries.length:=by omega
 rw [ao] at H
 replace H:=H.freeze
 clear hc hjq r q
 refine ⟨_,_,_,(H.b2.at0 rfl),?_⟩
 refine ⟨fun x q w=>∃(j:Nat) (o:Option Addr) (oc:Nat) (r:Option Nat),x=(j:Int)/\j+q=p.blocks.length/\Sat F w (.own 158 3 o j oc r ((p.blocks.take j).flatMap Blo.dat)::.blk b27 63 (plC p a8 a10 a13 c8 c10 c13 (.slice o7 p.reports.length k7) (.slice o9 p.chunks.length k9) (.slice o14 p.pairs.length k14) (.slice o15 p.slices.length k15) (.slice o16 p.entries.length k16) (.slice o j oc) N0 N0)::.blk b3 63 Z::.blk b1 75 (pkC p a7 a8 a9 a10 a13 a14 a15 a16 a18 a24 a25 c7 c8 c9 c10 c13 c14 c15 c16 c18 c24 c25)::ex) (.deep [.row 2 (p.entries.flatMap Ent.dat)] [.slice o16 p.entries.length k16]::.deep [.row 3 (p.slices.flatMap Sli.dat)] [.slice o15 p.slices.length k15]::.deep [.row 2 (p.pairs.flatMap Par.dat)] [.slice o14 p.pairs.length k14]::.deep [.row 2 (p.chunks.flatMap Chk.dat)] [.slice o9 p.chunks.length k9]::.deep [.row 7 (p.reports.flatMap Rep.dat)] [.slice o7 p.reports.length k7]::R),⟨p.blocks.length,0,none,0,none,rfl,by omega,H.nilOwn 158 3⟩,?_⟩
 clear H;rintro dd5 x q w ⟨j,o18,k18,r,rfl,hjq,H⟩
 refine ⟨fun hc=>?_,fun hc=>?_⟩
 ·rw [ah] at hc
  have hjl:j < p.blocks.length:=by omega
  obtain ⟨pp,us,e,hus,hcell,H1⟩:=H.eltF Blo.dat_len' (by decide) (mt (mt (mt (mt (mt m18))))) (j:=j) hjl
  have htk:p.blocks.take (j+1)=p.blocks.take j++[p.blocks[j]]:=by rw [am,ai hjl];rfl
  have hDm:=hbm p.blocks[j] (ax hjl)
  clear H
  generalize p.blocks[j]=D at H1 htk hDm
  obtain ⟨d0,d1,msz⟩:=D
  replace hDm:msz.length<=bsz p.blocks:=hDm
  refine ⟨pp,e,by omega,by omega,?_⟩
  obtain ⟨x0,us0,rfl,H2⟩:=H1.uncons ms
  obtain ⟨x1,us1,rfl,H3⟩:=H2.uncons (mt ms)
  obtain ⟨x2,us2,rfl,H4⟩:=H3.uncons (mt ms)
  obtain rfl:us2=[]:=by simpa using hus
  obtain rfl:=H2.one1 ms
  obtain rfl:=H3.one1 ms
  obtain ⟨sa,sn,sc,rfl,hsl2⟩:=H4.rowS ms
  rw [flat_len Met.dat_len'] at hsl2
  obtain rfl:sn=msz.length:=by omega
  refine ⟨_,_,_,_,_,LdC [.int .u32 d0,.int .u16 d1,.slice sa msz.length sc] (by kernel_rfl) (by rw [show (j:Int).toNat*3=j*3 by omega];exact hcell),?_⟩
  have H:Sat F w _ (.deep [.row 3 (msz.flatMap Met.dat)] [.slice sa msz.length sc]::(.deep [.row 2 (p.entries.flatMap Ent.dat)] [.slice o16 p.entries.length k16]::.deep [.row 3 (p.slices.flatMap Sli.dat)] [.slice o15 p.slices.length k15]::.deep [.row 2 (p.pairs.flatMap Par.dat)] [.slice o14 p.pairs.length k14]::.deep [.row 2 (p.chunks.flatMap Chk.dat)] [.slice o9 p.chunks.length k9]::.deep [.row 7 (p.reports.flatMap Rep.dat)] [.slice o7 p.reports.length k7]::R)):=H4.sub (ak _) (fun r h=>by
   rcases aI.1 h with rfl | h
   ·exact ms
   ·exact (mt (mt (mt (mt (mt (mt (mt h))))))))
  clear hcell H1 H2 H3 H4
  refine sNew H ?_;clear H;intro b13 w _ H
  refine sSw0 H (h:=?_);clear H;intro w _ H
  refine ⟨_,(H.b0.at0 rfl),?_⟩
  refine ⟨_,(H.b0.at0 rfl),?_⟩
  refine sNew H ?_;clear H;intro b18 w _ H
  refine sSw0 H (h:=?_);clear H;intro w _ H
  refine ⟨_,_,_,(H.b1.at0 rfl),?_⟩
  refine ⟨fun x m2 w=>∃(i:Nat) (o2:Option Addr) (oc2:Nat) (r2:Option Nat),x=(i:Int)/\i+m2=msz.length/\Sat F w (.own 160 3 o2 i oc2 r2 ((msz.take i).flatMap Met.dat)::.blk b18 158 [.int .u32 d0,.int .u16 d1,.slice o2 i oc2]::.blk b13 176 [.int .u32 d0,.int .u16 d1,.slice sa msz.length sc]::.own 158 3 o18 j k18 r ((p.blocks.take j).flatMap Blo.dat)::.blk b27 63 (plC p a8 a10 a13 c8 c10 c13 (.slice o7 p.reports.length k7) (.slice o9 p.chunks.length k9) (.slice o14 p.pairs.length k14) (.slice o15 p.slices.length k15) (.slice o16 p.entries.length k16) (.slice o18 j k18) N0 N0)::.blk b3 63 Z::.blk b1 75 (pkC p a7 a8 a9 a10 a13 a14 a15 a16 a18 a24 a25 c7 c8 c9 c10 c13 c14 c15 c16 c18 c24 c25)::ex) (.deep [.row 3 (msz.flatMap Met.dat)] [.slice sa msz.length sc]::(.deep [.row 2 (p.entries.flatMap Ent.dat)] [.slice o16 p.entries.length k16]::.deep [.row 3 (p.slices.flatMap Sli.dat)] [.slice o15 p.slices.length k15]::.deep [.row 2 (p.pairs.flatMap Par.dat)] [.slice o14 p.pairs.length k14]::.deep [.row 2 (p.chunks.flatMap Chk.dat)] [.slice o9 p.chunks.length k9]::.deep [.row 7 (p.reports.flatMap Rep.dat)] [.slice o7 p.reports.length k7]::R)),⟨msz.length,0,none,0,none,rfl,by omega,H.nilOwn 160 3⟩,?_⟩
  clear H;rintro dd23 x m2 w ⟨i,o2,oc2,r2,rfl,him,H⟩
  refine ⟨fun hc=>?_,fun hc=>?_⟩
  ·rw [ah] at hc
   have hil:i < msz.length:=by omega
   obtain ⟨p2,us,eq2,hus2,hcell,H1⟩:=H.eltF Met.dat_len' (by decide) ms (j:=i) hil
   have htk2:msz.take (i+1)=msz.take i++[msz[i]]:=by rw [am,ai hil];rfl
   clear H
   generalize msz[i]=E at H1 htk2
   obtain ⟨e0,e1,e2⟩:=E
   refine ⟨p2,eq2,by omega,by omega,?_⟩
   obtain rfl:=H1.ones (us:=[.bool e0,.int .u8 e1,.int .u16 e2]) ms
   refine ⟨_,_,_,LdC [.bool e0,.int .u8 e1,.int .u16 e2] (by kernel_rfl) (by rw [show (i:Int).toNat*3=i*3 by omega];exact hcell),?_⟩
   have H:=H1
   clear H1 hcell
   refine sNew H ?_;clear H;intro b33 w _ H
   refine sSw0 H (h:=?_);clear H;intro w _ H
   refine ⟨_,_,_,(H.b2.at0 rfl),?_⟩
   refine ⟨_,_,_,H.b0.ld,?_⟩
   refine ⟨rfl,?_⟩
   refine sPush1 H (bytes:=4) (nds:=(Met.dat (e0,e1,e2))) (hD:=(fun G h=>DeepL.ones [_,_,_])) (hK:=?_)
   clear H;intro o3 ol3 oc3 r3 w ex3 _ H
   refine sSt2 H (h:=?_);clear H;intro w _ H
   subst ex3
   refine ⟨m2 - 1,by omega,i+1,o3,oc3,r3,by rw [wi64_of (by omega) (by omega)];simp,by omega,?_⟩
   rw [htk2,aj]
   simp only [fm1,fm2,fm3]
   exact H.sub (sc1) (fun r h=>mt h)
  ·rw [af] at hc
   obtain rfl:i=msz.length:=by omega
   rw [ao] at H
   replace H:=H.freeze
   refine ⟨_,_,_,(H.b3.at0 rfl),?_⟩
   refine ⟨_,_,_,_,_,H.b0.ld,?_⟩
   refine ⟨rfl,?_⟩
   refine sPush2 H (bytes:=32) (nds:=(Blo.dat (d0,d1,msz))) (hD:=(fun G h=>dc (.one _) (dc (.one _) (dc (h (.deep [_] [_]) ms).head dn)))) (hK:=?_)
   clear H;intro o2 ol2 oc2 r2 w ex2 _ H
   refine sSt3 H (h:=?_);clear H;intro w _ H
   subst ex2
   refine ⟨q - 1,by omega,j+1,o2,oc2,r2,by rw [wi64_of (by omega) (by omega)];simp,by omega,?_⟩
   rw [htk,aj]
   simp only [fm1,fm2,fm3]
   exact H.sub ((sc1).trans (sc1)) (fun r h=>mt (mt h))
 rw [af] at hc
 obtain rfl:j=p.blocks.length:=by omega
 rw [ao] at H
 replace H:=H.freeze
 clear hc hjq r q
 refine ⟨_,_,_,(H.b2.at0 rfl),?_⟩
 refine ⟨fun x q w=>∃(j:Nat) (o:Option Addr) (oc:Nat) (r:Option Nat),x=(j:Int)/\j+q=p.statuses.length/\Sat F w (.own 163 5 o j oc r ((p.statuses.take j).flatMap Sta.dat)::.blk b27 63 (plC p a8 a10 a13 c8 c10 c13 (.slice o7 p.reports.length k7) (.slice o9 p.chunks.length k9) (.slice o14 p.pairs.length k14) (.slice o15 p.slices.length k15) (.slice o16 p.entries.length k16) (.slice o18 p.blocks.length k18) (.slice o j oc) N0)::.blk b3 63 Z::.blk b1 75 (pkC p a7 a8 a9 a10 a13 a14 a15 a16 a18 a24 a25 c7 c8 c9 c10 c13 c14 c15 c16 c18 c24 c25)::ex) (.deep [.row 3 (p.blocks.flatMap Blo.dat)] [.slice o18 p.blocks.length k18]::.deep [.row 2 (p.entries.flatMap Ent.dat)] [.slice o16 p.entries.length k16]::.deep [.row 3 (p.slices.flatMap Sli.dat)] [.slice o15 p.slices.length k15]::.deep [.row 2 (p.pairs.flatMap Par.dat)] [.slice o14 p.pairs.length k14]::.deep [.row 2 (p.chunks.flatMap Chk.dat)] [.slice o9 p.chunks.length k9]::.deep [.row 7 (p.reports.flatMap Rep.dat)] [.slice o7 p.reports.length k7]::R),⟨p.statuses.length,0,none,0,none,rfl,by omega,H.nilOwn 163 5⟩,?_⟩
 clear H;rintro dd6 x q w ⟨j,o24,k24,r,rfl,hjq,H⟩
 refine ⟨fun hc=>?_,fun hc=>?_⟩
 ·rw [ah] at hc
  have hjl:j < p.statuses.length:=by omega
  obtain ⟨pp,us,e,hus,hcell,H1⟩:=H.eltF Sta.dat_lenK (by decide) (mt (mt (mt (mt (mt (mt m24)))))) (j:=j) hjl
  have htk:p.statuses.take (j+1)=p.statuses.take j++[p.statuses[j]]:=by rw [am,ai hjl];rfl
  clear H
  generalize p.statuses[j]=D at H1 htk
  obtain ⟨V,d0,d1,d2,dl⟩:=D
  refine ⟨pp,e,by omega,by omega,?_⟩
  obtain ⟨la,lc,rfl,H2⟩:=H1.sta5 ms
  refine ⟨_,_,_,_,_,_,_,LdC [.bool V,.int .u16 d0,.int .u16 d1,.int .u16 d2,.slice la dl.length lc] (by kernel_rfl) (by rw [show (j:Int).toNat*5=j*5 by omega];exact hcell),?_⟩
  have H:=H2
  clear H1 H2 hcell
  refine sNew H ?_;clear H;intro b4 w _ H
  refine sSw0 H (h:=?_);clear H;intro w _ H
  refine ⟨_,_,_,(H.b2.at0 rfl),?_⟩
  refine ⟨_,_,_,_,_,_,_,H.b0.ld,?_⟩
  refine ⟨rfl,?_⟩
  refine sPush1 H (bytes:=32) (nds:=(Sta.dat (V,d0,d1,d2,dl))) (hD:=(fun G h=>dc (.one _) (dc (.one _) (dc (.one _) (dc (.one _) (dc (h (.deep [_] [_]) ms).head dn)))))) (hK:=?_)
  clear H;intro o2 ol2 oc2 r2 w ex2 _ H
  refine sSt2 H (h:=?_);clear H;intro w _ H
  subst ex2
  refine ⟨q - 1,by omega,j+1,o2,oc2,r2,by rw [wi64_of (by omega) (by omega)];simp,by omega,?_⟩
  rw [htk,aj]
  simp only [fm1,fm2,fm3]
  exact H.sub (sc1) (fun r h=>mt (mt h))
 rw [af] at hc
 obtain rfl:j=p.statuses.length:=by omega
 rw [ao] at H
 replace H:=H.freeze
 clear hc hjq r q
 refine ⟨_,_,_,(H.b2.at0 rfl),?_⟩
 refine ⟨fun x q w=>∃(j:Nat) (o:Option Addr) (oc:Nat) (r:Option Nat),x=(j:Int)/\j+q=p.deltas.length/\Sat F w (.own 165 2 o j oc r ((p.deltas.take j).flatMap Del.dat)::.blk b27 63 (plC p a8 a10 a13 c8 c10 c13 (.slice o7 p.reports.length k7) (.slice o9 p.chunks.length k9) (.slice o14 p.pairs.length k14) (.slice o15 p.slices.length k15) (.slice o16 p.entries.length k16) (.slice o18 p.blocks.length k18) (.slice o24 p.statuses.length k24) (.slice o j oc))::.blk b3 63 Z::.blk b1 75 (pkC p a7 a8 a9 a10 a13 a14 a15 a16 a18 a24 a25 c7 c8 c9 c10 c13 c14 c15 c16 c18 c24 c25)::ex) (.deep [.row 5 (p.statuses.flatMap Sta.dat)] [.slice o24 p.statuses.length k24]::.deep [.row 3 (p.blocks.flatMap Blo.dat)] [.slice o18 p.blocks.length k18]::.deep [.row 2 (p.entries.flatMap Ent.dat)] [.slice o16 p.entries.length k16]::.deep [.row 3 (p.slices.flatMap Sli.dat)] [.slice o15 p.slices.length k15]::.deep [.row 2 (p.pairs.flatMap Par.dat)] [.slice o14 p.pairs.length k14]::.deep [.row 2 (p.chunks.flatMap Chk.dat)] [.slice o9 p.chunks.length k9]::.deep [.row 7 (p.reports.flatMap Rep.dat)] [.slice o7 p.reports.length k7]::R),⟨p.deltas.length,0,none,0,none,rfl,by omega,H.nilOwn 165 2⟩,?_⟩
 clear H;rintro dd7 x q w ⟨j,o25,k25,r,rfl,hjq,H⟩
 refine ⟨fun hc=>?_,fun hc=>?_⟩
 ·rw [ah] at hc
  have hjl:j < p.deltas.length:=by omega
  obtain ⟨pp,us,e,hus,hcell,H1⟩:=H.eltF Del.dat_lenK (by decide) (mt (mt (mt (mt (mt (mt (mt m25))))))) (j:=j) hjl
  have htk:p.deltas.take (j+1)=p.deltas.take j++[p.deltas[j]]:=by rw [am,ai hjl];rfl
  clear H
  generalize p.deltas[j]=D at H1 htk
  obtain ⟨d0,d1⟩:=D
  refine ⟨pp,e,by omega,by omega,?_⟩
  obtain rfl:=H1.ones (us:=[.int .u16 d0,.int .i64 d1]) ms
  refine ⟨_,_,LdC [.int .u16 d0,.int .i64 d1] (by kernel_rfl) (by rw [show (j:Int).toNat*2=j*2 by omega];exact hcell),?_⟩
  have H:=H1
  clear H1 hcell
  refine sNew H ?_;clear H;intro b4 w _ H
  refine sSw0 H (h:=?_);clear H;intro w _ H
  refine ⟨_,_,_,(H.b2.at0 rfl),?_⟩
  refine ⟨_,_,H.b0.ld,?_⟩
  refine ⟨rfl,?_⟩
  refine sPush1 H (bytes:=16) (nds:=(Del.dat (d0,d1))) (hD:=(fun G h=>DeepL.ones [_,_])) (hK:=?_)
  clear H;intro o2 ol2 oc2 r2 w ex2 _ H
  refine sSt2 H (h:=?_);clear H;intro w _ H
  subst ex2
  refine ⟨q - 1,by omega,j+1,o2,oc2,r2,by rw [wi64_of (by omega) (by omega)];simp,by omega,?_⟩
  rw [htk,aj]
  simp only [fm1,fm2,fm3]
  exact H.sub (sc1) (fun r h=>mt h)
 rw [af] at hc
 obtain rfl:j=p.deltas.length:=by omega
 rw [ao] at H
 replace H:=H.freeze
 clear hc hjq r q
 refine ⟨_,Ld0 rfl H.b0 (by kernel_rfl),?_⟩
 rw [hZ] at H
 refine sSw1 H (h:=?_);clear H;intro w _ H
 refine ⟨_,Ld0 rfl H.b1 (by kernel_rfl),?_⟩
 exact ⟨_,_,rfl,fun r h=>mt (mt (mt (mt (mt (mt (mt (mt (mt (hr r h))))))))),(H.addD (ds:=p.dat) (fun G h=>dc (.one _) (dc (.one _) (dc (.one _) (dc (.one _) (dc (.one _) (dc (.one _) (dc (.one _) (dc (h (.deep [_] [_]) (mt (mt (mt (mt (mt (mt (mt ms)))))))).head (dc (h (.deep [_] [_]) (mt (mt (mt (mt (mt (mt (mt (mt m8))))))))).head (dc (h (.deep [_] [_]) (mt (mt (mt (mt (mt (mt ms))))))).head (dc (h (.deep [_] [_]) (mt (mt (mt (mt (mt (mt (mt (mt m10))))))))).head (dc (.one _) (dc (.one _) (dc (h (.deep [_] [_]) (mt (mt (mt (mt (mt (mt (mt (mt m13))))))))).head (dc (h (.deep [_] [_]) (mt (mt (mt (mt (mt ms)))))).head (dc (h (.deep [_] [_]) (mt (mt (mt (mt ms))))).head (dc (h (.deep [_] [_]) (mt (mt (mt ms)))).head (dc (.one _) (dc (h (.deep [_] [_]) (mt (mt ms))).head (dc (.one _) (dc (.one _) (dc (.one _) (dc (.one _) (dc (.one _) (dc (h (.deep [_] [_]) (mt ms)).head (dc (h (.deep [_] [_]) ms).head (dc (.one _) (dc (.one _) (dc (.one _) (dc (.one _) dn))))))))))))))))))))))))))))))).sub sl1 (fun _ h=>h),ms⟩
end Go.Proofs.YtkdialecadjedaaGreatDoor
