/- A part of a proof, joined by a program out of smaller texts (conditions: those that each theorem names). -/
import Derived.Test.YtkdialecadjedaaGreatDoorC2
namespace Go.Proofs.YtkdialecadjedaaGreatDoor
set_option linter.unusedVariables false
set_option linter.unusedSimpArgs false
set_option linter.unusedSectionVars false
set_option maxRecDepth 100000
set_option maxHeartbeats 8000000
open Go IntKind
variable {P:Program} {w w' W:World} {n c b k m i j o g M sz bytes p1 p3:Nat} {t ty T e:TypeId} {a l:Option Addr} {v c0 c1:Value} {xs ys A:List Int} {cells vs:List Value} {r:Option Nat} {f:FuncId} {s x:Int} {G:Nat->Prop} {K:Option Addr->Nat->Nat->World->Prop} {Q:Value->Prop} {R:Ending->World->Prop} {F:Fr} {ex exs:List Ex} {ro ro':List Ro} {e0 e1 e2:Ex} {ds:List Dat} {d:Dat} {p:Pk} {L:List Pk}
theorem c177 {c2 c3:Value} (H:Sat F w (.blk b T [c0,c1,c2,c3]::ex) ro)
  (hx:Ro.B xs a n c∈ro) (hb:By xs) (hE:ErrC (gd xs=none) ro) (hd:Hd xs 204 (hC xs)) (hn:n<=1000000):Calls pg 177 #[.pointer (some ⟨b,0,none⟩),.slice a n c] w (UPost F b T 4 ex ro (gd xs)):=by
 apply of177
 have hlen:=H.lenB hx
 have hk:kindOf (hT xs) (hC xs)=5:=by rw [hd.typ];rfl
 have hU:rdBody xs=if (xs.drop 4).length < 8 then none else some { kind:=5,sender:=n32 (xs.drop 4),text:=strOfNums (((xs.drop 4).drop 4).take 4),sub:=hC xs,data:=(xs.drop 4).drop 8 }:=by
  unfold rdBody;simp only [hk];rw [ap (by decide),ap (by decide),ap (by decide),ap (by decide),aG trivial]
 rw [az,aJ,aJ] at hU
 have hLn:=hd.len
 rw [hlen] at hLn
 have hnc:n<=c:=(H.deep1 hx).len.2.1
 refine sNew H ?_;clear H;intro b1 w _ H
 refine sSw0 H (h:=?_);clear H;intro w _ H
 refine call_j (c55 H hx hb hd.ok) ?_
 rintro _ w ⟨rfl,H⟩
 refine ⟨_,rfl,by simp [isIf],fun h=>absurd h (by decide),fun _=>?_⟩
 refine ⟨fun hc=>?_,fun hc=>?_⟩
 ·rw [ah] at hc
  exact uErr H (sc1) (fun _ h=>h) hE rfl (gd_none (by rw [hU,aG (by omega)])) (by decide)
 rw [af] at hc
 refine ⟨_,(H.b0.at0 rfl),?_⟩
 rw [wi64_of (n:=hL xs) (by omega) (by omega),wi64_of (n:=hL xs+1) (by omega) (by omega),wi64_of (n:=(hL xs+1)*4) (by omega) (by omega),show (hL xs+1)*4=(n:Int) by omega]
 refine ⟨fun h=>absurd h (by simp),fun _=>?_⟩
 refine ⟨_,(H.b0.at0 rfl),?_⟩
 refine ⟨_,rfl,?_⟩
 refine sSt1 H (h:=?_);clear H;intro w _ H
 refine ⟨by omega,by omega,?_⟩
 refine ⟨by omega,by omega,?_⟩
 have H4:=H.cutB hx 4 8 (by omega) (by omega)
 refine call_j (c150 (Sat.rd H4 ms) ((hb.drop 4).take _) (by omega)) ?_
 clear H4
 rintro _ w ⟨rfl,g⟩
 have e32:n32 ((xs.drop 4).take (8 - 4))=n32 (xs.drop 4):=n32_takem (by decide)
 rw [e32]
 replace H:=H.grow g;clear g
 refine ⟨_,rfl,?_⟩
 refine ⟨_,rfl,?_⟩
 refine sSt1 H (h:=?_);clear H;intro w _ H
 refine ⟨by omega,by omega,?_⟩
 refine ⟨by omega,by omega,?_⟩
 have H8:=H.cutB hx 8 12 (by omega) (by omega)
 refine ⟨_,_,sStr H8 ms uSl uU8 uStr,?_⟩
 clear H8
 refine ⟨_,rfl,?_⟩
 refine sSt1 H (h:=?_);clear H;intro w _ H
 refine ⟨_,(H.b0.at0 rfl),?_⟩
 have hrest:∀pd:Nat,pd<=n - 12->(pd=0\/hP xs=true)->∃p_24,some (⟨b,0,none⟩:Addr)=some p_24/\∃w_25,StV pg 22 (p_24.add 3) (.slice (cutA a 12 c 1) (n - pd - 12) (c - 12)) w w_25/\UPost F b T 4 ex ro (gd xs) (.returned .nilIface) w_25:=by
  intro pd hpd hpz
  have hnn:(n - pd) - 12=n - pd - 12:=rfl
  refine ⟨_,rfl,?_⟩
  refine sSt1 H (h:=?_);clear H;intro w _ H
  have H2:=H.cutB hx 12 (n - pd) (by omega) (by omega)
  refine uOk (cells:=[.int .u8 (hC xs),.int .u32 (n32 (xs.drop 4)),.string (strOfNums ((xs.drop 8).take (12 - 8))),.slice (cutA a 12 c 1) (n - pd - 12) (c - 12)]) H2 (sc1) (fun r hr=>by simp [hr]) rfl ?_
  intro p hp
  obtain ⟨hpf,hp⟩:=gd_some hp
  rw [hU,ap (by omega)] at hp
  cases hp
  have hp0:pd=0:=by
   rcases hpz with h | h
   ·exact h
   ·rw [hpf] at h;cases h
  subst hp0
  intro G h
  have h1:=(h (.deep [_] [_]) ms).head
  refine dc (.one _) (dc (.one _) (dc (.one _) (dc ?_ dn)))
  have et:(xs.drop 12).take (n - 0 - 12)=xs.drop 12:=bA (by rw [az];omega)
  rw [et] at h1
  exact h1
 cases hpp:hP xs with
 | true=>
  rw [hpp] at H hrest
  refine fT ?_
  have e1:i64.wrap (((n:Nat):Int) - (1:Int))=((n - 1:Nat):Int):=by rw [wi64_of (by omega) (by omega)];omega
  have e12:i64.wrap (((n:Nat):Int) - (12:Int))=((n - 12:Nat):Int):=by rw [wi64_of (by omega) (by omega)];omega
  rw [e1]
  obtain ⟨p_21,ep_21,hp_21,_,_⟩:=H.at_ (a:=a) hx (by omega)
  refine ⟨p_21,ep_21,by omega,by omega,?_⟩
  refine ⟨_,(by rw [au,bd];exact hp_21 (n - 1) (by omega)),?_⟩
  have hl:=hb.getD (n - 1)
  generalize xs.getD (n - 1) 0=y at hl ⊢
  obtain ⟨pd,rfl⟩:=br hl.1
  rw [wi64_of (n:=(pd:Int)) (by omega) (by omega),e12]
  refine ⟨fun h=>?_,fun h=>?_⟩
  ·rw [ah] at h
   exact uErr (cells:=[.int .u8 (hC xs),.int .u32 (n32 (xs.drop 4)),.string (strOfNums ((xs.drop 8).take (12 - 8))),c3]) H (sc1) (fun _ h=>h) hE rfl (by unfold gd;rw [hpp];rfl) (by decide)
  ·rw [af] at h
   have e3:i64.wrap (((n:Nat):Int) - (pd:Int))=((n - pd:Nat):Int):=by rw [wi64_of (by omega) (by omega)];omega
   rw [e3,au]
   refine ⟨by omega,by omega,?_⟩
   refine ⟨by omega,by omega,?_⟩
   exact hrest pd (by omega) (.inr rfl)
 | false=>
  refine fF ?_
  have e3:i64.wrap (((n:Nat):Int) - (0:Int))=((n - 0:Nat):Int):=by rw [wi64_of (by omega) (by omega)];omega
  rw [e3,au]
  refine ⟨by omega,by omega,?_⟩
  refine ⟨by omega,by omega,?_⟩
  exact hrest 0 (by omega) (.inl rfl)

/-! ### Bytes that are being written -/
def u8s (l:List Int):List Value:=l.map (Value.int .u8)
theorem u8s_length (l:List Int):(u8s l).length=l.length:=by simp [u8s]
def pre (ys:List Int) (k N:Nat):List Int:=ys.take k++List.replicate (N - k) 0
theorem pre_length {N:Nat} (h:k<=N) (hy:N<=ys.length):(pre ys k N).length=N:=by simp [pre];omega
theorem pre_zero (ys:List Int) (N:Nat):pre ys 0 N=List.replicate N 0:=by simp [pre]
theorem pre_set {N:Nat} (h:k < N) (hy:N<=ys.length):(pre ys k N).set k (ys.getD k 0)=pre ys (k+1) N:=by
 unfold pre
 have hl:(ys.take k).length=k:=by simp;omega
 have ht:ys.take (k+1)=ys.take k++[ys[k]'(by omega)]:=by rw [am,ai (show k < ys.length by omega)];rfl
 rw [List.set_append_right _ _ (by omega),hl,Nat.sub_self,ht]
 obtain ⟨q,hq⟩:∃q,N - k=q+1:=⟨N - k - 1,by omega⟩
 rw [hq,List.replicate_succ,List.set_cons_zero,show N - (k+1)=q by omega,an,List.singleton_append]
 congr 2
 simp [List.getD,ai (show k < ys.length by omega)]
theorem pre_full {N:Nat} (hN:N=ys.length) (hk:k<=N) (hz:(ys.drop k).all (· == 0)=true):pre ys k N=ys:=by
 unfold pre
 have:ys.drop k=List.replicate (N - k) 0:=by
  rw [List.eq_replicate_iff]
  refine ⟨by simp [hN],fun x hx=>?_⟩
  have:=ch.1 hz x hx
  simpa using this
 rw [<-this,ck]
theorem sStB {l:List Int} (H:Sat F w (.blk g t (u8s l)::ex) ro) {a:Addr} {K:World->Prop} (ha:a=⟨g,i,none⟩) (hi:i < l.length)
  (h:∀w',w.grownBy w' (some g)->Sat F w' (.blk g t (u8s (l.set i x))::ex) ro->K w'):∃w',StV pg 5 a (.int .u8 x) w w'/\K w':=by
 refine sSt0 H ha (by kernel_rfl) ?_ (by rfl) ?_
 ·rw [u8s_length]
  exact Nat.ble_eq_true_of_le (show i+1<=l.length by omega)
 ·intro w' hg H1
  refine h w' hg ?_
  have e:putL (u8s l) i (Value.int .u8 x).cells.toList=u8s (l.set i x):=by
   show (u8s l).set i (Value.int .u8 x)=_
   unfold u8s
   rw [List.map_set]
  rw [e] at H1
  exact H1
theorem Sat.bcell {l:List Int} (H:Sat F w (.blk g t (u8s l)::ex) ro) {a:Addr} (ha:a=⟨g,i,none⟩) (hi:i < l.length):w.cell? a=some (.int .u8 (l.getD i 0)):=by
 subst ha
 refine H.b0.cell ?_
 unfold u8s
 rw [aW,ai hi]
 simp [List.getD,ai hi]
theorem c89 {l:List Int} (H:Sat F w (.blk g t (u8s l)::ex) ro) {v:Int} (hv:0<=v/\v < 65536) (hn:2<=n) (ho:o+2<=l.length) :
  Calls pg 89 #[.slice (some ⟨g,o,none⟩) n c,.int .u16 v] w fun en w'=>en=.returned (.tuple #[])/\Sat F w' (.blk g t (u8s ((l.set o (v / 256)).set (o+1) (v % 256)))::ex) ro:=by
 apply of89
 refine ⟨_,rfl,by omega,by omega,?_⟩
 refine ⟨_,H.bcell (i:=o+1) (by rw [add_flat];rfl) (by omega),?_⟩
 refine ⟨_,rfl,by omega,by omega,?_⟩
 rw [ishr_of (b:=(8:Int)) 8 (by rfl) (by decide),wu8,show v / 2 ^ 8 % 256=v / 256 by omega]
 refine sStB H (i:=o) (by rw [add_flat];rfl) (by omega) ?_
 clear H;intro w _ H
 refine ⟨_,rfl,by omega,by omega,?_⟩
 rw [wu8]
 refine sStB H (i:=o+1) (by rw [add_flat];rfl) (by simp;omega) ?_
 clear H;intro w _ H
 exact ⟨rfl,H⟩
theorem c144 {l:List Int} (H:Sat F w (.blk g t (u8s l)::ex) ro) {v:Int} (hv:0<=v/\v < 4294967296) (hn:4<=n) (ho:o+4<=l.length) :
  Calls pg 144 #[.slice (some ⟨g,o,none⟩) n c,.int .u32 v] w fun en w'=>en=.returned (.tuple #[])/\Sat F w' (.blk g t (u8s ((((l.set o (v / 16777216)).set (o+1) (v / 65536 % 256)).set (o+2) (v / 256 % 256)).set (o+3) (v % 256)))::ex) ro:=by
 apply of144
 refine ⟨_,rfl,by omega,by omega,?_⟩
 refine ⟨_,H.bcell (i:=o+3) (by rw [add_flat];rfl) (by omega),?_⟩
 refine ⟨_,rfl,by omega,by omega,?_⟩
 rw [ishr_of (b:=(24:Int)) 24 (by rfl) (by decide),wu8,show v / 2 ^ 24 % 256=v / 16777216 by omega]
 refine sStB H (i:=o) (by rw [add_flat];rfl) (by omega) ?_
 clear H;intro w _ H
 refine ⟨_,rfl,by omega,by omega,?_⟩
 rw [ishr_of (b:=(16:Int)) 16 (by rfl) (by decide),wu8,show v / 2 ^ 16 % 256=v / 65536 % 256 by omega]
 refine sStB H (i:=o+1) (by rw [add_flat];rfl) (by simp;omega) ?_
 clear H;intro w _ H
 refine ⟨_,rfl,by omega,by omega,?_⟩
 rw [ishr_of (b:=(8:Int)) 8 (by rfl) (by decide),wu8,show v / 2 ^ 8 % 256=v / 256 % 256 by omega]
 refine sStB H (i:=o+2) (by rw [add_flat];rfl) (by simp;omega) ?_
 clear H;intro w _ H
 refine ⟨_,rfl,by omega,by omega,?_⟩
 rw [wu8]
 refine sStB H (i:=o+3) (by rw [add_flat];rfl) (by simp;omega) ?_
 clear H;intro w _ H
 exact ⟨rfl,H⟩
/-! ### Numbers -/
theorem c199 {src val q size start:Int} (k:Nat) (hk:(k:Int)+size+start=16) (hsz:(size=1/\m=2)\/(size=2/\m=4)\/(size=13/\m=8192)) (hst:0<=start) (hs:src=q*(m*2 ^ k)) (hq:0<=q/\src+m*2 ^ k<=65536) (hv:0<=val/\val < m) :
  Calls pg 199 #[.int .u16 src,.int .u16 size,.int .u16 start,.int .u16 val] w fun en w'=>en=.returned (.tuple #[.int .u16 (src+val*2 ^ k),.nilIface])/\w.grownBy w' none:=by
 apply of199
 refine ⟨fun hc=>?_,fun hc=>?_⟩
 ·rw [ah,wu16] at hc;omega
 have ek:u16.wrap ((u16.wrap ((16:Int) - size)) - start)=(k:Int):=by rw [wu16,wu16];omega
 have hk16:k<=15:=by omega
 have hp:(0:Int) < 2 ^ k:=Int.pow_pos (by omega)
 have hv2:val*2 ^ k < m*2 ^ k:=Int.mul_lt_mul_of_pos_right hv.2 hp
 have hv0:0<=val*2 ^ k:=Int.mul_nonneg hv.1 (by omega)
 have hs0:0<=src:=by rw [hs];exact Int.mul_nonneg hq.1 (Int.mul_nonneg (by omega) (by omega))
 have hm:iand .u16 val (u16.wrap ((ishl .u16 (1:Int) size) - (1:Int)))=val:=by
  rcases hsz with ⟨rfl,rfl⟩ | ⟨rfl,rfl⟩ | ⟨rfl,rfl⟩
  ·rw [ishl_of (b:=(1:Int)) 1 (by rfl) (by decide),iand_low (k:=.u16) (by rfl) 1 hv.1 (by simp only [IntKind.bits];omega) (by rfl) (by decide)];omega
  ·rw [ishl_of (b:=(2:Int)) 2 (by rfl) (by decide),iand_low (k:=.u16) (by rfl) 2 hv.1 (by simp only [IntKind.bits];omega) (by rfl) (by decide)];omega
  ·rw [ishl_of (b:=(13:Int)) 13 (by rfl) (by decide),iand_low (k:=.u16) (by rfl) 13 hv.1 (by simp only [IntKind.bits];omega) (by rfl) (by decide)];omega
 have key:ior .u16 src (ishl .u16 val (k:Int))=src+val*2 ^ k:=by
  rw [ishl_of (k:=.u16) k rfl (by simp only [IntKind.bits];omega),wu16,Int.emod_eq_of_lt hv0 (by omega)]
  have hpow:∀e:Nat,(m:Int)=2 ^ e->ior .u16 src (val*2 ^ k)=src+val*2 ^ k:=by
   intro e he
   refine ior_add (k:=.u16) (by rfl) (e+k) q ?_ hq.1 hv0 ?_ (by simp only [IntKind.bits];omega)
   ·rw [hs,he,Int.pow_add]
   ·rw [Int.pow_add,<-he];exact hv2
  rcases hsz with ⟨_,rfl⟩ | ⟨_,rfl⟩ | ⟨_,rfl⟩
  ·exact hpow 1 rfl
  ·exact hpow 2 rfl
  ·exact hpow 13 rfl
 refine ⟨by omega,by rw [ek];omega,?_⟩
 rw [ek,hm,key]
 exact ⟨rfl,grew_refl _ _⟩
def u32s (l:List Int):List Value:=l.map (Value.int .u32)
theorem u32s_length (l:List Int):(u32s l).length=l.length:=by simp [u32s]
theorem sStU {l:List Int} (H:Sat F w (.blk g t (u32s l)::ex) ro) {a:Addr} {K:World->Prop} (ha:a=⟨g,i,none⟩) (hi:i < l.length)
  (h:∀w',w.grownBy w' (some g)->Sat F w' (.blk g t (u32s (l.set i x))::ex) ro->K w'):∃w',StV pg 51 a (.int .u32 x) w w'/\K w':=by
 refine sSt0 H ha (by kernel_rfl) ?_ (by rfl) ?_
 ·rw [u32s_length]
  exact Nat.ble_eq_true_of_le (show i+1<=l.length by omega)
 ·intro w' hg H1
  refine h w' hg ?_
  have e:putL (u32s l) i (Value.int .u32 x).cells.toList=u32s (l.set i x):=by
   show (u32s l).set i (Value.int .u32 x)=_
   unfold u32s
   rw [List.map_set]
  rw [e] at H1
  exact H1
theorem words_len:∀(k:Nat) (ys:List Int),(words k ys).length=k
 | 0,_=>rfl
 | k+1,ys=>by simp [words,words_len k]
theorem words_getD:∀(k:Nat) (ys:List Int) (i:Nat),i < k->(words k ys).getD i 0=n32 (ys.drop (4*i))
 | 0,_,_,h=>by omega
 | k+1,ys,0,_=>by simp [words]
 | k+1,ys,i+1,h=>by
  rw [words,List.getD_cons_succ,words_getD k _ i (by omega),aJ]
  congr 2
  omega
theorem c149 (h:n % 4=0):Calls pg 149 #[.int .i64 (n:Int)] w fun en w'=>en=.returned (.int .i64 0)/\w.grownBy w' none:=by
 apply of149
 refine ⟨by decide,?_⟩
 have ht:((n:Nat):Int).tmod 4=0:=by rw [bz (by omega)];omega
 rw [ht]
 exact ⟨fun _=>⟨rfl,grew_refl _ _⟩,fun h=>absurd h (by decide)⟩
theorem c172 (H:Sat F w (.blk b T [c0,.string ⟨#[]⟩]::ex) ro)
  (hx:Ro.B xs a n c∈ro) (hb:By xs) (hE:ErrC (gd xs=none) ro) (hd:Hd xs 203 (hC xs)) (hn:n<=1000000):Calls pg 172 #[.pointer (some ⟨b,0,none⟩),.slice a n c] w (UPost F b T 2 ex ro (gd xs)):=by
 apply of172
 have hlen:=H.lenB hx
 have hk:kindOf (hT xs) (hC xs)=4:=by rw [hd.typ];rfl
 have hU:rdBody xs=rdBye (hC xs).toNat (xs.drop 4):=by
  unfold rdBody;simp only [hk];rw [ap (by decide),ap (by decide),ap (by decide),aG trivial]
 have hLn:=hd.len
 rw [hlen] at hLn
 have hnc:n<=c:=(H.deep1 hx).len.2.1
 have h4:4<=xs.length:=by
  have:=hd.ok
  simp only [hdrOk,aM,ah] at this
  exact this.1
 have hCr:0<=hC xs/\hC xs < 32:=by unfold hC;omega
 obtain ⟨k,hk2⟩:∃k:Nat,hC xs=(k:Int):=⟨(hC xs).toNat,by omega⟩
 rw [hk2,au] at hU
 have hyl:(xs.drop 4).length=n - 4:=by rw [az,hlen]
 refine sNew H ?_;clear H;intro b1 w _ H
 refine call_j (c55 H hx hb hd.ok) ?_
 rintro _ w ⟨rfl,H⟩
 refine ⟨_,rfl,by simp [isIf],fun h=>absurd h (by decide),fun _=>?_⟩
 refine ⟨_,(H.b0.at0 rfl),?_⟩
 rw [hd.typ]
 refine fF ?_
 refine call_j (c149 (by omega)) ?_
 rintro _ w ⟨rfl,g⟩
 replace H:=H.grow g;clear g
 refine ⟨_,rfl,?_⟩
 refine fF ?_
 refine ⟨_,(H.b0.at0 rfl),?_⟩
 rw [hk2] at H
 rw [hk2]
 refine sMk H (e:=51) (z:=.int .u32 0) (bytes:=4) (by kernel_rfl) (by kernel_rfl) (by rfl) (by unfold maxLen;omega) (by omega) (n:=k) (by omega) (by omega) ?_
 clear H;intro g w _ H
 have e0:List.replicate k (Value.int .u32 0)=u32s (pre (words k (xs.drop 4)) 0 k):=by rw [pre_zero];simp [u32s]
 rw [e0] at H
 clear e0
 refine ⟨_,rfl,?_⟩
 refine sSt2 H (h:=?_);clear H;intro w _ H
 refine ⟨_,(H.b1.at0 rfl),?_⟩
 have e5:i64.wrap (u8.wrap ((4:Int)+(u8.wrap ((k:Int)*(4:Int)))))=((4+4*k:Nat):Int):=by rw [wu8,wu8,wi64_of (by omega) (by omega)];omega
 rw [e5]
 refine ⟨fun hc=>?_,fun hc=>?_⟩
 ·rw [ah] at hc
  exact uErr (cells:=[.slice (some ⟨g,0,none⟩) k k,.string ⟨#[]⟩]) H (by exact List.Sublist.cons _ (sc1)) (fun _ h=>h) hE rfl (gd_none (by rw [hU];unfold rdBye;rw [aG (by omega)])) (by decide)
 rw [af] at hc
 refine ⟨fun i23 m_19 w=>∃i:Nat,i23=(i:Int)/\i+m_19=k /\
  Sat F w (.blk g 51 (u32s (pre (words k (xs.drop 4)) i k))::.blk b1 109 [.bool (hP xs),.int .u8 (k:Int),.int .u8 (hT xs),.int .u16 (hL xs)]::.blk b T [.slice (some ⟨g,0,none⟩) k k,.string ⟨#[]⟩]::ex) ro,⟨k,0,rfl,by omega,H⟩,?_⟩
 clear H;rintro dd18 i23 m_19 w ⟨i,rfl,him,H⟩
 refine ⟨_,(H.b1.at0 rfl),?_⟩
 rw [wi64_of (n:=(k:Int)) (by omega) (by omega)]
 refine ⟨fun h=>?_,fun h=>?_⟩
 ·rw [ah] at h
  refine ⟨none,?_⟩;replace H:=H.drew;generalize w.drew=wd1 at H ⊢;have K:=grew_refl wd1 (none)
  refine ⟨_,rfl,?_⟩
  refine ⟨nn,?_⟩
  refine ⟨H.b2.row,?_⟩
  refine ⟨_,_,_,(H.b2.at0 rfl),?_⟩
  have e4:i64.wrap ((4:Int)+(i64.wrap ((i:Int)*(4:Int))))=((4+4*i:Nat):Int):=by rw [wi64_of (n:=(i:Int)*4) (by omega) (by omega),wi64_of (by omega) (by omega)];omega
  rw [e4,au]
  refine ⟨by omega,by omega,?_⟩
  refine call_j (c150 (Rd.skip (Sat.rd H hx) _ (by omega)) (hb.drop (4+4*i)) (by omega)) ?_
  rintro _ w ⟨rfl,gr⟩
  replace H:=H.grow gr;replace K:=gtr K (grew_none _ gr);clear gr
  refine ⟨_,rfl,?_⟩
  refine ⟨K,?_⟩
  refine ⟨_,rfl,by omega,by omega,?_⟩
  have hw:=words_getD k (xs.drop 4) i (by omega)
  rw [aJ] at hw
  rw [<-hw]
  refine sStU H (i:=i) (by rw [add_flat,show (i:Int).toNat*1=i by omega,aK]) (by rw [pre_length (by omega) (by rw [words_len];omega)];omega) ?_
  clear H K;intro w _ H
  rw [pre_set (by omega) (by rw [words_len];omega)] at H
  refine ⟨m_19 - 1,by omega,i+1,?_,by omega,H⟩
  rw [wi64_of (by omega) (by omega)];simp
 ·rw [af] at h
  obtain rfl:i=k:=by omega
  have hw:pre (words i (xs.drop 4)) i i=words i (xs.drop 4):=pre_full (by rw [words_len]) (aN _) (by rw [bF (by rw [words_len];omega)];rfl)
  rw [hw] at H
  have eoi:oi .u32 (words i (xs.drop 4))=(u32s (words i (xs.drop 4))).map .one:=by simp [oi,u32s]
  have H1:=H.blkRow 1 i (oi .u32 (words i (xs.drop 4))) (by rw [u32s_length,words_len,bd]) (by unfold maxLen;omega) (fun G h=>by rw [eoi];exact DeepL.ones _)
  clear H
  have H:=H1
  clear H1
  have hro:∀r∈ro,r∈(.deep [.row 1 (oi .u32 (words i (xs.drop 4)))] [.slice (some ⟨g,0,none⟩) i i]::ro):=fun r h=>mt h
  refine ⟨fun h2=>?_,fun h2=>?_⟩
  ·rw [ah] at h2
   have h2':4+4*i < n:=by omega
   have hys:(xs.drop 4).drop (4*i)=xs.drop (4+4*i):=by rw [aJ]
   have hyy:(xs.drop (4+4*i)).length=n - (4+4*i):=by rw [az,hlen]
   have hU2:rdBody xs=(if (xs.drop (4+4*i)).length < 1+((xs.drop (4+4*i)).getD 0 0).toNat then none else if 3 < (xs.drop (4+4*i)).length - (1+((xs.drop (4+4*i)).getD 0 0).toNat) then none else if 1+((xs.drop (4+4*i)).getD 0 0).toNat=1 then none else
     if ((xs.drop (4+4*i)).drop (1+((xs.drop (4+4*i)).getD 0 0).toNat)).all (· == 0) then some { kind:=4,sources:=words i (xs.drop 4),text:=strOfNums (((xs.drop (4+4*i)).drop 1).take (1+((xs.drop (4+4*i)).getD 0 0).toNat - 1)) } else none):=by
    rw [hU];unfold rdBye
    rw [ap (by omega)]
    simp only [hys]
    rw [ap (by omega)]
   obtain ⟨p_32,ep_32,hp_32,_,_⟩:=H.at_ (a:=a) (hro _ hx) (by omega)
   refine ⟨p_32,ep_32,by omega,by omega,?_⟩
   refine ⟨_,(by rw [au,bd];exact hp_32 (4+4*i) (by omega)),?_⟩
   have hgd:(xs.drop (4+4*i)).getD 0 0=xs.getD (4+4*i) 0:=by rw [getD_drop];rfl
   have hl:=hb.getD (4+4*i)
   rw [hgd] at hU2
   generalize xs.getD (4+4*i) 0=y at hl hU2 ⊢
   obtain ⟨t,rfl⟩:=br hl.1
   rw [au] at hU2
   rw [wi64_of (n:=(t:Int)) (by omega) (by omega),wi64_of (n:=((4+4*i:Nat):Int)+1) (by omega) (by omega),wi64_of (n:=((4+4*i:Nat):Int)+1+(t:Int)) (by omega) (by omega)]
   refine ⟨fun h3=>?_,fun h3=>?_⟩
   ·rw [ah] at h3
    exact uErr (cells:=[.slice (some ⟨g,0,none⟩) i i,.string ⟨#[]⟩]) H (sc1) hro hE rfl (gd_none (by rw [hU2,aG (by omega)])) (by decide)
   rw [af] at h3
   rw [show (((4+4*i:Nat):Int)+1).toNat=5+4*i by omega,show (((4+4*i:Nat):Int)+1+(t:Int)).toNat=5+4*i+t by omega]
   refine ⟨by omega,by omega,?_⟩
   refine ⟨by omega,by omega,?_⟩
   have H8:=H.cutB (hro _ hx) (5+4*i) (5+4*i+t) (by omega) (by omega)
   refine ⟨_,_,sStr H8 ms uSl uU8 uStr,?_⟩
   clear H8
   refine ⟨_,rfl,?_⟩
   refine sSt1 H (h:=?_);clear H;intro w _ H
   refine uOk (cells:=[.slice (some ⟨g,0,none⟩) i i,.string (strOfNums ((xs.drop (5+4*i)).take (5+4*i+t - (5+4*i))))]) H (sc1) hro rfl ?_
   intro p hp
   obtain ⟨_,hp⟩:=gd_some hp
   rw [hU2] at hp
   split at hp
   ·cases hp
   split at hp
   ·cases hp
   split at hp
   ·cases hp
   split at hp
   ·cases hp
    intro G h
    refine dc (h (.deep [_] [_]) ms).head (dc ?_ dn)
    have et:(xs.drop (5+4*i)).take (5+4*i+t - (5+4*i))=((xs.drop (4+4*i)).drop 1).take (1+t - 1):=by
     rw [aJ,show 4+4*i+1=5+4*i by omega,show 5+4*i+t - (5+4*i)=t by omega,show 1+t - 1=t by omega]
    rw [et]
    exact .one _
   ·cases hp
  ·rw [af] at h2
   refine uOk (cells:=[.slice (some ⟨g,0,none⟩) i i,.string ⟨#[]⟩]) H (sc1) hro rfl ?_
   intro p hp
   obtain ⟨_,hp⟩:=gd_some hp
   rw [hU] at hp
   unfold rdBye at hp
   rw [ap (by omega)] at hp
   simp only at hp
   rw [aG (by rw [az];omega)] at hp
   cases hp
   intro G h
   exact dc (h (.deep [_] [_]) ms).head (dc (.one _) dn)
theorem c167 {t:Int} {s:ByteArray} (hs:s.size<=1000000):Calls pg 167 #[.agg #[.int .u8 t,.string s]] w fun en w'=>en=.returned (.int .i64 ((2+s.size:Nat):Int))/\w.grownBy w' none:=by
 apply of167
 have H:Sat ⟨w,fun _=>False⟩ w [] []:=Sat.start (by simp [foots]) (by simp [foots]) (by simp) (by simp)
 refine sNew H ?_;clear H;intro b1 w _ H
 refine ⟨_,(H.b0.at0 rfl),?_⟩
 refine ⟨_,_,_,_,run_bytes_of_string w 9 22 5 s uStr uSl uU8,?_⟩
 refine ⟨?_,gtr (Gr.none H.gr (fun _ _ h=>h)) (gtr (grew_drew w none) (World.grownBy_alloc w.drew _ none))⟩
 rw [wi64_of (by omega) (by omega)]
 congr 2
theorem c168 {P:Prop} (H:Sat F w (.blk b T [c0,c1]::ex) ro)
  (hx:Ro.B ys a n c∈ro) (hb:By ys) (hE:ErrC P ro) (hn:n<=1000000):Calls pg 168 #[.pointer (some ⟨b,0,none⟩),.slice a n c] w fun en w'=>
   ((n < 2\/(n:Int) < 2+ys.getD 1 0)/\∃e cells,en=.returned e/\isIf e/\isNilI e=false/\Sat F w' (.blk b T cells::ex) ro) \/
   (2+(ys.getD 1 0)<=(n:Int)/\en=.returned .nilIface/\Sat F w' (.blk b T [.int .u8 (ys.getD 0 0),.string (strOfNums ((ys.drop 2).take (ys.getD 1 0).toNat))]::ex) ro):=by
 apply of168
 have hlen:=H.lenB hx
 have hnc:n<=c:=(H.deep1 hx).len.2.1
 have h1:=hb.getD 1
 refine ⟨fun hc=>?_,fun hc=>?_⟩
 ·rw [ah] at hc
  obtain ⟨v,h1,h2,h3⟩:=hE.laid 1 (by decide)
  exact ⟨v,H.cell h1 rfl,.inl ⟨by omega,v,_,rfl,h2,h3 (by decide),H⟩⟩
 rw [af] at hc
 obtain ⟨p_2,ep_2,hp_2,_,_⟩:=H.at_ (a:=a) hx (by omega)
 refine ⟨p_2,ep_2,by omega,by omega,?_⟩
 refine ⟨_,hp_2 0 (by omega),?_⟩
 refine ⟨_,rfl,?_⟩
 clear hp_2
 refine sSt0 H (h:=?_);clear H;intro w _ H
 obtain ⟨p_6,ep_6,hp_6,_,_⟩:=H.at_ (a:=a) hx (by omega)
 refine ⟨p_6,ep_6,by omega,by omega,?_⟩
 refine ⟨_,hp_6 1 (by omega),?_⟩
 generalize hy:ys.getD 1 0=y at h1 ⊢
 obtain ⟨t,rfl⟩:=br h1.1
 rw [wi64_of (n:=(t:Int)) (by omega) (by omega),wi64_of (n:=2+(t:Int)) (by omega) (by omega)]
 refine ⟨fun h=>?_,fun h=>?_⟩
 ·rw [ah] at h
  obtain ⟨v,h1,h2,h3⟩:=hE.laid 1 (by decide)
  exact ⟨v,H.cell h1 rfl,.inl ⟨by omega,v,_,rfl,h2,h3 (by decide),H⟩⟩
 rw [af] at h
 rw [show (2+(t:Int)).toNat=2+t by omega]
 refine ⟨by omega,by omega,?_⟩
 refine ⟨by omega,by omega,?_⟩
 have H8:=H.cutB hx 2 (2+t) (by omega) (by omega)
 refine ⟨_,_,sStr H8 ms uSl uU8 uStr,?_⟩
 clear H8
 refine ⟨_,rfl,?_⟩
 refine sSt0 H (h:=?_);clear H;intro w _ H
 refine .inr ⟨by omega,rfl,?_⟩
 rw [show 2+t - 2=t by omega] at H
 rw [au]
 exact H
def itLen (l:List Itm):Nat:=(l.map fun i=>2+i.2.size).sum
theorem itLen_snoc (l:List Itm) (i:Itm):itLen (l++[i])=itLen l+(2+i.2.size):=by simp [itLen]
theorem itLen_le:∀l:List Itm,2*l.length<=itLen l
 | []=>by simp
 | i::r=>by
  have:=itLen_le r
  simp only [itLen,aX,bP,aA] at this ⊢
  omega
theorem Itm.dat_len (x:Itm):(Itm.dat x).length=2:=rfl
theorem c165 {P:Prop} (H:Sat F w (.blk b T [c0,.slice none 0 0]::ex) ro)
  (hx:Ro.B ys a n c∈ro) (hb:By ys) (hE:ErrC P ro) (hn:n<=1000000):Calls pg 165 #[.pointer (some ⟨b,0,none⟩),.slice a n c] w fun en w'=>
   ((n < 5\/items ys n 4=none)/\∃e cells,en=.returned e/\isIf e/\isNilI e=false/\Sat F w' (.blk b T cells::ex) ro) \/
   (∃l o oc,items ys n 4=some (l,4+itLen l+1)/\4+itLen l+1<=n/\en=.returned .nilIface/\Sat F w' (.blk b T [.int .u32 (n32 ys),.slice o l.length oc]::ex) (.deep [.row 2 (l.flatMap Itm.dat)] [.slice o l.length oc]::ro)):=by
 apply of165
 have hlen:=H.lenB hx
 have hnc:n<=c:=(H.deep1 hx).len.2.1
 refine ⟨fun hc=>?_,fun hc=>?_⟩
 ·rw [ah] at hc
  obtain ⟨v,h1,h2,h3⟩:=hE.laid 1 (by decide)
  exact ⟨v,H.cell h1 rfl,.inl ⟨by omega,v,_,rfl,h2,h3 (by decide),H⟩⟩
 rw [af] at hc
 refine call_j (c150 (Sat.rd H hx) hb (by omega)) ?_
 rintro _ w ⟨rfl,g⟩
 replace H:=H.grow g;clear g
 refine ⟨_,rfl,?_⟩
 refine ⟨_,rfl,?_⟩
 refine sSt0 H (by exact add_flat _ _ _) (by kernel_rfl) (by rfl) (by rfl) ?_;clear H;intro w _ H
 refine ⟨fun i12 m_8 w=>∃(l:List Itm) (o:Option Addr) (oc:Nat) (r:Option Nat),i12=((4+itLen l:Nat):Int)/\items ys n 4=(items ys m_8 (4+itLen l)).map (fun q=>(l++q.1,q.2))/\n < m_8+(4+itLen l)/\4+itLen l<=n /\
  Sat F w (.blk b T [.int .u32 (n32 ys),.slice o l.length oc]::.own 258 2 o l.length oc r (l.flatMap Itm.dat)::ex) ro,⟨n,[],none,0,none,rfl,by show items ys n 4=(items ys n 4).map _;cases items ys n 4<;>rfl,by simp [itLen],by simp [itLen];omega,(H.nilOwn 258 2).u1⟩,?_⟩
 clear H;rintro dd7 i12 m_8 w ⟨l,o,oc,r,rfl,hit,hm,hle,H⟩
 have hll:=itLen_le l
 refine ⟨fun h=>?_,fun h=>?_⟩
 ·rw [ah] at h
  obtain ⟨m,rfl⟩:∃m,m_8=m+1:=⟨m_8 - 1,by omega⟩
  rw [items,ap (by omega)] at hit
  obtain ⟨p_13,ep_13,hp_13,_,_⟩:=H.at_ (a:=a) hx (by omega)
  refine ⟨p_13,ep_13,by omega,by omega,?_⟩
  refine ⟨_,(by rw [au,bd];exact hp_13 (4+itLen l) (by omega)),?_⟩
  clear ep_13 hp_13
  refine ⟨fun h0=>?_,fun h0=>?_⟩
  ·have h0:ys.getD (4+itLen l) 0=0:=by simpa using h0
   rw [aG h0] at hit
   simp only [aU,aE] at hit
   exact .inr ⟨l,o,oc,hit,by omega,rfl,H.r1.freeze⟩
  have h0:¬ys.getD (4+itLen l) 0=0:=by simpa using h0
  rw [ap h0] at hit
  refine sNew H ?_;clear H;intro b15 w _ H
  rw [au]
  refine ⟨by omega,by omega,?_⟩
  have H1:=H.skipB hx (4+itLen l) (by omega)
  have hgd:∀j,(ys.drop (4+itLen l)).getD j 0=ys.getD (4+itLen l+j) 0:=fun j=>getD_drop _ _ _
  refine call_j (c168 H1 ms (hb.drop _) (hE.mono (fun r h=>mt h)) (by omega)) ?_
  clear H H1
  rw [hgd 1]
  rintro en w (⟨hbad,e,cells,rfl,he1,he2,H⟩ | ⟨hgood,rfl,H⟩)
  ·refine ⟨_,rfl,he1,fun _=>?_,fun h=>by rw [he2] at h;cases h⟩
   refine .inl ⟨.inr ?_,e,_,rfl,he1,he2,H.sub (by exact List.Sublist.cons _ (List.Sublist.cons_cons _ (sc1))) (fun r hr=>mt hr)⟩
   rw [hit]
   by_cases hs:ys.length < 4+itLen l+2
   ·rw [aG hs];rfl
   ·rw [ap hs,aG (by omega)];rfl
  have h1:=hb.getD (4+itLen l+1)
  rw [hgd 0,Nat.add_zero] at H
  generalize hy1:ys.getD (4+itLen l+1) 0=y at h1 hgood hit H
  obtain ⟨t,rfl⟩:=br h1.1
  rw [ap (by omega),ap (by omega),au] at hit
  rw [au,aJ] at H
  generalize ys.getD (4+itLen l) 0=ty at hit H
  have hsz:(strOfNums ((ys.drop (4+itLen l+2)).take t)).size=t:=by rw [ca,bq,az];omega
  generalize strOfNums ((ys.drop (4+itLen l+2)).take t)=txt at hit H hsz
  refine ⟨_,rfl,by simp [isIf],fun h=>absurd h (by decide),fun _=>?_⟩
  refine ⟨r,?_⟩;replace H:=H.drew;generalize w.drew=wd1 at H ⊢;have K:=grew_refl wd1 (r)
  refine ⟨_,rfl,?_⟩
  refine ⟨(H.ne (mt ms) (mt (mt ms))),?_⟩
  refine ⟨H.b1.row,?_⟩
  refine ⟨_,_,_,(H.b1.at0 rfl),?_⟩
  refine ⟨(H.ne ms (mt (mt ms))),?_⟩
  refine ⟨H.b0.row,?_⟩
  refine ⟨_,_,H.b0.ld,?_⟩
  refine ⟨rfl,?_⟩
  refine sNew H ?_;clear H;intro b24 w g H;replace K:=gtr K (grew_none _ g);clear g
  refine ⟨K,?_⟩
  refine sApp3 H (bytes:=24) (by kernel_rfl) [.int .u8 ty,.string txt] (Itm.dat (ty,txt)) (by rfl) (fun j u hu=>by rw [add_flat,aK];exact H.b0.cell hu) (fun G h=>by repeat (exact DeepL.ones _)) (by simp [Value.oneCell']) (by unfold maxLen;omega) (by omega) ?_
  clear H;intro x26 x26l x26c x26r w ex26 g H
  replace K:=gtr K g;clear g;replace H:=H.d1
  refine ⟨K,?_⟩
  refine ⟨_,rfl,?_⟩
  refine sSt1 H (by exact add_flat _ _ _) (by kernel_rfl) (by rfl) (by rfl) ?_;clear H;intro w _ H
  refine ⟨_,_,H.b0.ld,?_⟩
  refine call_j (c167 (by omega)) ?_
  rintro _ w ⟨rfl,g⟩
  replace H:=H.grow g;clear g
  refine ⟨_,rfl,?_⟩
  subst ex26
  have hsn:=itLen_snoc l (ty,txt)
  simp only [hsz] at hsn
  rw [hsz]
  refine ⟨m,by omega,l++[(ty,txt)],x26,x26c,x26r,?_,?_,by omega,by omega,?_⟩
  ·rw [wi64_of (by omega) (by omega),hsn];omega
  ·rw [hit,hsn,show 4+(itLen l+(2+t))=4+itLen l+2+t by omega]
   cases items ys m (4+itLen l+2+t)<;>simp
  ·rw [aj,ae]
   simp only [fm1,fm2,fm3]
   exact H.sub (sc1) (fun r hr=>mt hr)
 ·rw [af] at h
  obtain ⟨v,h1,h2,h3⟩:=hE.laid 1 (by decide)
  refine ⟨v,H.cell h1 rfl,.inl ⟨.inr ?_,v,_,rfl,h2,h3 (by decide),H.sub (List.Sublist.cons_cons _ (sc1)) (fun _ h=>h)⟩⟩
  rw [hit]
  cases m_8 with
  | zero=>rfl
  | succ m=>rw [items,aG (by omega)];rfl
def up4 (z:Nat):Nat:=(z+3) / 4*4
theorem pad_any (hn:n<=10000000):Calls pg 149 #[.int .i64 (n:Int)] w fun en w'=>en=.returned (.int .i64 ((up4 n - n:Nat):Int))/\w.grownBy w' none:=by
 apply of149
 refine ⟨by decide,?_⟩
 have ht:((n:Nat):Int).tmod 4=((n % 4:Nat):Int):=by rw [bz (by omega)];omega
 rw [ht]
 refine ⟨fun h=>?_,fun h=>?_⟩
 ·have h0:((n % 4:Nat):Int)=0:=by simpa using h
  refine ⟨?_,grew_refl _ _⟩
  rw [show up4 n - n=0 by unfold up4;omega];rfl
 ·have h0:¬((n % 4:Nat):Int)=0:=by simpa using h
  refine ⟨by decide,?_,grew_refl _ _⟩
  rw [wi64_of (by omega) (by omega),show ((up4 n - n:Nat):Int)=4 - ((n % 4:Nat):Int) by unfold up4;omega]
theorem itLen_append (a b:List Itm):itLen (a++b)=itLen a+itLen b:=by simp [itLen]
theorem itLen_take (l:List Itm) (j:Nat):itLen (l.take j)<=itLen l:=by
 have h:=itLen_append (l.take j) (l.drop j)
 rw [ck] at h
 omega
theorem c164 {l:List Itm} {o:Option Addr} {oc:Nat} (H:Sat F w ex ro) (hl:Ro.deep [.row 2 (l.flatMap Itm.dat)] [.slice o l.length oc]∈ro) (hn:itLen l<=1000000) :
  Calls pg 164 #[.agg #[.int .u32 s,.slice o l.length oc]] w fun en w'=>en=.returned (.int .i64 (up4 (4+itLen l+1):Nat))/\Sat F w' ex ro:=by
 apply of164
 have hll:=itLen_le l
 refine sNew H ?_;clear H;intro b1 w _ H
 refine ⟨_,_,_,(H.b0.at0 rfl),?_⟩
 refine ⟨fun cl x11 m_6 w=>∃j:Nat,x11=(j:Int)/\j+m_6=l.length/\cl=((4+itLen (l.take j):Nat):Int)/\Sat F w (.blk b1 255 [.int .u32 s,.slice o l.length oc]::ex) ro,⟨l.length,0,rfl,by omega,by simp [itLen],H⟩,?_⟩
 clear H;rintro dd5 cl x11 m_6 w ⟨j,rfl,hjm,rfl,H⟩
 have htl:=itLen_take l j
 refine ⟨fun hc=>?_,fun hc=>?_⟩
 ·rw [ah] at hc
  have hjl:j < l.length:=by omega
  obtain ⟨p,us,e,hus,hcell,H1⟩:=H.eltF Itm.dat_len (by decide) hl (j:=j) hjl
  have htk:l.take (j+1)=l.take j++[l[j]]:=by rw [am,ai hjl];rfl
  have htl2:=itLen_take l (j+1)
  rw [htk,itLen_snoc] at htl2
  clear H
  generalize l[j]=D at H1 htk htl2
  refine ⟨p,e,by omega,by omega,?_⟩
  obtain rfl:=H1.ones (us:=[.int .u8 D.1,.string D.2]) ms
  refine ⟨_,_,LdC [.int .u8 D.1,.string D.2] (by kernel_rfl) (by rw [show (j:Int).toNat*2=j*2 by omega];exact hcell),?_⟩
  have H:=H1
  clear H1 hcell
  refine sNew H ?_;clear H;intro b15 w _ H
  refine sSw0 H (h:=?_);clear H;intro w _ H
  refine ⟨_,_,H.b0.ld,?_⟩
  refine call_j (c167 (by omega)) ?_
  rintro _ w ⟨rfl,g⟩
  replace H:=H.grow g;clear g
  refine ⟨_,rfl,?_⟩
  refine ⟨m_6 - 1,by omega,j+1,?_,by omega,?_,H.sub (sc1) (fun r hr=>mt hr)⟩
  ·rw [wi64_of (by omega) (by omega)];simp
  ·rw [wi64_of (by omega) (by omega),htk,itLen_snoc];omega
 ·rw [af] at hc
  obtain rfl:j=l.length:=by omega
  rw [ao]
  rw [wi64_of (n:=((4+itLen l:Nat):Int)+1) (by omega) (by omega)]
  refine call_j (pad_any (n:=4+itLen l+1) (by omega)) ?_
  rintro _ w ⟨rfl,g⟩
  replace H:=H.grow g;clear g
  refine ⟨_,rfl,?_⟩
  have hu:4+itLen l+1<=up4 (4+itLen l+1)/\up4 (4+itLen l+1)<=4+itLen l+4:=by unfold up4;omega
  refine ⟨?_,H.d1⟩
  rw [wi64_of (by omega) (by omega)]
  congr 2
  omega
theorem zeros_up (h:zeros ys 3 i=some j):j=up4 i:=by
 have key:∀(f i j:Nat),zeros ys f i=some j->j % 4=0/\i<=j/\(∀t,i<=t->t < j->t % 4≠0):=by
  intro f
  induction f with
  | zero=>
   intro i j h
   unfold zeros at h
   split at h
   ·cases h;exact ⟨by assumption,aN _,fun t h1 h2=>by omega⟩
   ·cases h
  | succ f ih=>
   intro i j h
   unfold zeros at h
   split at h
   ·cases h;exact ⟨by assumption,aN _,fun t h1 h2=>by omega⟩
   ·rename_i hi
    split at h
    ·cases h
    ·split at h
     ·obtain ⟨a1,a2,a3⟩:=ih _ _ h
      refine ⟨a1,by omega,fun t h1 h2=>?_⟩
      rcases Nat.eq_or_lt_of_le h1 with rfl | h1
      ·exact hi
      ·exact a3 t (by omega) h2
     ·cases h
 obtain ⟨a1,a2,a3⟩:=key _ _ _ h
 have hu:up4 i % 4=0/\i<=up4 i/\up4 i<=i+3:=by unfold up4;omega
 rcases Nat.lt_trichotomy j (up4 i) with h1 | h1 | h1
 ·unfold up4 at h1;omega
 ·exact h1
 ·exact absurd hu.1 (a3 _ hu.2.1 h1)
theorem c161 (H:Sat F w (.blk b T [.slice none 0 0]::ex) ro)
  (hx:Ro.B xs a n c∈ro) (hb:By xs) (hE:ErrC (gd xs=none) ro) (hd:Hd xs 202 (hC xs)) (hn:n<=1000000):Calls pg 161 #[.pointer (some ⟨b,0,none⟩),.slice a n c] w (UPost F b T 1 ex ro (gd xs)):=by
 apply of161
 have hlen:=H.lenB hx
 have hk:kindOf (hT xs) (hC xs)=3:=by rw [hd.typ];rfl
 have hU:rdBody xs=(chks (hC xs).toNat (xs.drop 4)).map (fun l=>{ kind:=3,chunks:=l }):=by
  unfold rdBody;simp only [hk];rw [ap (by decide),ap (by decide),aG trivial]
 have hLn:=hd.len
 rw [hlen] at hLn
 have h4:4<=xs.length:=by
  have:=hd.ok
  simp only [hdrOk,aM,ah] at this
  exact this.1
 have hCr:0<=hC xs/\hC xs < 32:=by unfold hC;omega
 obtain ⟨k,hk2⟩:∃k:Nat,hC xs=(k:Int):=⟨(hC xs).toNat,by omega⟩
 rw [hk2,au] at hU
 refine sNew H ?_;clear H;intro b1 w _ H
 refine call_j (c55 H hx hb hd.ok) ?_
 rintro _ w ⟨rfl,H⟩
 refine ⟨_,rfl,by simp [isIf],fun h=>absurd h (by decide),fun _=>?_⟩
 refine ⟨_,(H.b0.at0 rfl),?_⟩
 rw [hd.typ]
 refine fF ?_
 rw [hk2] at H
 refine ⟨fun i13 m_9 w=>∃(i:Nat) (L:List Chk) (o:Option Addr) (oc:Nat) (r:Option Nat),i13=(i:Int)/\i+m_9=n/\i % 4=0/\L.length<=i/\(∀Lf,chks k (xs.drop 4)=some Lf->L.length<=k/\∃Lr,chks (k - L.length) (xs.drop i)=some Lr/\Lf=L++Lr) /\
  Sat F w (.blk b1 109 [.bool (hP xs),.int .u8 (k:Int),.int .u8 (hT xs),.int .u16 (hL xs)]::.blk b T [.slice o L.length oc]::.own 255 2 o L.length oc r (L.flatMap Chk.dat)::ex) ro,
  ⟨n - 4,4,[],none,0,none,rfl,by omega,rfl,by simp,fun Lf h=>⟨bE _,Lf,h,rfl⟩,(H.nilOwn 255 2).u2⟩,?_⟩
 clear H;rintro dd8 i13 m_9 w ⟨i,L,o,oc,r,rfl,him,hi4,hLi,hch,H⟩
 refine ⟨fun h=>?_,fun h=>?_⟩
 ·rw [ah] at h
  refine sNew H ?_;clear H;intro b14 w _ H
  rw [au]
  refine ⟨by omega,by omega,?_⟩
  have H1:=H.skipB hx i (by omega)
  have hyl:(xs.drop i).length=n - i:=by rw [az,hlen]
  refine call_j (c165 H1 ms (hb.drop i) (hE.mono (fun r h=>mt h)) (by omega)) ?_
  clear H H1

  have hnext:∀Lf,chks k (xs.drop 4)=some Lf->∃q l i1 Lr,k - L.length=q+1/\items (xs.drop i) (n - i) 4=some (l,i1)/\8<=n - i/\Lf=L++((n32 (xs.drop i),l)::Lr)/\chks q ((xs.drop i).drop (up4 i1))=some Lr:=by
   intro Lf hLf
   obtain ⟨h1,Lr,h2,h3⟩:=hch Lf hLf
   cases hq:k - L.length with
   | zero=>
    rw [hq] at h2
    unfold chks at h2
    rw [ap (by omega)] at h2
    cases h2
   | succ q=>
    rw [hq] at h2
    unfold chks at h2
    split at h2
    ·cases h2
    rename_i h8
    rw [hyl] at h2 h8
    cases h5:items (xs.drop i) (n - i) 4 with
    | none=>rw [h5] at h2;cases h2
    | some p=>
     obtain ⟨l,i1⟩:=p
     rw [h5] at h2
     simp only at h2
     cases h6:zeros (xs.drop i) 3 i1 with
     | none=>rw [h6] at h2;cases h2
     | some j=>
      rw [h6] at h2
      simp only at h2
      obtain rfl:=zeros_up h6
      cases h7:chks q ((xs.drop i).drop (up4 i1)) with
      | none=>rw [h7] at h2;cases h2
      | some Lr2=>
       rw [h7] at h2
       simp only [aU,aZ] at h2
       exact ⟨q,l,i1,Lr2,rfl,rfl,by omega,by rw [h3,<-h2],h7⟩
  rintro en w (⟨hbad,e,cells,rfl,he1,he2,H⟩ | ⟨l,ol,olc,hit,hil,rfl,H⟩)
  ·refine ⟨_,rfl,he1,fun _=>?_,fun h=>by rw [he2] at h;cases h⟩
   refine ⟨e,[.slice o L.length oc],ro,rfl,he1,fun _ h=>h,rfl,H.sub (by exact List.Sublist.cons _ (List.Sublist.cons _ (List.Sublist.cons_cons _ (sc1)))) (fun r hr=>mt hr),?_⟩
   intro p hp
   obtain ⟨_,hp⟩:=gd_some hp
   rw [hU] at hp
   cases h9:chks k (xs.drop 4) with
   | none=>rw [h9] at hp;cases hp
   | some Lf=>
    obtain ⟨q,l,i1,Lr,_,h5,h8,_,_⟩:=hnext Lf h9
    rcases hbad with h | h
    ·omega
    ·rw [h] at h5;cases h5
  refine ⟨_,rfl,by simp [isIf],fun h=>absurd h (by decide),fun _=>?_⟩
  have hll:=itLen_le l
  refine ⟨r,?_⟩;replace H:=H.drew;generalize w.drew=wd1 at H ⊢;have K:=grew_refl wd1 (r)
  refine ⟨_,rfl,?_⟩
  refine ⟨(H.ne (mt (mt ms)) (mt (mt (mt ms)))),?_⟩
  refine ⟨H.b2.row,?_⟩
  refine ⟨_,_,_,(H.b2.at0 rfl),?_⟩
  refine ⟨(H.ne ms (mt (mt (mt ms)))),?_⟩
  refine ⟨H.b0.row,?_⟩
  refine ⟨_,_,_,_,H.b0.ld,?_⟩
  refine ⟨rfl,?_⟩
  refine sNew H ?_;clear H;intro b23 w g H;replace K:=gtr K (grew_none _ g);clear g
  refine ⟨K,?_⟩
  refine sApp4 H (bytes:=32) (by kernel_rfl) [.int .u32 (n32 (xs.drop i)),.slice ol l.length olc] (Chk.dat (n32 (xs.drop i),l)) (by rfl) (fun j u hu=>by rw [add_flat,aK];exact H.b0.cell hu) (fun G h=>dc (.one _) (dc (h (.deep [_] [_]) ms).head dn)) (by simp [Value.oneCell']) (by unfold maxLen;omega) (by omega) ?_
  clear H;intro x25 x25l x25c x25r w ex25 g H
  replace K:=gtr K g;clear g;replace H:=H.d1
  refine ⟨K,?_⟩
  refine ⟨_,rfl,?_⟩
  refine sSt2 H (by exact add_flat _ _ _) (by kernel_rfl) (by rfl) (by rfl) ?_;clear H;intro w _ H
  refine ⟨_,_,_,_,H.b0.ld,?_⟩
  refine call_j (c164 H ms (by omega)) ?_
  clear H
  rintro _ w ⟨rfl,H⟩
  refine ⟨_,rfl,?_⟩
  subst ex25
  have hu:8<=up4 (4+itLen l+1)/\up4 (4+itLen l+1) % 4=0/\up4 (4+itLen l+1)<=n - i:=by unfold up4;omega
  generalize hup:up4 (4+itLen l+1)=u at hu
  refine ⟨m_9 - u,by omega,i+u,L++[(n32 (xs.drop i),l)],x25,x25c,x25r,?_,by omega,by omega,by simp;omega,?_,?_⟩
  ·rw [wi64_of (by omega) (by omega)];omega
  ·intro Lf hLf
   obtain ⟨q,l2,i1,Lr,hq,h5,_,h6,h7⟩:=hnext Lf hLf
   rw [hit] at h5
   cases h5
   rw [hup,aJ] at h7
   refine ⟨by simp;omega,Lr,?_,by rw [h6];simp⟩
   rw [ae,List.length_singleton,show k - (L.length+1)=q by omega]
   exact h7
  ·rw [aj,ae]
   simp only [fm1,fm2,fm3]
   exact H.sub (sc1) (fun r hr=>by simp [hr])
 ·rw [af] at h
  obtain rfl:i=n:=by omega
  refine ⟨_,rfl,?_⟩
  replace H:=H.drew;generalize w.drew=w at H ⊢
  refine ⟨_,_,_,(H.b1.at0 rfl),?_⟩
  refine ⟨_,(H.b0.at0 rfl),?_⟩
  rw [wi64_of (n:=(k:Int)) (by omega) (by omega)]
  have hend:∀Lf,chks k (xs.drop 4)=some Lf->L.length=k/\Lf=L:=by
   intro Lf hLf
   obtain ⟨h1,Lr,h2,h3⟩:=hch Lf hLf
   rw [bF (by omega)] at h2
   cases hq:k - L.length with
   | zero=>
    rw [hq] at h2
    unfold chks at h2
    rw [aG ay] at h2
    cases h2
    exact ⟨by omega,by rw [h3];simp⟩
   | succ q=>
    rw [hq] at h2
    unfold chks at h2
    rw [aG (by decide)] at h2
    cases h2
  refine ⟨fun h2=>?_,fun h2=>?_⟩
  ·have hne:¬((L.length:Nat):Int)=(k:Int):=by simpa using h2
   refine uErr (cells:=[.slice o L.length oc]) H (by exact List.Sublist.cons _ (List.Sublist.cons_cons _ (sc1))) (fun _ h=>h) hE rfl (gd_none ?_) (by decide)
   rw [hU]
   cases h9:chks k (xs.drop 4) with
   | none=>rfl
   | some Lf=>exact absurd (by rw [(hend Lf h9).1]) hne
  ·replace H:=H.r2.freeze
   refine uOk (cells:=[.slice o L.length oc]) H (sc1) (fun r hr=>by simp [hr]) rfl ?_
   intro p hp
   obtain ⟨_,hp⟩:=gd_some hp
   rw [hU] at hp
   cases h9:chks k (xs.drop 4) with
   | none=>rw [h9] at hp;cases hp
   | some Lf=>
    rw [h9] at hp
    cases hp
    rw [(hend Lf h9).2]
    exact fun G h=>dc (h (.deep [_] [_]) ms).head dn
theorem sMkS (H:Sat F w ex ro) {kl kc:IntKind} {size:Nat} (hap:apT P t e size bytes=true) (hn:n<=maxLen) (hb:bytes*n<=281474976710656)
  {ln cp:Int} (hln:ln=(n:Int)) (hcp:cp=(n:Int)) (hK:∀b w' cells,cells.length=n*size->w.grownBy w' none->Sat F w' (.blk b e cells::ex) ro->K (some ⟨b,0,none⟩) n n w') :
  ∃a l c,∃w',(Instr.makeSlice t (.int kl ln) (.int kc cp)).run P w=.ok (.slice a l c) w'/\K a l c w':=by
 subst hln;subst hcp
 obtain ⟨ht,i,z',hi,hz',hs,hbb,hzs,h0⟩:=apT_spec hap
 obtain ⟨w',hr,ho,hg⟩:=run_make_full (P:=P) w w.heap.size t e i z' size ht hi hz' hs kl kc n (by rw [hbb];exact hb) hn (aN _)
 refine ⟨_,_,_,w',hr,?_⟩
 rcases ho.2 with ⟨hv,_⟩ | ⟨g,cap,cur,hv,hbg,hgg,hc,hm,hsz,htk⟩
 ·cases hv
 ·simp only [bN,aZ,Addr.mk.injEq] at hv
  obtain ⟨⟨rfl,_⟩,_,rfl⟩:=hv
  refine hK _ w' cur.toList (by rw [bD];exact hsz) hg ?_
  refine Sat.step (used:=[]) (used':=[.blk w.heap.size e cur.toList]) (rest:=ex) H ((Gr.of hg).mono (fun k _ h=>by cases h)) (by simp [foots,Ex.foot]) (fun q hq=>?_) (fun e' he _=>?_)
  ·simp only [foots,Ex.foot,av,aD,aE,aQ] at hq
   subst hq
   exact ⟨(aS.1 hgg).1,.inr (aN _)⟩
  ·simp only [aQ] at he
   subst he
   exact (⟨hgg⟩:Blk w' w.heap.size e cur.toList)
theorem sStS {A R:List Value} (H:Sat F w (.blk g t (A++R)::ex) ro) {a:Addr} {K:World->Prop} (ha:a=⟨g,A.length,none⟩) (ht:sizeB pg ty vs.length=true) (hR:vs.length<=R.length) (h1:vs.all Value.oneCell'=true)
  (h:∀w',w.grownBy w' (some g)->Sat F w' (.blk g t (A++vs++R.drop vs.length)::ex) ro->K w'):∃w',StV pg ty a (.agg vs.toArray) w w'/\K w':=by
 refine sSt0 H (i:=A.length) ha ht ?_ h1 ?_
 ·exact Nat.ble_eq_true_of_le (by rw [ae];show A.length+vs.length<=_;omega)
 ·intro w' hg H1
  refine h w' hg ?_
  have e:putL (A++R) A.length (Value.agg vs.toArray).cells.toList=A++vs++R.drop vs.length:=by
   show putL (A++R) A.length vs=_
   rw [putL_eq _ _ _ (by rw [ae];omega),ce rfl,<-aJ,List.drop_left' rfl]
  rw [e] at H1
  exact H1
def met2 (v:Int):Met:=if v / 32768=1 then met1 v else (false,0,0)
def metV (m:Met):List Value:=[.bool m.1,.int .u8 m.2.1,.int .u16 m.2.2]
theorem metV_dat (m:Met):(metV m).map .one=Met.dat m:=rfl
theorem byte128 (h:0<=x/\x < 256):(iand .u8 x (128:Int) != (0:Int))=(x / 128 == 1)/\iand .u8 (ishr .u8 x (5:Int)) (3:Int)=x / 32 % 4:=by
 refine byte_cases (fun x=>(iand .u8 x (128:Int) != (0:Int))=(x / 128 == 1)/\iand .u8 (ishr .u8 x (5:Int)) (3:Int)=x / 32 % 4) ?_ h.1 h.2
 decide +kernel
theorem c198 {c2:Value} (H:Sat F w (.blk b T [c0,c1,c2]::ex) ro)
  (hx:Ro.B ys a n c∈ro) (hb:By ys) (hn:n=2):Calls pg 198 #[.pointer (some ⟨b,0,none⟩),.slice a n c] w fun en w'=>en=.returned .nilIface/\Sat F w' (.blk b T (metV (met2 (n16 ys)))::ex) ro:=by
 apply of198
 subst hn
 have h0:=hb.getD 0
 have h1:=hb.getD 1
 have hv:n16 ys=ys.getD 0 0*256+ys.getD 1 0:=rfl
 obtain ⟨f1,f2⟩:=byte128 h0
 refine fF ?_
 obtain ⟨p_2,ep_2,hp_2,_,_⟩:=H.at_ (a:=a) hx (by omega)
 refine ⟨p_2,ep_2,by omega,by omega,?_⟩
 refine ⟨_,hp_2 0 (by omega),?_⟩
 clear hp_2
 rw [f1]
 refine ⟨_,rfl,?_⟩
 refine sSt0 H (h:=?_);clear H;intro w _ H
 refine ⟨_,rfl,?_⟩
 refine ⟨_,(H.b0.at0 rfl),?_⟩
 refine ⟨fun hc=>?_,fun hc=>?_⟩
 ·have hc':¬ys.getD 0 0 / 128=1:=by simpa using hc
  refine ⟨_,rfl,?_⟩
  refine sSt0 H (h:=?_);clear H;intro w _ H
  refine ⟨_,rfl,?_⟩
  refine sSt0 H (h:=?_);clear H;intro w _ H
  refine ⟨rfl,?_⟩
  have e:met2 (n16 ys)=(false,0,0):=by unfold met2;rw [ap (by omega)]
  rw [e]
  have e2:(ys.getD 0 0 / 128 == 1)=false:=by rw [beq_eq_false_iff_ne];exact hc'
  rw [e2] at H
  exact H
 ·have hc':ys.getD 0 0 / 128=1:=by simpa using hc
  obtain ⟨p_12,ep_12,hp_12,_,_⟩:=H.at_ (a:=a) hx (by omega)
  refine ⟨p_12,ep_12,by omega,by omega,?_⟩
  refine ⟨_,hp_12 0 (by omega),?_⟩
  clear hp_12
  rw [f2]
  refine ⟨_,rfl,?_⟩
  refine sSt0 H (h:=?_);clear H;intro w _ H
  refine call_j (c90 (Sat.rd H hx) hb (by omega)) ?_
  rintro _ w ⟨rfl,g⟩
  replace H:=H.grow g;clear g
  refine ⟨_,rfl,?_⟩
  refine ⟨_,rfl,?_⟩
  have e3:iand .u16 (n16 ys) (8191:Int)=n16 ys % 8192:=iand_low (k:=.u16) (by rfl) 13 (n16_lt hb).1 (by have:=n16_lt hb;simp only [IntKind.bits];omega) (by omega) (by decide)
  rw [e3]
  refine sSt0 H (h:=?_);clear H;intro w _ H
  refine ⟨rfl,?_⟩
  have e:met2 (n16 ys)=(true,ys.getD 0 0 / 32 % 4,n16 ys % 8192):=by
   unfold met2 met1
   rw [aG (by omega)]
   have e4:(n16 ys / 32768 == 1)=true:=by rw [beq_iff_eq];omega
   rw [e4,show n16 ys / 8192 % 4=ys.getD 0 0 / 32 % 4 by omega]
  rw [e]
  have e2:(ys.getD 0 0 / 128 == 1)=true:=by rw [beq_iff_eq];exact hc'
  rw [e2] at H
  exact H
def metsU:Nat->List Int->List Met
 | 0,_=>[]
 | n+1,xs=>met2 (n16 xs)::metsU n (xs.drop 2)
theorem metsU_snoc:∀(i:Nat) (xs:List Int),metsU (i+1) xs=metsU i xs++[met2 (n16 (xs.drop (2*i)))]
 | 0,xs=>by simp [metsU]
 | i+1,xs=>by
  rw [metsU,metsU_snoc i,metsU]
  simp only [bX,aJ]
  rw [show 2+2*i=2*(i+1) by omega]
theorem metsU_len:∀(k:Nat) (xs:List Int),(metsU k xs).length=k
 | 0,_=>rfl
 | k+1,xs=>by simp [metsU,metsU_len k]
theorem metsL_U:∀(k:Nat) (xs:List Int) (l:List Met),metsL k xs=some l->l=metsU k xs
 | 0,xs,l,h=>by cases h;rfl
 | k+1,xs,l,h=>by
  unfold metsL at h
  simp only at h
  split at h
  ·cases h
  ·rename_i hv
   cases h2:metsL k (xs.drop 2) with
   | none=>rw [h2] at h;cases h
   | some q=>
    rw [h2] at h
    simp only [aU,aZ] at h
    subst h
    rw [metsL_U k _ _ h2,metsU]
    congr 1
    unfold met2
    split
    ·rfl
    ·rename_i hv2
     have h0:n16 xs=0:=by
      by_cases h0:n16 xs=0
      ·exact h0
      ·exact absurd ⟨hv2,h0⟩ hv
     rw [h0];rfl
def mV (l:List Met):List Value:=l.flatMap metV
theorem mV_len (l:List Met):(mV l).length=3*l.length:=by
 induction l with
 | nil=>rfl
 | cons m r ih=>simp only [mV,av,ae] at ih ⊢;rw [ih];simp [metV];omega
theorem mV_dat (l:List Met):l.flatMap Met.dat=(mV l).map .one:=by
 induction l with
 | nil=>rfl
 | cons m r ih=>simp only [mV,av,bM] at ih ⊢;rw [ih,metV_dat]
theorem mV_snoc (l:List Met) (m:Met):mV (l++[m])=mV l++metV m:=by simp [mV]
theorem c196 (H:Sat F w (.blk b T [.int .u32 0,.int .u16 0,.slice none 0 0]::ex) ro)
  (hx:Ro.B ys a n c∈ro) (hb:By ys) (hE:ErrC (n < 8+2*(n16 (ys.drop 6)).toNat) ro) (hn:n<=1000000):Calls pg 196 #[.pointer (some ⟨b,0,none⟩),.slice a n c] w fun en w'=>
   ∃e m bg o k oc ro',en=.returned e/\isIf e/\(∀r∈ro,r∈ro')/\k<=65535/\Sat F w' (.blk b T [.int .u32 m,.int .u16 bg,.slice o k oc]::ex) ro' /\
    (8+2*(n16 (ys.drop 6)).toNat<=n->e=.nilIface/\m=n32 ys/\bg=n16 (ys.drop 4)/\k=(n16 (ys.drop 6)).toNat/\Ro.deep [.row 3 ((metsU k (ys.drop 8)).flatMap Met.dat)] [.slice o k oc]∈ro'):=by
 apply of196
 have hlen:=H.lenB hx
 have hnc:n<=c:=(H.deep1 hx).len.2.1
 refine ⟨fun hc=>?_,fun hc=>?_⟩
 ·rw [ah] at hc
  obtain ⟨v,h1,h2⟩:=hE.rest (by omega) 22 (by decide)
  exact ⟨v,H.cell h1 rfl,v,0,0,none,0,0,ro,rfl,h2,fun _ h=>h,by omega,H,fun h=>by omega⟩
 rw [af] at hc
 refine ⟨by omega,by omega,?_⟩
 have H4:=H.cutB hx 0 4 (by omega) (by omega)
 refine call_j (c150 (Sat.rd H4 ms) ((hb.drop 0).take _) (by omega)) ?_
 clear H4
 rintro _ w ⟨rfl,g⟩
 replace H:=H.grow g;clear g
 rw [n32_takem (by decide),List.drop_zero]
 refine ⟨_,rfl,?_⟩
 refine ⟨_,rfl,?_⟩
 refine sSt0 H (h:=?_);clear H;intro w _ H
 refine ⟨by omega,by omega,?_⟩
 refine ⟨by omega,by omega,?_⟩
 have H4:=H.cutB hx 4 6 (by omega) (by omega)
 refine call_j (c90 (Sat.rd H4 ms) ((hb.drop 4).take _) (by omega)) ?_
 clear H4
 rintro _ w ⟨rfl,g⟩
 replace H:=H.grow g;clear g
 rw [show (6:Nat) - 4=2 by rfl,n16_take]
 refine ⟨_,rfl,?_⟩
 refine ⟨_,rfl,?_⟩
 refine sSt0 H (h:=?_);clear H;intro w _ H
 refine ⟨by omega,by omega,?_⟩
 refine call_j (c90 (Rd.skip (Sat.rd H hx) _ (by omega)) (hb.drop 6) (by omega)) ?_
 rintro _ w ⟨rfl,g⟩
 replace H:=H.grow g;clear g
 refine ⟨_,rfl,?_⟩
 have hnum:=n16_lt (hb.drop 6)
 generalize hN:n16 (ys.drop 6)=N at hnum ⊢
 obtain ⟨k,rfl⟩:=br hnum.1
 rw [wi64_of (n:=(k:Int)) (by omega) (by omega),au]
 refine ⟨fun h0=>?_,fun h0=>?_⟩
 ·have h0:(k:Int)=0:=by simpa using h0
  obtain rfl:k=0:=by omega
  exact ⟨_,n32 ys,n16 (ys.drop 4),none,0,0,_,rfl,trivial,fun r h=>mt h,by omega,H.addRo (r:=.deep [.row 3 ((metsU 0 (ys.drop 8)).flatMap Met.dat)] [.slice none 0 0]) (dc (.emp _ _) dn),fun _=>⟨rfl,rfl,rfl,rfl,ms⟩⟩
 refine ⟨fun h=>by rw [ah] at h;omega,fun _=>?_⟩
 rw [wi64_of (n:=(k:Int)*2) (by omega) (by omega),wi64_of (n:=8+(k:Int)*2) (by omega) (by omega)]
 refine ⟨fun h=>?_,fun h=>?_⟩
 ·rw [ah] at h
  obtain ⟨v,h1,h2⟩:=hE.rest (by rw [hN];omega) 23 (by decide)
  exact ⟨v,H.cell h1 rfl,v,_,_,none,0,0,ro,rfl,h2,fun _ h=>h,by omega,H,fun h=>by omega⟩
 rw [af] at h
 refine sMkS H (bytes:=4) (size:=3) (e:=281) (by kernel_rfl) (by unfold maxLen;omega) (by omega) (n:=k) rfl rfl ?_
 clear H;intro g w cells hcl _ H
 refine ⟨_,rfl,?_⟩
 refine sSt1 H (h:=?_);clear H;intro w _ H
 refine ⟨fun x24 m_20 w=>∃(i:Nat) (R:List Value),x24=(i:Int)/\i+m_20=k/\R.length=3*(k - i) /\
  Sat F w (.blk g 281 (mV (metsU i (ys.drop 8))++R)::.blk b T [.int .u32 (n32 ys),.int .u16 (n16 (ys.drop 4)),.slice (some ⟨g,0,none⟩) k k]::ex) ro,⟨k,0,cells,rfl,by omega,by omega,H⟩,?_⟩
 clear H;rintro dd19 x24 m_20 w ⟨i,R,rfl,him,hRl,H⟩
 refine ⟨fun h2=>?_,fun h2=>?_⟩
 ·rw [ah] at h2
  refine sNew H ?_;clear H;intro b25 w _ H
  have e8:i64.wrap ((8:Int)+(i64.wrap ((2:Int)*(i:Int))))=((8+2*i:Nat):Int):=by rw [wi64_of (n:=2*(i:Int)) (by omega) (by omega),wi64_of (by omega) (by omega)];omega
  rw [e8,wi64_of (n:=((8+2*i:Nat):Int)+2) (by omega) (by omega),show (((8+2*i:Nat):Int)+2).toNat=10+2*i by omega,au,show 10+2*i - (8+2*i)=2 by omega]
  refine ⟨by omega,by omega,?_⟩
  refine ⟨by omega,by omega,?_⟩
  have H1:=H.cutB hx (8+2*i) (10+2*i) (by omega) (by omega)
  rw [show 10+2*i - (8+2*i)=2 by omega] at H1
  refine call_j (c198 H1 ms ((hb.drop _).take _) rfl) ?_
  clear H H1
  rintro _ w ⟨rfl,H⟩
  rw [n16_take] at H
  refine ⟨_,rfl,by simp [isIf],fun h=>absurd h (by decide),fun _=>?_⟩
  refine ⟨_,rfl,?_⟩
  replace H:=H.drew;generalize w.drew=w at H ⊢
  refine ⟨_,_,_,(H.b2.at0 rfl),?_⟩
  refine ⟨_,_,_,Ld0 rfl H.b0 (by kernel_rfl),?_⟩
  refine ⟨_,rfl,by omega,by omega,?_⟩
  have hml:(mV (metsU i (ys.drop 8))).length=3*i:=by rw [mV_len,metsU_len]
  refine sStS H.r1 (vs:=metV (met2 (n16 (ys.drop (8+2*i))))) (by rw [add_flat,show (i:Int).toNat*3=3*i by omega,aK,hml]) (by kernel_rfl) (by show 3<=R.length;omega) (by rfl) ?_
  clear H;intro w _ H
  refine ⟨m_20 - 1,by omega,i+1,R.drop 3,?_,by omega,by rw [az];omega,?_⟩
  ·rw [wi64_of (by omega) (by omega)];simp
  ·rw [metsU_snoc,mV_snoc,aJ]
   exact H.sub (List.Sublist.cons_cons _ (sc1)) (fun r hr=>mt hr)
 ·rw [af] at h2
  obtain rfl:i=k:=by omega
  have hR0:R=[]:=aF (by omega)
  subst hR0
  rw [aE] at H
  have H1:=H.blkRow 3 i ((metsU i (ys.drop 8)).flatMap Met.dat) (by rw [mV_len,metsU_len];omega) (by unfold maxLen;omega) (fun G h=>by rw [mV_dat];exact DeepL.ones _)
  exact ⟨_,_,_,_,i,i,_,rfl,trivial,fun r h=>mt h,by omega,H1,fun _=>⟨rfl,rfl,rfl,rfl,ms⟩⟩
theorem c195 {oc:Nat} {m bg:Value} {o:Option Addr} (H:Sat F w (.blk b T [m,bg,.slice o k oc]::ex) ro) (hk:k<=65535) :
  Calls pg 195 #[.pointer (some ⟨b,0,none⟩)] w fun en w'=>en=.returned (.int .i64 ((8+2*(k+k % 2):Nat):Int))/\Sat F w' (.blk b T [m,bg,.slice o k oc]::ex) ro:=by
 apply of195
 refine ⟨_,rfl,?_⟩
 refine ⟨_,_,_,(H.b0.at0 rfl),?_⟩
 refine ⟨by decide,?_⟩
 have ht:((k:Nat):Int).tmod 2=((k % 2:Nat):Int):=by rw [bz (by omega)];omega
 rw [ht]
 refine ⟨fun h=>?_,fun h=>?_⟩
 ·have h0:¬((k % 2:Nat):Int)=0:=by simpa using h
  refine ⟨?_,H⟩
  rw [wi64_of (n:=(k:Int)+1) (by omega) (by omega),wi64_of (n:=2*((k:Int)+1)) (by omega) (by omega),wi64_of (by omega) (by omega)]
  congr 2
  omega
 ·have h0:((k % 2:Nat):Int)=0:=by simpa using h
  refine ⟨?_,H⟩
  rw [wi64_of (n:=2*(k:Int)) (by omega) (by omega),wi64_of (by omega) (by omega)]
  congr 2
  omega
theorem c192 {c2:Value} (H:Sat F w (.blk b T [c0,c1,c2]::ex) ro)
  (hx:Ro.B xs a n c∈ro) (hb:By xs) (hE:ErrC (gd xs=none) ro) (hd:Hd xs 205 11) (hn:n<=1000000):Calls pg 192 #[.pointer (some ⟨b,0,none⟩),.slice a n c] w (UPost F b T 3 ex ro (gd xs)):=by
 apply of192
 have hlen:=H.lenB hx
 have hk:kindOf (hT xs) (hC xs)=8:=by rw [hd.typ,hd.cnt];rfl
 have hU:=rdBody_fb hk (by decide)
 rw [az] at hU
 have hU2:¬xs.length - 4 < 8->rdBody xs=rdCc (n32 (xs.drop 4)) (xs.drop 8):=by
  intro h
  rw [hU,ap h]
  unfold rdFb
  simp only
  rw [ap (by decide),ap (by decide),ap (by decide),ap (by decide),ap (by decide),aG trivial,aJ]
 refine ⟨fun hc=>?_,fun hc=>?_⟩
 ·rw [ah] at hc
  exact uErr H (ak _) (fun _ h=>h) hE rfl (gd_none (by rw [hU,aG (by omega)])) (by decide)
 rw [af] at hc
 refine sNew H ?_;clear H;intro b2 w _ H
 refine call_j (c55 H hx hb hd.ok) ?_
 rintro _ w ⟨rfl,H⟩
 refine ⟨_,rfl,by simp [isIf],fun h=>absurd h (by decide),fun _=>?_⟩
 refine ⟨_,(H.b0.at0 rfl),?_⟩
 rw [hd.typ]
 refine fF ?_
 refine ⟨by omega,by omega,?_⟩
 refine call_j (c150 (Rd.skip (Sat.rd H hx) _ (by omega)) (hb.drop 4) (by omega)) ?_
 rintro _ w ⟨rfl,g⟩
 replace H:=H.grow g;clear g
 refine ⟨_,rfl,?_⟩
 refine ⟨_,rfl,?_⟩
 refine sSt1 H (by exact add_flat _ _ _) (by kernel_rfl) (by rfl) (by rfl) ?_;clear H;intro w _ H
 have e4:i64.wrap (((n:Nat):Int) - (4:Int))=((n - 4:Nat):Int):=by rw [wi64_of (by omega) (by omega)];omega
 rw [e4,au]
 refine ⟨by omega,by omega,?_⟩
 refine call_j (c150 (Rd.skip (Sat.rd H hx) _ (by omega)) (hb.drop (n - 4)) (by omega)) ?_
 rintro _ w ⟨rfl,g⟩
 replace H:=H.grow g;clear g
 refine ⟨_,rfl,?_⟩
 refine ⟨_,rfl,?_⟩
 refine sSt1 H (by exact add_flat _ _ _) (by kernel_rfl) (by rfl) (by rfl) ?_;clear H;intro w _ H
 refine sNew H ?_;clear H;intro b16 w _ H
 refine ⟨_,rfl,?_⟩
 refine sSt2 H (by exact add_flat _ _ _) (by kernel_rfl) (by rfl) (by rfl) ?_;clear H;intro w _ H
 have H0:=(H.toOwn 3 0 [] (by rfl) (by decide) (fun G h=>DeepL.nil _ _)).u2
 clear H
 have H:=H0
 clear H0
 refine ⟨fun off m_22 w=>∃(i t:Nat) (ds:List Dat) (o:Option Addr) (oc:Nat) (r:Option Nat),off=(i:Int)/\m_22=n - i/\t<=i/\i<=n+131080/\8<=i /\
  (∀lf yf,blocksL (xs.drop 8).length (xs.drop 8)=some (lf,yf)->∃L f lr,ds=L.flatMap Blo.dat/\L.length=t/\blocksL f (xs.drop i)=some (lr,yf)/\lf=L++lr) /\
  Sat F w (.blk b2 109 [.bool (hP xs),.int .u8 (hC xs),.int .u8 (hT xs),.int .u16 (hL xs)]::.blk b T [.int .u32 (n32 (xs.drop 4)),.slice o t oc,.int .u32 (n32 (xs.drop (n - 4)))]::.own 278 3 o t oc r ds::ex) ro,
  ⟨n - 8,8,0,[],_,0,_,rfl,rfl,by omega,by omega,by omega,fun lf yf h=>⟨[],_,lf,rfl,rfl,h,rfl⟩,H⟩,?_⟩
 clear H;rintro dd21 off m_22 w ⟨i,t,ds,o,oc,r,rfl,rfl,hti,hin,hi8,hch,H⟩
 refine ⟨fun h=>?_,fun h=>?_⟩
 ·rw [ah] at h
  refine sNew H ?_;clear H;intro b27 w _ H
  rw [au]
  refine ⟨by omega,by omega,?_⟩
  have H1:=H.skipB hx i (by omega)
  have hyl:(xs.drop i).length=n - i:=by rw [az,hlen]

  have hnext:∀lf yf,blocksL (xs.drop 8).length (xs.drop 8)=some (lf,yf)->∃L f lr l,ds=L.flatMap Blo.dat/\L.length=t/\8+2*((n16 ((xs.drop i).drop 6)).toNat+(n16 ((xs.drop i).drop 6)).toNat % 2)+4<=n - i/\metsL (n16 ((xs.drop i).drop 6)).toNat ((xs.drop i).drop 8)=some l /\
    blocksL f ((xs.drop i).drop (8+2*((n16 ((xs.drop i).drop 6)).toNat+(n16 ((xs.drop i).drop 6)).toNat % 2)))=some (lr,yf)/\lf=L++((n32 (xs.drop i),n16 ((xs.drop i).drop 4),l)::lr):=by
   intro lf yf hlf
   obtain ⟨L,f,lr,h1,h2,h3,h4⟩:=hch lf yf hlf
   cases f with
   | zero=>cases h3
   | succ f=>
    unfold blocksL at h3
    rw [hyl,ap (by omega)] at h3
    split at h3
    ·cases h3
    simp only at h3
    split at h3
    ·cases h3
    rename_i hs
    cases h5:metsL (n16 ((xs.drop i).drop 6)).toNat ((xs.drop i).drop 8) with
    | none=>rw [h5] at h3;cases h3
    | some l=>
     rw [h5] at h3
     simp only at h3
     split at h3
     ·cases h3
     cases h6:blocksL f ((xs.drop i).drop (8+2*((n16 ((xs.drop i).drop 6)).toNat+(n16 ((xs.drop i).drop 6)).toNat % 2))) with
     | none=>rw [h6] at h3;cases h3
     | some p=>
      obtain ⟨lr2,yf2⟩:=p
      rw [h6] at h3
      simp only [aU,aZ,Prod.mk.injEq] at h3
      obtain ⟨h7,rfl⟩:=h3
      exact ⟨L,f,lr2,l,h1,h2,by omega,rfl,h6,by rw [h4,<-h7]⟩
  have hgood:∀p,gd xs=some p->8+2*(n16 ((xs.drop i).drop 6)).toNat<=n - i:=by
   intro p hp
   obtain ⟨_,hp⟩:=gd_some hp
   rw [hU2 (by omega)] at hp
   unfold rdCc at hp
   cases h9:blocksL (xs.drop 8).length (xs.drop 8) with
   | none=>rw [h9] at hp;cases hp
   | some q=>
    obtain ⟨lf,yf⟩:=q
    obtain ⟨_,_,_,_,_,_,h10,_⟩:=hnext lf yf h9
    omega
  refine call_j (c196 H1 ms (hb.drop i) ((hE.mono (fun r h=>mt h)).imp (fun hlt=>by
   cases hg:gd xs with
   | none=>rfl
   | some p=>have:=hgood p hg;omega)) (by omega)) ?_
  clear H H1
  rintro en w ⟨e,m,bg,bo,k,boc,ro',rfl,he1,hr',hk',H,hg⟩
  refine ⟨_,rfl,he1,fun he2=>?_,fun he2=>?_⟩
  ·refine ⟨e,[.int .u32 (n32 (xs.drop 4)),.slice o t oc,.int .u32 (n32 (xs.drop (n - 4)))],ro,rfl,he1,fun _ h=>h,rfl,H.sub (by exact List.Sublist.cons _ (List.Sublist.cons _ (List.Sublist.cons_cons _ (sc1)))) (fun r hr=>hr' r (mt hr)),?_⟩
   intro p hp
   rw [(hg (hgood p hp)).1] at he2
   cases he2
  obtain ⟨nds,hnl,hnd,hng⟩:∃nds:List Dat,nds.length=3/\(∀(w:World) (G:Nat->Prop),(∀r∈ro',Ro.holds w G r)->DeepL w G nds [.int .u32 m,.int .u16 bg,.slice bo k boc])/\(8+2*(n16 ((xs.drop i).drop 6)).toNat<=n - i->nds=Blo.dat (n32 (xs.drop i),n16 ((xs.drop i).drop 4),metsU (n16 ((xs.drop i).drop 6)).toNat ((xs.drop i).drop 8))):=by
   by_cases h9:8+2*(n16 ((xs.drop i).drop 6)).toNat<=n - i
   ·obtain ⟨_,rfl,rfl,rfl,hmem⟩:=hg h9
    exact ⟨_,rfl,fun w G hh=>dc (.one _) (dc (.one _) (dc (hh _ hmem).head dn)),fun _=>rfl⟩
   ·exact ⟨[.one (.int .u32 m),.one (.int .u16 bg),.one (.slice bo k boc)],rfl,fun w G hh=>DeepL.ones [_,_,_],fun h=>absurd h h9⟩
  have hkk:8+2*(n16 ((xs.drop i).drop 6)).toNat<=n - i->k=(n16 ((xs.drop i).drop 6)).toNat:=fun h9=>(hg h9).2.2.2.1
  refine ⟨r,?_⟩;replace H:=H.drew;generalize w.drew=wd1 at H ⊢;have K:=grew_refl wd1 (r)
  refine ⟨_,rfl,?_⟩
  refine ⟨(H.ne (mt (mt ms)) (mt (mt (mt ms)))),?_⟩
  refine ⟨H.b2.row,?_⟩
  refine ⟨_,_,_,(H.b2.at0 rfl),?_⟩
  refine ⟨(H.ne ms (mt (mt (mt ms)))),?_⟩
  refine ⟨H.b0.row,?_⟩
  refine ⟨_,_,_,_,_,H.b0.ld,?_⟩
  refine ⟨rfl,?_⟩
  refine sNew H ?_;clear H;intro b37 w g H;replace K:=gtr K (grew_none _ g);clear g
  refine ⟨K,?_⟩
  refine sApp4 H (bytes:=32) (by kernel_rfl) [.int .u32 m,.int .u16 bg,.slice bo k boc] nds (by rfl) (fun j u hu=>by rw [add_flat,aK];exact H.b0.cell hu) (fun G h=>hnd _ G h) (by simp [Value.oneCell']) (by unfold maxLen;omega) (by omega) ?_
  clear H;intro x39 x39l x39c x39r w ex39 g H
  replace K:=gtr K g;clear g;replace H:=H.d1
  refine ⟨K,?_⟩
  refine ⟨_,rfl,?_⟩
  refine sSt2 H (by exact add_flat _ _ _) (by kernel_rfl) (by rfl) (by rfl) ?_;clear H;intro w _ H
  refine call_j (c195 H hk') ?_
  clear H
  rintro _ w ⟨rfl,H⟩
  refine ⟨_,rfl,?_⟩
  subst ex39
  refine ⟨n - (i+(8+2*(k+k % 2))),by omega,i+(8+2*(k+k % 2)),t+1,ds++nds,x39,x39c,x39r,?_,rfl,by omega,by omega,by omega,?_,H.sub (sc1) (fun r hr=>hr' r (mt hr))⟩
  ·rw [wi64_of (by omega) (by omega)];omega
  ·intro lf yf hlf
   obtain ⟨L,f,lr,l,h1,h2,h3,h4,h5,h6⟩:=hnext lf yf hlf
   have h9:8+2*(n16 ((xs.drop i).drop 6)).toNat<=n - i:=by omega
   refine ⟨L++[(n32 (xs.drop i),n16 ((xs.drop i).drop 4),l)],f,lr,?_,by simp [h2],?_,by rw [h6];simp⟩
   ·rw [aj,h1,hng h9,metsL_U _ _ _ h4];simp
   ·rw [hkk h9,<-aJ];exact h5
 ·rw [af] at h
  replace H:=H.r2.freeze
  refine uOk (cells:=[.int .u32 (n32 (xs.drop 4)),.slice o t oc,.int .u32 (n32 (xs.drop (n - 4)))]) H (sc1) (fun r hr=>by simp [hr]) rfl ?_
  intro p hp
  obtain ⟨_,hp⟩:=gd_some hp
  rw [hU2 (by omega)] at hp
  unfold rdCc at hp
  cases h9:blocksL (xs.drop 8).length (xs.drop 8) with
  | none=>rw [h9] at hp;cases hp
  | some q=>
   obtain ⟨lf,yf⟩:=q
   obtain ⟨L,f,lr,h1,h2,h3,h4⟩:=hch lf yf h9
   rw [h9] at hp
   simp only at hp
   split at hp
   ·rename_i hyl
    cases hp
    cases f with
    | zero=>cases h3
    | succ f=>
     unfold blocksL at h3
     rw [aG (by rw [az];omega)] at h3
     cases h3
     have hi:i=n - 4:=by have:=hyl.1;rw [az] at this;omega
     rw [aE] at h4
     subst h4
     rw [hi]
     subst h1
     exact fun G h=>dc (.one _) (dc (h (.deep [_] [_]) ms).head (dc (.one _) dn))
   ·cases hp
theorem run_f32from {b:Int} (h:0<=b/\b < 4294967296):(callFunc 100 #[.int .u32 b]).run pg w=.ok (.value (.float .f32 b.toNat)) w:=by
 rw [run_callFunc_extern (fn:=Tryz.f100) (e:=Extern.MathFloatBits.float32frombits) Tryz.func100 (by kernel_rfl) (by kernel_rfl) (by kernel_rfl) (by kernel_rfl)]
 rfl
theorem c219 {a':Option Addr} {n' c':Nat} (H:Sat F w ex ro) (hx:Ro.B xs a n c∈ro) (hy:Ro.B ys a' n' c'∈ro) (hbx:By xs) (hby:By ys) :
  Calls pg 219 #[.slice a n c,.slice a' n' c'] w fun en w'=>en=.returned (.bool (decide (xs=ys)))/\w'=w:=by
 apply of219
 refine ⟨_,_,sStr H hx uSl uU8 uStr,?_⟩
 refine ⟨_,_,sStr H hy uSl uU8 uStr,?_⟩
 refine ⟨?_,rfl⟩
 congr 2
 rw [Bool.eq_iff_iff,beq_iff_eq,str_eq hbx hby,ah]
theorem sgl_word (h0:0 < m) (h1:m < 262144) (hi:i<=63):(i+127+m.log2)*8388608+m*2 ^ (23 - m.log2) % 8388608=sgl m i/\m*2 ^ (23 - m.log2) / 8388608=1/\m.log2<=17:=by
 obtain ⟨hl,h2,h3⟩:=norm_range h0 h1 (k:=23) (by decide)
 have e1:(2:Nat) ^ 23=8388608:=rfl
 have e2:(2:Nat) ^ (23+1)=16777216:=rfl
 rw [e1] at h2
 rw [e2] at h3
 unfold sgl
 generalize m*2 ^ (23 - m.log2)=M at h2 h3 ⊢
 omega
theorem iand_bit23 (h1:M < 16777216):iand .u32 (M:Int) (8388608:Int)=if M < 8388608 then 0 else 8388608:=by
 have e:=iand_nat (k:=.u32) (by rfl) (a:=M) (b:=8388608) (by simp only [IntKind.bits];omega) (by decide)
 rw [show ((8388608:Nat):Int)=8388608 from rfl] at e
 have key:M &&& 2 ^ 23=if M < 8388608 then 0 else 8388608:=by
  apply Nat.eq_of_testBit_eq
  intro i
  rw [Nat.testBit_and,Nat.testBit_two_pow]
  by_cases h:M < 8388608
  ·rw [aG h,Nat.zero_testBit]
   by_cases hi:23=i
   ·subst hi
    rw [Nat.testBit_lt_two_pow h];rfl
   ·simp [hi]
  ·rw [ap h,show (8388608:Nat)=2 ^ 23 from rfl,Nat.testBit_two_pow]
   by_cases hi:23=i
   ·subst hi
    rw [Nat.testBit_eq_decide_div_mod_eq]
    have:M / 2 ^ 23=1:=by
     rw [show (2:Nat) ^ 23=8388608 from rfl];omega
    rw [this];rfl
   ·simp [hi]
 rw [e,show (8388608:Nat)=2 ^ 23 from rfl,key]
 by_cases h:M < 8388608
 ·rw [aG h,aG h];rfl
 ·rw [ap h,ap h];rfl
theorem byteR (h:0<=x/\x < 256):ishr .u8 x (6:Int)=x / 64/\iand .u8 (ishr .u8 x (5:Int)) (1:Int)=x / 32 % 2/\iand .u8 x (31:Int)=x % 32/\ishr .u8 x (2:Int)=x / 4/\iand .u8 x (3:Int)=x % 4:=by
 refine byte_cases (fun x=>ishr .u8 x (6:Int)=x / 64/\iand .u8 (ishr .u8 x (5:Int)) (1:Int)=x / 32 % 2/\iand .u8 x (31:Int)=x % 32/\ishr .u8 x (2:Int)=x / 4/\iand .u8 x (3:Int)=x % 4) ?_ h.1 h.2
 decide +kernel
theorem mant_word {y z:Int} (hx:0<=x/\x < 256) (hy:0<=y/\y < 256) (hz:0<=z/\z < 256) :
  ior .u32 (ior .u32 (ishl .u32 (u32.wrap (x % 4)) (16:Int)) (ishl .u32 (u32.wrap y) (8:Int))) (u32.wrap z)=(x % 4)*65536+y*256+z:=by
 rw [ishl_of (b:=(16:Int)) 16 (by rfl) (by decide),ishl_of (b:=(8:Int)) 8 (by rfl) (by decide),wu32,wu32,wu32,wu32,wu32]
 rw [show z % 4294967296=z by omega,show y % 4294967296*2 ^ 8 % 4294967296=y*256 by omega,show x % 4 % 4294967296*2 ^ 16 % 4294967296=x % 4*65536 by omega]
 rw [ior_add (k:=.u32) (by rfl) 16 (x % 4) (a:=x % 4*65536) (b:=y*256) (by omega) (by omega) (by omega) (by omega) (by simp only [IntKind.bits];omega)]
 rw [ior_add (k:=.u32) (by rfl) 8 (x % 4*256+y) (a:=x % 4*65536+y*256) (b:=z) (by omega) (by omega) hz.1 (by omega) (by simp only [IntKind.bits];omega)]
theorem bits_word {e M:Int} (he:0<=e/\e < 256) (hM:0<=M/\M < 4294967296):ior .u32 (ishl .u32 (u32.wrap e) (23:Int)) (iand .u32 M (8388607:Int))=e*8388608+M % 8388608:=by
 rw [ishl_of (b:=(23:Int)) 23 (by rfl) (by decide),wu32,wu32,iand_low (k:=.u32) (by rfl) 23 hM.1 (by simp only [IntKind.bits];omega) (by rfl) (by decide)]
 rw [show e % 4294967296*2 ^ 23 % 4294967296=e*8388608 by omega,show M % 2 ^ 23=M % 8388608 by rfl]
 exact ior_add (k:=.u32) (by rfl) 23 e (by rfl) he.1 (by omega) (by omega) (by simp only [IntKind.bits];omega)
theorem c217 (H:Sat F w (.blk b T [c0,c1,.slice none 0 0]::ex) ro)
  (hx:Ro.B xs a n c∈ro) (hb:By xs) (hE:ErrC (gd xs=none) ro) (hd:Hd xs 206 15) (hn:n<=1000000):Calls pg 217 #[.pointer (some ⟨b,0,none⟩),.slice a n c] w (UPost F b T 3 ex ro (gd xs)):=by
 apply of217
 have hlen:=H.lenB hx
 have hnc:n<=c:=(H.deep1 hx).len.2.1
 have hk:kindOf (hT xs) (hC xs)=12:=by rw [hd.typ,hd.cnt];rfl
 have hU0:=rdBody_fb hk (by decide)
 rw [az] at hU0
 have hU:rdBody xs=if xs.length - 4 < 8 then none else rdRemb (n32 (xs.drop 4)) (n32 (xs.drop 8)) (xs.drop 12):=by
  rw [hU0]
  by_cases h:xs.length - 4 < 8
  ·rw [aG h,aG h]
  ·rw [ap h,ap h]
   unfold rdFb
   simp only
   rw [ap (by decide),ap (by decide),ap (by decide),ap (by decide),aG trivial,aJ,aJ]
 clear hU0
 have hbl:(xs.drop 12).length=n - 12:=by rw [az,hlen]
 have hLn:=hd.len
 rw [hlen] at hLn
 have hok:=hd.ok
 simp only [hdrOk,aM,ah,beq_iff_eq] at hok
 have h0:=hb.getD 0
 obtain ⟨f1,f2,f3,_,_⟩:=byteR h0
 have hcnt:xs.getD 0 0 % 32=15:=hd.cnt
 have htyp:xs.getD 1 0=206:=hd.typ
 refine ⟨fun hc=>?_,fun hc=>?_⟩
 ·rw [ah] at hc
  refine uErr H (ak _) (fun _ h=>h) hE rfl (gd_none ?_) (by decide)
  rw [hU]
  split
  ·rfl
  ·unfold rdRemb;rw [aG (by omega)]
 rw [af] at hc
 have hU2:rdBody xs=rdRemb (n32 (xs.drop 4)) (n32 (xs.drop 8)) (xs.drop 12):=by rw [hU,ap (by omega)]
 clear hU
 unfold rdRemb at hU2
 rw [ap (by omega)] at hU2
 obtain ⟨p,ep,hp,_,_⟩:=H.at_ (a:=a) hx (by omega)
 refine ⟨p,ep,by omega,by omega,?_⟩
 refine ⟨_,hp 0 (by omega),?_⟩
 rw [f1,hok.2]
 refine fF ?_
 refine ⟨p,ep,by omega,by omega,?_⟩
 refine ⟨_,hp 0 (by omega),?_⟩
 rw [f2]
 refine ⟨fun h=>?_,fun h=>?_⟩
 ·have h':¬xs.getD 0 0 / 32 % 2=0:=by simpa using h
  refine uErr H (ak _) (fun _ h=>h) hE rfl ?_ (by decide)
  have hpp:hP xs=true:=by unfold hP;rw [beq_iff_eq];omega
  unfold gd
  rw [hpp];rfl
 refine ⟨p,ep,by omega,by omega,?_⟩
 refine ⟨_,hp 0 (by omega),?_⟩
 rw [f3,hcnt]
 refine fF ?_
 refine ⟨p,ep,by omega,by omega,?_⟩
 refine ⟨_,hp 1 (by omega),?_⟩
 rw [htyp]
 refine fF ?_
 clear hp ep
 refine ⟨by omega,by omega,?_⟩
 refine ⟨by omega,by omega,?_⟩
 have H1:=H.cutB hx 2 4 (by omega) (by omega)
 refine call_j (c90 (Sat.rd H1 ms) ((hb.drop 2).take _) (by omega)) ?_
 clear H1
 rintro _ w ⟨rfl,g⟩
 replace H:=H.grow g;clear g
 rw [show (4:Nat) - 2=2 by rfl,n16_take]
 refine ⟨_,rfl,?_⟩
 have hLL:n16 (xs.drop 2)=hL xs:=rfl
 have eZ:i64.wrap (u16.wrap ((u16.wrap (n16 (xs.drop 2)+(1:Int)))*(4:Int)))=((n % 65536:Nat):Int):=by
  rw [hLL,wu16,wu16,wi64_of (by omega) (by omega)];omega
 rw [eZ]
 refine ⟨fun h=>?_,fun h=>?_⟩
 ·rw [ah] at h
  refine uErr H (ak _) (fun _ h=>h) hE rfl (gd_none ?_) (by decide)
  rw [hU2]
  split
  ·rfl
  split
  ·rfl
  rw [aG (by have:=(hb.drop 12).getD 4;omega)]
 rw [af] at h
 refine ⟨fun h2=>by rw [ah] at h2;omega,fun _=>?_⟩
 refine ⟨by omega,by omega,?_⟩
 refine ⟨by omega,by omega,?_⟩
 have H1:=H.cutB hx 4 8 (by omega) (by omega)
 refine call_j (c150 (Sat.rd H1 ms) ((hb.drop 4).take _) (by omega)) ?_
 clear H1
 rintro _ w ⟨rfl,g⟩
 replace H:=H.grow g;clear g
 rw [n32_takem (by decide)]
 refine ⟨_,rfl,?_⟩
 refine ⟨_,rfl,?_⟩
 refine sSt0 H (h:=?_);clear H;intro w _ H
 refine ⟨by omega,by omega,?_⟩
 refine ⟨by omega,by omega,?_⟩
 have H1:=H.cutB hx 8 12 (by omega) (by omega)
 refine call_j (c150 (Sat.rd H1 ms) ((hb.drop 8).take _) (by omega)) ?_
 clear H1
 rintro _ w ⟨rfl,g⟩
 replace H:=H.grow g;clear g
 rw [n32_takem (by decide)]
 refine ⟨_,rfl,?_⟩
 refine ⟨fun h2=>?_,fun h2=>?_⟩
 ·have h3:n32 (xs.drop 8)≠0:=by simpa using h2
  exact uErr (cells:=[.int .u32 (n32 (xs.drop 4)),c1,.slice none 0 0]) H (ak _) (fun _ h=>h) hE rfl (gd_none (by rw [hU2,aG h3])) (by decide)
 have h3:¬n32 (xs.drop 8)≠0:=by simpa using h2
 rw [ap h3] at hU2
 refine ⟨by omega,by omega,?_⟩
 refine ⟨by omega,by omega,?_⟩
 refine sNew H ?_;clear H;intro b25 w _ H
 have H1:=(H.blkRow 1 4 (ob [82,69,77,66]) (by rfl) (by decide) (fun G h=>DeepL.ones [_,_,_,_]))
 have H2:=H1.cutB (mt hx) 12 16 (by omega) (by omega)
 refine call_j (c219 (xs:=(xs.drop 12).take (16 - 12)) (ys:=[82,69,77,66]) H2 ms (mt ms) ((hb.drop 12).take _) (by intro x hx;simp at hx;omega)) ?_
 clear H2
 rintro _ w' ⟨rfl,rfl⟩
 replace H:=H1.sub (ak _) (fun r h=>mt h)
 clear H1
 refine ⟨_,rfl,?_⟩
 refine ⟨fun h4=>?_,fun h4=>?_⟩
 ·have h5:(xs.drop 12).take 4≠[82,69,77,66]:=by simpa using h4
  exact uErr (cells:=[.int .u32 (n32 (xs.drop 4)),c1,.slice none 0 0]) H (ak _) (fun _ h=>h) hE rfl (gd_none (by rw [hU2,aG h5])) (by decide)
 have h5:¬(xs.drop 12).take 4≠[82,69,77,66]:=by simpa using h4
 rw [ap h5] at hU2
 obtain ⟨p,ep,hp,_,_⟩:=H.at_ (a:=a) hx (by omega)
 refine ⟨p,ep,by omega,by omega,?_⟩
 refine ⟨_,hp 16 (by omega),?_⟩
 have hgd:(xs.drop 12).getD 4 0=xs.getD 16 0:=getD_drop _ _ _
 have h16:=hb.getD 16
 rw [hgd] at hU2
 generalize xs.getD 16 0=y at h16 hU2 ⊢
 obtain ⟨num,rfl⟩:=br h16.1
 rw [au] at hU2
 rw [wi64_of (n:=(num:Int)) (by omega) (by omega),wi64_of (n:=4*(num:Int)) (by omega) (by omega),wi64_of (n:=20+4*(num:Int)) (by omega) (by omega)]
 refine ⟨fun h6=>?_,fun h6=>?_⟩
 ·have h7:¬((n % 65536:Nat):Int)=20+4*(num:Int):=by simpa using h6
  exact uErr (cells:=[.int .u32 (n32 (xs.drop 4)),c1,.slice none 0 0]) H (ak _) (fun _ h=>h) hE rfl (gd_none (by rw [hU2,aG (by omega)])) (by decide)
 have h7:((n % 65536:Nat):Int)=20+4*(num:Int):=by simpa using h6
 refine ⟨p,ep,by omega,by omega,?_⟩
 refine ⟨_,hp 17 (by omega),?_⟩
 refine ⟨p,ep,by omega,by omega,?_⟩
 clear hp
 replace H:=H.drew;generalize w.drew=w at H ⊢
 obtain ⟨p',ep',hp,_,_⟩:=H.at_ (a:=a) hx (by omega)
 rw [ep] at ep'
 cases ep'
 refine ⟨_,hp 17 (by omega),?_⟩
 refine ⟨p,ep,by omega,by omega,?_⟩
 refine ⟨_,hp 18 (by omega),?_⟩
 refine ⟨p,ep,by omega,by omega,?_⟩
 refine ⟨_,hp 19 (by omega),?_⟩
 clear hp ep
 have h17:=hb.getD 17
 have h18:=hb.getD 18
 have h19:=hb.getD 19
 obtain ⟨_,_,_,g4,g5⟩:=byteR h17
 have eexp:u8.wrap ((u8.wrap ((ishr .u8 (xs.getD 17 0) (2:Int))+(127:Int)))+(23:Int))=xs.getD 17 0 / 4+150:=by rw [g4,wu8,wu8];omega
 rw [eexp,g5,mant_word h17 h18 h19]
 have hn24:n24 ((xs.drop 12).drop 5)=xs.getD 17 0*65536+xs.getD 18 0*256+xs.getD 19 0:=by
  rw [aJ];unfold n24;rw [getD_drop,getD_drop,getD_drop]
 rw [hn24] at hU2
 have hmq:(xs.getD 17 0*65536+xs.getD 18 0*256+xs.getD 19 0) % 262144=xs.getD 17 0 % 4*65536+xs.getD 18 0*256+xs.getD 19 0/\(xs.getD 17 0*65536+xs.getD 18 0*256+xs.getD 19 0) / 262144=xs.getD 17 0 / 4:=by omega
 rw [hmq.1,hmq.2] at hU2
 clear hn24 hmq eexp g4 g5
 have hm:0<=xs.getD 17 0 % 4*65536+xs.getD 18 0*256+xs.getD 19 0/\xs.getD 17 0 % 4*65536+xs.getD 18 0*256+xs.getD 19 0 < 262144:=by omega
 have he:0<=xs.getD 17 0 / 4/\xs.getD 17 0 / 4<=63:=by omega
 generalize xs.getD 17 0 % 4*65536+xs.getD 18 0*256+xs.getD 19 0=mm at hm hU2 ⊢
 generalize xs.getD 17 0 / 4=ee at he hU2 ⊢
 obtain ⟨m,rfl⟩:=br hm.1
 obtain ⟨e,rfl⟩:=br he.1
 rw [au,au] at hU2
 refine ⟨fun h8=>?_,fun h8=>?_⟩
 ·have hm0:0 < m:=by
   have:¬(m:Int)=0:=by simpa using h8
   omega
  obtain ⟨w1,w2,w3⟩:=sgl_word (i:=e) hm0 (by omega) (by omega)
  refine ⟨fun exp47 mant48 m_43 w=>∃j:Nat,exp47=(e:Int)+150 - (j:Int)/\mant48=((m*2 ^ j:Nat):Int)/\j+m_43=23 - m.log2/\Sat F w (.blk b T [.int .u32 (n32 (xs.drop 4)),c1,.slice none 0 0]::ex) ro,⟨23 - m.log2,0,by omega,by simp,by omega,H⟩,?_⟩
  clear H;rintro dd42 exp47 mant48 m_43 w ⟨j,rfl,rfl,hjm,H⟩
  have hpj:m*2 ^ j<=m*2 ^ (23 - m.log2):=Nat.mul_le_mul_left _ (bR (by decide) (by omega))
  have hM:m*2 ^ j < 16777216:=by omega
  have hpos:1<=m*2 ^ j:=Nat.mul_pos hm0 (aR _)
  rw [iand_bit23 hM]
  refine ⟨fun h9=>?_,fun h9=>?_⟩
  ·have hlt:m*2 ^ j < 8388608:=by
    by_cases hq:m*2 ^ j < 8388608
    ·exact hq
    ·rw [ap hq] at h9;exact absurd h9 (by decide)
   have hj:j≠23 - m.log2:=by
    intro hj;rw [hj] at hlt;omega
   refine ⟨m_43 - 1,by omega,j+1,?_,?_,by omega,H⟩
   ·rw [wu8];omega
   ·rw [wu32,Nat.pow_succ,<-Nat.mul_assoc];omega
  ·have hge:8388608<=m*2 ^ j:=by
    by_cases hq:m*2 ^ j < 8388608
    ·rw [aG hq] at h9;exact absurd h9 (by decide)
    ·omega
   have hj:j=23 - m.log2:=by
    by_cases hj:j=23 - m.log2
    ·exact hj
    ·exfalso
     have h10:m*2 ^ (j+1)<=m*2 ^ (23 - m.log2):=Nat.mul_le_mul_left _ (bR (by decide) (by omega))
     rw [Nat.pow_succ,<-Nat.mul_assoc] at h10
     omega
   subst hj
   have hw:ior .u32 (ishl .u32 (u32.wrap ((e:Int)+150 - ((23 - m.log2:Nat):Int))) (23:Int)) (iand .u32 ((m*2 ^ (23 - m.log2):Nat):Int) (8388607:Int))=((sgl m e:Nat):Int):=by
    rw [bits_word (by omega) (by omega)]
    omega
   rw [hw]
   have hsl:sgl m e < 4294967296:=by omega
   refine ⟨_,_,run_f32from (by omega),?_⟩
   rw [au]
   refine ⟨_,rfl,?_⟩
   refine sSt0 H (h:=?_);clear H;intro w _ H
   refine ⟨_,rfl,?_⟩
   refine sSt0 H (h:=?_);clear H;intro w _ H
   refine ⟨fun n61 m_57 w=>∃(i:Nat) (o:Option Addr) (oc:Nat) (r:Option Nat),n61=((20+4*i:Nat):Int)/\i+m_57=num /\
    Sat F w (.blk b T [.int .u32 (n32 (xs.drop 4)),.float .f32 (sgl m e),.slice o i oc]::.own 51 1 o i oc r (oi .u32 (words i (xs.drop 20)))::ex) ro,⟨num,0,none,0,none,rfl,by omega,(H.nilOwn 51 1).u1⟩,?_⟩
   clear H;rintro dd56 n61 m_57 w ⟨i,o,oc,r,rfl,him,H⟩
   refine ⟨fun h=>?_,fun h=>?_⟩
   ·rw [ah] at h
    rw [wi64_of (n:=((20+4*i:Nat):Int)+4) (by omega) (by omega),show (((20+4*i:Nat):Int)+4).toNat=24+4*i by omega,au]
    refine ⟨by omega,by omega,?_⟩
    refine ⟨by omega,by omega,?_⟩
    have H1:=H.cutB hx (20+4*i) (24+4*i) (by omega) (by omega)
    refine call_j (c150 (Sat.rd H1 ms) ((hb.drop _).take _) (by omega)) ?_
    clear H1
    rintro _ w ⟨rfl,g⟩
    replace H:=H.grow g;clear g
    rw [n32_takem (by omega)]
    refine ⟨_,rfl,?_⟩
    refine ⟨_,rfl,?_⟩
    refine ⟨_,_,_,(H.b0.at0 rfl),?_⟩
    refine ⟨rfl,?_⟩
    refine sPush1 H (bytes:=4) (nds:=[.one (.int .u32 (n32 (xs.drop (20+4*i))))]) (hD:=(fun G h=>by repeat (exact DeepL.ones _))) (hK:=?_)
    clear H;intro x68 x68l x68c x68r w ex68 _ H
    refine ⟨_,rfl,?_⟩
    refine sSt0 H (h:=?_);clear H;intro w _ H
    subst ex68
    refine ⟨m_57 - 1,by omega,i+1,x68,x68c,x68r,?_,by omega,?_⟩
    ·omega
    ·rw [words_snoc,oi_snoc,aJ]
     exact H
   ·rw [af] at h
    obtain rfl:i=num:=by omega
    replace H:=H.r1.freeze
    refine uOk (cells:=[.int .u32 (n32 (xs.drop 4)),.float .f32 (sgl m e),.slice o i oc]) H (ak _) (fun r hr=>by simp [hr]) rfl ?_
    intro p hp
    obtain ⟨_,hp⟩:=gd_some hp
    rw [hU2] at hp
    split at hp
    ·cases hp
    split at hp
    ·cases hp
    cases hp
    rw [aJ]
    exact fun G h=>dc (.one _) (dc (by rw [au];exact .one _) (dc (h (.deep [_] [_]) ms).head dn))
 ·have hm0:m=0:=by
   have:(m:Int)=0:=by simpa using h8
   omega
  subst hm0
  have hw:ior .u32 (ishl .u32 (u32.wrap ((e:Int)+150)) (23:Int)) (iand .u32 ((0:Nat):Int) (8388607:Int))=(((e+150)*8388608:Nat):Int):=by
   rw [bits_word (by omega) (by omega)]
   omega
  rw [hw]
  refine ⟨_,_,run_f32from (by omega),?_⟩
  rw [au]
  refine ⟨_,rfl,?_⟩
  refine sSt0 H (h:=?_);clear H;intro w _ H
  refine ⟨_,rfl,?_⟩
  refine sSt0 H (h:=?_);clear H;intro w _ H
  refine ⟨fun n61 m_57 w=>∃(i:Nat) (o:Option Addr) (oc:Nat) (r:Option Nat),n61=((20+4*i:Nat):Int)/\i+m_57=num /\
   Sat F w (.blk b T [.int .u32 (n32 (xs.drop 4)),.float .f32 ((e+150)*8388608),.slice o i oc]::.own 51 1 o i oc r (oi .u32 (words i (xs.drop 20)))::ex) ro,⟨num,0,none,0,none,rfl,by omega,(H.nilOwn 51 1).u1⟩,?_⟩
  clear H;rintro dd56 n61 m_57 w ⟨i,o,oc,r,rfl,him,H⟩
  refine ⟨fun h=>?_,fun h=>?_⟩
  ·rw [ah] at h
   rw [wi64_of (n:=((20+4*i:Nat):Int)+4) (by omega) (by omega),show (((20+4*i:Nat):Int)+4).toNat=24+4*i by omega,au]
   refine ⟨by omega,by omega,?_⟩
   refine ⟨by omega,by omega,?_⟩
   have H1:=H.cutB hx (20+4*i) (24+4*i) (by omega) (by omega)
   refine call_j (c150 (Sat.rd H1 ms) ((hb.drop _).take _) (by omega)) ?_
   clear H1
   rintro _ w ⟨rfl,g⟩
   replace H:=H.grow g;clear g
   rw [n32_takem (by omega)]
   refine ⟨_,rfl,?_⟩
   refine ⟨_,rfl,?_⟩
   refine ⟨_,_,_,(H.b0.at0 rfl),?_⟩
   refine ⟨rfl,?_⟩
   refine sPush1 H (bytes:=4) (nds:=[.one (.int .u32 (n32 (xs.drop (20+4*i))))]) (hD:=(fun G h=>by repeat (exact DeepL.ones _))) (hK:=?_)
   clear H;intro x68 x68l x68c x68r w ex68 _ H
   refine ⟨_,rfl,?_⟩
   refine sSt0 H (h:=?_);clear H;intro w _ H
   subst ex68
   refine ⟨m_57 - 1,by omega,i+1,x68,x68c,x68r,?_,by omega,?_⟩
   ·omega
   ·rw [words_snoc,oi_snoc,aJ]
    exact H
  ·rw [af] at h
   obtain rfl:i=num:=by omega
   replace H:=H.r1.freeze
   refine uOk (cells:=[.int .u32 (n32 (xs.drop 4)),.float .f32 ((e+150)*8388608),.slice o i oc]) H (ak _) (fun r hr=>by simp [hr]) rfl ?_
   intro p hp
   obtain ⟨_,hp⟩:=gd_some hp
   rw [hU2] at hp
   split at hp
   ·cases hp
   rw [aG (by simp)] at hp
   cases hp
def go (xs:List Int):Option Pk:=if (rdOne xs).1=0 then some (rdOne xs).2 else none
theorem go_gd {t c:Int} (hd:Hd xs t c) (hk:kindOf t c≠0):go xs=gd xs:=by
 have h1:¬hdrOk xs=false:=by rw [hd.ok];decide
 have hU:rdOne xs=if hP xs then (2,{}) else oneOf (rdBody xs):=by
  unfold rdOne
  rw [ap h1,ap (by have:=hd.len;omega),hd.typ,hd.cnt,ap hk]
 unfold go gd
 rw [hU]
 by_cases hp:hP xs=true
 ·rw [aG hp,aG hp];rfl
 ·rw [ap hp,ap hp]
  cases rdBody xs<;>rfl
theorem go_raw {t c:Int} (hd:Hd xs t c) (hk:kindOf t c=0):go xs=if t=207 then none else some { data:=xs }:=by
 have h1:¬hdrOk xs=false:=by rw [hd.ok];decide
 have hU:rdOne xs=if hT xs=207 then (2,{}) else (0,{ data:=xs }):=by
  unfold rdOne
  rw [ap h1,ap (by have:=hd.len;omega)]
  have:kindOf (hT xs) (hC xs)=0:=by rw [hd.typ,hd.cnt];exact hk
  rw [aG this]
 unfold go
 rw [hU,hd.typ]
 split<;>rfl
theorem hdr_bad {P:Prop} (H:Sat F w (.blk b t cells::ex) ro)
  (hx:Ro.B xs a n c∈ro) (hb:By xs) (hE:ErrC P ro) (hok:hdrOk xs=false):Calls pg 55 #[.pointer (some ⟨b,0,none⟩),.slice a n c] w fun en w'=>∃e,en=.returned e/\isIf e/\isNilI e=false/\Sat F w' (.blk b t cells::ex) ro:=by
 apply of55
 have hlen:=H.lenB hx
 obtain ⟨e1,_,_⟩:=hdr_bits (hb.getD 0)
 refine ⟨fun hc=>?_,fun hc=>?_⟩
 ·obtain ⟨v,h1,h2,h3⟩:=hE.laid 1 (by decide)
  exact ⟨v,H.cell h1 rfl,v,rfl,h2,h3 (by decide),H⟩
 rw [af] at hc
 obtain ⟨p,rfl,hp,kp,fp⟩:=H.at_ (a:=a) hx (by omega)
 refine ⟨p,rfl,by omega,by omega,?_⟩
 refine ⟨_,hp 0 (by omega),?_⟩
 rw [e1]
 refine ⟨fun _=>?_,fun hc2=>?_⟩
 ·obtain ⟨v,h1,h2,h3⟩:=hE.laid 2 (by decide)
  exact ⟨v,H.cell h1 rfl,v,rfl,h2,h3 (by decide),H⟩
 ·have h2:xs.getD 0 0 / 64=2:=by simpa using hc2
  have:hdrOk xs=true:=by
   simp only [hdrOk,aM,ah,beq_iff_eq]
   exact ⟨by omega,h2⟩
  rw [this] at hok
  cases hok
def tyK (k:Int):TypeId:=
 if k=1 then 190 else if k=2 then 195 else if k=3 then 198 else if k=4 then 200 else if k=5 then 204 else
 if k=6 then 207 else if k=7 then 214 else if k=8 then 217 else if k=9 then 222 else if k=10 then 224 else
 if k=11 then 229 else if k=12 then 235 else if k=13 then 240 else 242
def pkI (p:Pk):Dat:=.ifc (tyK p.kind) (.ptr (rtcpD p))
theorem gd_kind {t c:Int} (hd:Hd xs t c) (hk:kindOf t c≠0) (h:gd xs=some p):p.kind=kindOf t c:=by
 obtain ⟨_,hp⟩:=gd_some h
 have hkk:kindOf (hT xs) (hC xs)=kindOf t c:=by rw [hd.typ,hd.cnt]
 unfold rdBody at hp
 simp only [hkk] at hp
 have hkr:kindOf t c=0\/kindOf t c=1\/kindOf t c=2\/kindOf t c=3\/kindOf t c=4\/kindOf t c=5\/kindOf t c=6\/kindOf t c=7\/kindOf t c=8\/kindOf t c=9\/kindOf t c=10\/kindOf t c=11\/kindOf t c=12\/kindOf t c=13:=by
  unfold kindOf
  repeat' (omega)
 generalize kindOf t c=k at hp hkr hk ⊢
 rcases hkr with rfl | rfl | rfl | rfl | rfl | rfl | rfl | rfl | rfl | rfl | rfl | rfl | rfl | rfl
 ·exact absurd rfl hk
 all_goals simp only [rdFb,Int.reduceEq,if_true,bO,or_true,true_or,or_self] at hp
 all_goals (try unfold rdBye at hp)
 all_goals (try unfold rdRemb at hp)
 all_goals (try unfold rdCc at hp)
 all_goals (try unfold rdT at hp)
 all_goals (try simp only at hp)
 all_goals (repeat' (first | (cases hp;done) | (cases hp;rfl) | (simp only [Option.map_eq_some_iff] at hp;obtain ⟨_,_,rfl⟩:=hp;rfl) | split at hp))
def UmPost (F:Fr) (ex:List Ex) (ro:List Ro) (xs:List Int) (en:Ending) (w':World):Prop:=
 ((hdrOk xs=false\/(xs.length:Int) < 4*(hL xs+1))/\∃e,en=.returned (.tuple #[.nilIface,.int .i64 0,e])/\isIf e/\isNilI e=false/\Sat F w' ex ro) \/
 (hdrOk xs=true/\4*(hL xs+1)<=(xs.length:Int)/\∃T v e ro',en=.returned (.tuple #[.iface T v,.int .i64 (4*(hL xs+1)),e])/\isIf e/\(∀r∈ro,r∈ro')/\Sat F w' ex ro' /\
  ∀p,go (xs.take (4*(hL xs+1)).toNat)=some p->e=.nilIface/\Ro.deep [pkI p] [.iface T v]∈ro')
theorem head_take {S:Nat} (h:4<=S):hdrOk (xs.take S)=(hdrOk xs)/\hL (xs.take S)=hL xs/\hT (xs.take S)=hT xs/\hC (xs.take S)=hC xs:=by
 have h0:(xs.take S).getD 0 0=xs.getD 0 0:=getD_take (by omega)
 have h1:(xs.take S).getD 1 0=xs.getD 1 0:=getD_take (by omega)
 have h2:(xs.take S).getD 2 0=xs.getD 2 0:=getD_take (by omega)
 have h3:(xs.take S).getD 3 0=xs.getD 3 0:=getD_take (by omega)
 refine ⟨?_,?_,h1,?_⟩
 ·unfold hdrOk
  rw [h0]
  have:decide (4<=(xs.take S).length)=decide (4<=xs.length):=by rw [bq];congr 1;apply propext;omega
  rw [this]
 ·unfold hL n16
  rw [getD_drop,getD_drop,getD_drop,getD_drop]
  exact congr (congrArg _ (congrArg (·*256) h2)) h3
 ·unfold hC;rw [h0]
theorem uFin {TT:TypeId} {e:Value} (H:Sat F w (.blk b T cells::exs) ro') (hs:ex.Sublist exs) (hok:hdrOk xs=true) (hS:4*(hL xs+1)<=(xs.length:Int)) (he:isIf e) (hr:∀r∈ro,r∈ro')
  (hg:∀p,gd (xs.take (4*(hL xs+1)).toNat)=some p->e=.nilIface/\Ro.deep (rtcpD p) cells∈ro') (hgo:go (xs.take (4*(hL xs+1)).toNat)=gd (xs.take (4*(hL xs+1)).toNat)) (hT:∀p,gd (xs.take (4*(hL xs+1)).toNat)=some p->tyK p.kind=TT) :
  UmPost F ex ro xs (.returned (.tuple #[.iface TT (.pointer (some ⟨b,0,none⟩)),.int .i64 (4*(hL xs+1)),e])) w:=by
 refine .inr ⟨hok,hS,?_⟩
 cases hq:gd (xs.take (4*(hL xs+1)).toNat) with
 | none=>exact ⟨TT,_,e,ro',rfl,he,hr,H.sub (hs.trans (sc1)) (fun _ h=>h),fun p hp=>by rw [hgo,hq] at hp;cases hp⟩
 | some p=>
  obtain ⟨h1,h2⟩:=hg p hq
  have H1:=H.blkPtr (rtcpD p) (fun G h=>h _ h2)
  have H2:=H1.addD (ds:=[pkI p]) (vs:=[.iface TT (.pointer (some ⟨b,0,none⟩))]) (fun G h=>by unfold pkI;rw [hT p hq];exact dc (.ifc _ _ _ (h (.deep [_] [_]) ms).head) dn)
  refine ⟨TT,_,e,_,rfl,he,fun r h=>mt (mt (hr r h)),H2.sub hs (fun _ h=>h),fun p' hp=>?_⟩
  rw [hgo,hq] at hp
  cases hp
  exact ⟨h1,ms⟩
theorem uRaw {t k:Int} (H:Sat F w (.blk b T [.slice a n c]::exs) ro') (hs:ex.Sublist exs) (hok:hdrOk xs=true) (hS:4*(hL xs+1)<=(xs.length:Int)) (hr:∀r∈ro,r∈ro')
  (hB:Ro.B (xs.take (4*(hL xs+1)).toNat) a n c∈ro') (hd:Hd (xs.take (4*(hL xs+1)).toNat) t k) (hk:kindOf t k=0) :
  UmPost F ex ro xs (.returned (.tuple #[.iface 242 (.pointer (some ⟨b,0,none⟩)),.int .i64 (4*(hL xs+1)),.nilIface])) w:=by
 refine .inr ⟨hok,hS,?_⟩
 have hg:=go_raw hd hk
 have H1:=H.blkPtr [.row 1 (ob (xs.take (4*(hL xs+1)).toNat))] (fun G h=>h _ hB)
 have H2:=H1.addD (ds:=[pkI { data:=xs.take (4*(hL xs+1)).toNat }]) (vs:=[.iface 242 (.pointer (some ⟨b,0,none⟩))]) (fun G h=>dc (.ifc _ _ _ (h (.deep [_] [_]) ms).head) dn)
 refine ⟨_,_,.nilIface,_,rfl,trivial,fun r h=>mt (mt (hr r h)),H2.sub hs (fun _ h=>h),fun p hp=>?_⟩
 rw [hg] at hp
 split at hp
 ·cases hp
 ·cases hp
  exact ⟨rfl,ms⟩
theorem c79 (H:Sat F w ex ro)
  (hx:Ro.B xs a n c∈ro) (hb:By xs) (hE:ErrC (go (xs.take (4*(hL xs+1)).toNat)=none) ro) (hn:n<=1000000) (h13:kindOf (hT xs) (hC xs)≠13):Calls pg 79 #[.slice a n c] w (UmPost F ex ro xs):=by
 apply of79
 have hlen:=H.lenB hx
 have hnc:n<=c:=(H.deep1 hx).len.2.1
 refine sNew H ?_;clear H;intro b1 w _ H
 by_cases hok:hdrOk xs=false
 ·refine call_j (hdr_bad H hx hb hE hok) ?_
  clear H
  rintro _ w ⟨e,rfl,h1,h2,H⟩
  refine ⟨_,rfl,h1,fun _=>?_,fun h=>by rw [h2] at h;cases h⟩
  exact .inl ⟨.inl hok,e,rfl,h1,h2,H.d1⟩
 have hok:hdrOk xs=true:=by simpa using hok
 have hLr:0<=hL xs/\hL xs < 65536:=by unfold hL;exact n16_lt (hb.drop 2)
 refine call_j (c55 H hx hb hok) ?_
 clear H
 rintro _ w ⟨rfl,H⟩
 refine ⟨_,rfl,by simp [isIf],fun h=>absurd h (by decide),fun _=>?_⟩
 refine ⟨_,(H.b0.at0 rfl),?_⟩
 rw [wi64_of (n:=hL xs) (by omega) (by omega),wi64_of (n:=hL xs+1) (by omega) (by omega),wi64_of (n:=(hL xs+1)*4) (by omega) (by omega),Int.mul_comm (hL xs+1) 4]
 refine ⟨fun h=>?_,fun h=>?_⟩
 ·rw [ah] at h
  replace H:=H.drew;generalize w.drew=w at H ⊢
  obtain ⟨v,h1,h2,h3⟩:=hE.laid 1 (by decide)
  exact ⟨v,H.cell h1 rfl,.inl ⟨.inr (by omega),v,rfl,h2,h3 (by decide),H.d1⟩⟩
 rw [af] at h
 have hS:4*(hL xs+1)<=(xs.length:Int):=by omega
 obtain ⟨S,hSd⟩:∃S,S=(4*(hL xs+1)).toNat:=⟨_,rfl⟩
 have hS4:4<=S:=by omega
 obtain ⟨h1,h2,h3,h4⟩:=head_take (xs:=xs) hS4
 have hyl:(xs.take S).length=S:=by rw [bq];omega
 have hd0:Hd (xs.take S) (hT (xs.take S)) (hC (xs.take S)):=⟨by rw [h1];exact hok,by rw [h2,hyl];omega,rfl,rfl⟩
 have hby:By (xs.take S):=hb.take S
 have hn2:S<=1000000:=by omega
 refine ⟨by omega,by omega,?_⟩
 refine ⟨_,(H.b0.at0 rfl),?_⟩
 rw [<-hSd]
 have H1:Sat F w _ (Ro.B (xs.take S) (cutA a 0 c 1) S c::ro):=H.cutB hx 0 S (bE _) (by omega)
 replace H:=H1
 clear H1
 have hE2:ErrC (go (xs.take S)=none) (Ro.B (xs.take S) (cutA a 0 c 1) S c::ro):=by rw [hSd];exact hE.mono (fun r h=>mt h)
 subst hSd
 refine ⟨fun hc=>?_,fun hc=>?_⟩
 ·have ht:hT xs=200:=by simpa using hc
  have hd:Hd (xs.take (4*(hL xs+1)).toNat) 200 (hC (xs.take (4*(hL xs+1)).toNat)):=⟨hd0.ok,hd0.len,by rw [h3];exact ht,rfl⟩
  refine sNew H ?_;clear H;intro bk w _ H
  refine inv_ptr (f:=143) (e:=194) (by kernel_rfl) (by rfl) (by kernel_rfl) (call_j (c143 H ms hby (hE2.imp (fun h=>(go_gd hd (by unfold kindOf;simp)).trans h)) hd hn2) ?_)
  clear H
  rintro _ w ⟨e,cells,ro',rfl,he1,hr',hcl,H,hg⟩
  refine ⟨_,rfl,?_⟩
  exact uFin H (sc1) hok hS he1 (fun r h=>hr' r (mt h)) hg (go_gd hd (by unfold kindOf;simp)) (fun p hp=>by rw [gd_kind hd (by unfold kindOf;simp) hp];rfl)
 ·have n200:¬hT xs=200:=by simpa using hc
  refine ⟨fun hc=>?_,fun hc=>?_⟩
  ·have ht:hT xs=201:=by simpa using hc
   have hd:Hd (xs.take (4*(hL xs+1)).toNat) 201 (hC (xs.take (4*(hL xs+1)).toNat)):=⟨hd0.ok,hd0.len,by rw [h3];exact ht,rfl⟩
   refine sNew H ?_;clear H;intro bk w _ H
   refine inv_ptr (f:=156) (e:=197) (by kernel_rfl) (by rfl) (by kernel_rfl) (call_j (c156 H ms hby (hE2.imp (fun h=>(go_gd hd (by unfold kindOf;simp)).trans h)) hd hn2) ?_)
   clear H
   rintro _ w ⟨e,cells,ro',rfl,he1,hr',hcl,H,hg⟩
   refine ⟨_,rfl,?_⟩
   exact uFin H (sc1) hok hS he1 (fun r h=>hr' r (mt h)) hg (go_gd hd (by unfold kindOf;simp)) (fun p hp=>by rw [gd_kind hd (by unfold kindOf;simp) hp];rfl)
  ·have n201:¬hT xs=201:=by simpa using hc
   refine ⟨fun hc=>?_,fun hc=>?_⟩
   ·have ht:hT xs=202:=by simpa using hc
    have hd:Hd (xs.take (4*(hL xs+1)).toNat) 202 (hC (xs.take (4*(hL xs+1)).toNat)):=⟨hd0.ok,hd0.len,by rw [h3];exact ht,rfl⟩
    refine sNew H ?_;clear H;intro bk w _ H
    refine inv_ptr (f:=161) (e:=252) (by kernel_rfl) (by rfl) (by kernel_rfl) (call_j (c161 H ms hby (hE2.imp (fun h=>(go_gd hd (by unfold kindOf;simp)).trans h)) hd hn2) ?_)
    clear H
    rintro _ w ⟨e,cells,ro',rfl,he1,hr',hcl,H,hg⟩
    refine ⟨_,rfl,?_⟩
    exact uFin H (sc1) hok hS he1 (fun r h=>hr' r (mt h)) hg (go_gd hd (by unfold kindOf;simp)) (fun p hp=>by rw [gd_kind hd (by unfold kindOf;simp) hp];rfl)
   ·have n202:¬hT xs=202:=by simpa using hc
    refine ⟨fun hc=>?_,fun hc=>?_⟩
    ·have ht:hT xs=203:=by simpa using hc
     have hd:Hd (xs.take (4*(hL xs+1)).toNat) 203 (hC (xs.take (4*(hL xs+1)).toNat)):=⟨hd0.ok,hd0.len,by rw [h3];exact ht,rfl⟩
     refine sNew H ?_;clear H;intro bk w _ H
     refine inv_ptr (f:=172) (e:=203) (by kernel_rfl) (by rfl) (by kernel_rfl) (call_j (c172 H ms hby (hE2.imp (fun h=>(go_gd hd (by unfold kindOf;simp)).trans h)) hd hn2) ?_)
     clear H
     rintro _ w ⟨e,cells,ro',rfl,he1,hr',hcl,H,hg⟩
     refine ⟨_,rfl,?_⟩
     exact uFin H (sc1) hok hS he1 (fun r h=>hr' r (mt h)) hg (go_gd hd (by unfold kindOf;simp)) (fun p hp=>by rw [gd_kind hd (by unfold kindOf;simp) hp];rfl)
    ·have n203:¬hT xs=203:=by simpa using hc
     refine ⟨fun hc=>?_,fun hc=>?_⟩
     ·have ht:hT xs=205:=by simpa using hc
      refine ⟨_,(H.b0.at0 rfl),?_⟩
      refine ⟨fun hc=>?_,fun hc=>?_⟩
      ·have hct:hC xs=1:=by simpa using hc
       have hd:Hd (xs.take (4*(hL xs+1)).toNat) 205 1:=⟨hd0.ok,hd0.len,by rw [h3];exact ht,by rw [h4];exact hct⟩
       refine sNew H ?_;clear H;intro bk w _ H
       refine inv_ptr (f:=181) (e:=210) (by kernel_rfl) (by rfl) (by kernel_rfl) (call_j (c181 H ms hby (hE2.imp (fun h=>(go_gd hd (by decide)).trans h)) hd hn2) ?_)
       clear H
       rintro _ w ⟨e,cells,ro',rfl,he1,hr',hcl,H,hg⟩
       refine ⟨_,rfl,?_⟩
       exact uFin H (sc1) hok hS he1 (fun r h=>hr' r (mt h)) hg (go_gd hd (by decide)) (fun p hp=>by rw [gd_kind hd (by decide) hp];rfl)
      ·have m1:¬hC xs=1:=by simpa using hc
       refine ⟨fun hc=>?_,fun hc=>?_⟩
       ·have hct:hC xs=5:=by simpa using hc
        have hd:Hd (xs.take (4*(hL xs+1)).toNat) 205 5:=⟨hd0.ok,hd0.len,by rw [h3];exact ht,by rw [h4];exact hct⟩
        refine sNew H ?_;clear H;intro bk w _ H
        refine inv_ptr (f:=186) (e:=216) (by kernel_rfl) (by rfl) (by kernel_rfl) (call_j (c186 H ms hby (hE2.imp (fun h=>(go_gd hd (by decide)).trans h)) hd) ?_)
        clear H
        rintro _ w ⟨e,cells,ro',rfl,he1,hr',hcl,H,hg⟩
        refine ⟨_,rfl,?_⟩
        exact uFin H (sc1) hok hS he1 (fun r h=>hr' r (mt h)) hg (go_gd hd (by decide)) (fun p hp=>by rw [gd_kind hd (by decide) hp];rfl)
       ·have m5:¬hC xs=5:=by simpa using hc
        refine ⟨fun hc=>?_,fun hc=>?_⟩
        ·have hct:hC xs=15:=by simpa using hc
         exact absurd (by rw [ht,hct];rfl) h13
        ·have m15:¬hC xs=15:=by simpa using hc
         refine ⟨fun hc=>?_,fun hc=>?_⟩
         ·have hct:hC xs=11:=by simpa using hc
          have hd:Hd (xs.take (4*(hL xs+1)).toNat) 205 11:=⟨hd0.ok,hd0.len,by rw [h3];exact ht,by rw [h4];exact hct⟩
          refine sNew H ?_;clear H;intro bk w _ H
          refine inv_ptr (f:=192) (e:=221) (by kernel_rfl) (by rfl) (by kernel_rfl) (call_j (c192 H ms hby (hE2.imp (fun h=>(go_gd hd (by decide)).trans h)) hd hn2) ?_)
          clear H
          rintro _ w ⟨e,cells,ro',rfl,he1,hr',hcl,H,hg⟩
          refine ⟨_,rfl,?_⟩
          exact uFin H (sc1) hok hS he1 (fun r h=>hr' r (mt h)) hg (go_gd hd (by decide)) (fun p hp=>by rw [gd_kind hd (by decide) hp];rfl)
         ·have m11:¬hC xs=11:=by simpa using hc
          refine sNew H ?_;clear H;intro bk w _ H
          refine inv_ptr (f:=248) (e:=129) (by kernel_rfl) (by rfl) (by kernel_rfl) (call_j (c248 H ms hby hd0.ok) ?_)
          clear H
          rintro _ w ⟨rfl,H⟩
          refine ⟨_,rfl,?_⟩
          exact uRaw H (sc1) hok hS (fun r h=>mt h) ms hd0 (by rw [h3,h4,ht];unfold kindOf;simp [m1,m5,m15,m11])
     ·have n205:¬hT xs=205:=by simpa using hc
      refine ⟨fun hc=>?_,fun hc=>?_⟩
      ·have ht:hT xs=206:=by simpa using hc
       refine ⟨_,(H.b0.at0 rfl),?_⟩
       refine ⟨fun hc=>?_,fun hc=>?_⟩
       ·have hct:hC xs=1:=by simpa using hc
        have hd:Hd (xs.take (4*(hL xs+1)).toNat) 206 1:=⟨hd0.ok,hd0.len,by rw [h3];exact ht,by rw [h4];exact hct⟩
        refine sNew H ?_;clear H;intro bk w _ H
        refine inv_ptr (f:=203) (e:=223) (by kernel_rfl) (by rfl) (by kernel_rfl) (call_j (c203 H ms hby (hE2.imp (fun h=>(go_gd hd (by decide)).trans h)) hd) ?_)
        clear H
        rintro _ w ⟨e,cells,ro',rfl,he1,hr',hcl,H,hg⟩
        refine ⟨_,rfl,?_⟩
        exact uFin H (sc1) hok hS he1 (fun r h=>hr' r (mt h)) hg (go_gd hd (by decide)) (fun p hp=>by rw [gd_kind hd (by decide) hp];rfl)
       ·have m1:¬hC xs=1:=by simpa using hc
        refine ⟨fun hc=>?_,fun hc=>?_⟩
        ·have hct:hC xs=2:=by simpa using hc
         have hd:Hd (xs.take (4*(hL xs+1)).toNat) 206 2:=⟨hd0.ok,hd0.len,by rw [h3];exact ht,by rw [h4];exact hct⟩
         refine sNew H ?_;clear H;intro bk w _ H
         refine inv_ptr (f:=207) (e:=227) (by kernel_rfl) (by rfl) (by kernel_rfl) (call_j (c207 H ms hby (hE2.imp (fun h=>(go_gd hd (by decide)).trans h)) hd hn2) ?_)
         clear H
         rintro _ w ⟨e,cells,ro',rfl,he1,hr',hcl,H,hg⟩
         refine ⟨_,rfl,?_⟩
         exact uFin H (sc1) hok hS he1 (fun r h=>hr' r (mt h)) hg (go_gd hd (by decide)) (fun p hp=>by rw [gd_kind hd (by decide) hp];rfl)
        ·have m2:¬hC xs=2:=by simpa using hc
         refine ⟨fun hc=>?_,fun hc=>?_⟩
         ·have hct:hC xs=15:=by simpa using hc
          have hd:Hd (xs.take (4*(hL xs+1)).toNat) 206 15:=⟨hd0.ok,hd0.len,by rw [h3];exact ht,by rw [h4];exact hct⟩
          refine sNew H ?_;clear H;intro bk w _ H
          refine inv_ptr (f:=217) (e:=239) (by kernel_rfl) (by rfl) (by kernel_rfl) (call_j (c217 H ms hby (hE2.imp (fun h=>(go_gd hd (by decide)).trans h)) hd hn2) ?_)
          clear H
          rintro _ w ⟨e,cells,ro',rfl,he1,hr',hcl,H,hg⟩
          refine ⟨_,rfl,?_⟩
          exact uFin H (sc1) hok hS he1 (fun r h=>hr' r (mt h)) hg (go_gd hd (by decide)) (fun p hp=>by rw [gd_kind hd (by decide) hp];rfl)
         ·have m15:¬hC xs=15:=by simpa using hc
          refine ⟨fun hc=>?_,fun hc=>?_⟩
          ·have hct:hC xs=4:=by simpa using hc
           have hd:Hd (xs.take (4*(hL xs+1)).toNat) 206 4:=⟨hd0.ok,hd0.len,by rw [h3];exact ht,by rw [h4];exact hct⟩
           refine sNew H ?_;clear H;intro bk w _ H
           refine inv_ptr (f:=212) (e:=232) (by kernel_rfl) (by rfl) (by kernel_rfl) (call_j (c212 H ms hby (hE2.imp (fun h=>(go_gd hd (by decide)).trans h)) hd hn2) ?_)
           clear H
           rintro _ w ⟨e,cells,ro',rfl,he1,hr',hcl,H,hg⟩
           refine ⟨_,rfl,?_⟩
           exact uFin H (sc1) hok hS he1 (fun r h=>hr' r (mt h)) hg (go_gd hd (by decide)) (fun p hp=>by rw [gd_kind hd (by decide) hp];rfl)
          ·have m4:¬hC xs=4:=by simpa using hc
           refine sNew H ?_;clear H;intro bk w _ H
           refine inv_ptr (f:=248) (e:=129) (by kernel_rfl) (by rfl) (by kernel_rfl) (call_j (c248 H ms hby hd0.ok) ?_)
           clear H
           rintro _ w ⟨rfl,H⟩
           refine ⟨_,rfl,?_⟩
           exact uRaw H (sc1) hok hS (fun r h=>mt h) ms hd0 (by rw [h3,h4,ht];unfold kindOf;simp [m1,m2,m15,m4])
      ·have n206:¬hT xs=206:=by simpa using hc
       refine ⟨fun hc=>?_,fun hc=>?_⟩
       ·have ht:hT xs=204:=by simpa using hc
        have hd:Hd (xs.take (4*(hL xs+1)).toNat) 204 (hC (xs.take (4*(hL xs+1)).toNat)):=⟨hd0.ok,hd0.len,by rw [h3];exact ht,rfl⟩
        refine sNew H ?_;clear H;intro bk w _ H
        refine inv_ptr (f:=177) (e:=206) (by kernel_rfl) (by rfl) (by kernel_rfl) (call_j (c177 H ms hby (hE2.imp (fun h=>(go_gd hd (by unfold kindOf;simp)).trans h)) hd hn2) ?_)
        clear H
        rintro _ w ⟨e,cells,ro',rfl,he1,hr',hcl,H,hg⟩
        refine ⟨_,rfl,?_⟩
        exact uFin H (sc1) hok hS he1 (fun r h=>hr' r (mt h)) hg (go_gd hd (by unfold kindOf;simp)) (fun p hp=>by rw [gd_kind hd (by unfold kindOf;simp) hp];rfl)
       ·have n204:¬hT xs=204:=by simpa using hc
        refine sNew H ?_;clear H;intro bk w _ H
        refine inv_ptr (f:=248) (e:=129) (by kernel_rfl) (by rfl) (by kernel_rfl) (call_j (c248 H ms hby hd0.ok) ?_)
        clear H
        rintro _ w ⟨rfl,H⟩
        refine ⟨_,rfl,?_⟩
        exact uRaw H (sc1) hok hS (fun r h=>mt h) ms hd0 (by rw [h3];unfold kindOf;simp [n200,n201,n202,n203,n204,n205,n206])
def hN (xs:List Int):Nat:=(4*(hL xs+1)).toNat
def hFit (xs:List Int):Prop:=hdrOk xs=true/\4*(hL xs+1)<=(xs.length:Int)
instance (xs:List Int):Decidable (hFit xs):=by unfold hFit;infer_instance
def okSplit:Nat->List Int->Bool
 | 0,xs=>xs.isEmpty
 | f+1,xs=>if xs=[] then true else if hFit xs then okSplit f (xs.drop (hN xs)) else false
def gl:Nat->List Int->Option (List Pk)
 | 0,xs=>if xs=[] then some [] else none
 | f+1,xs=>if xs=[] then some [] else if hFit xs then
   match go (xs.take (hN xs)) with
   | some p=>(gl f (xs.drop (hN xs))).map (p::·)
   | none=>none
  else none
def UmsPost (F:Fr) (ex:List Ex) (ro:List Ro) (L:List Pk) (en:Ending) (w':World):Prop:=
 ∃o oc ro',en=.returned (.tuple #[.slice o L.length oc,.nilIface])/\(∀r∈ro,r∈ro')/\Sat F w' ex ro'/\Ro.deep [.row 1 (L.map pkI)] [.slice o L.length oc]∈ro'
theorem gl_cons {f:Nat} (h:gl (f+1) ys=some L) (hne:ys≠[]):hFit ys/\∃p L2,go (ys.take (hN ys))=some p/\gl f (ys.drop (hN ys))=some L2/\L=p::L2:=by
 unfold gl at h
 rw [ap hne] at h
 by_cases hf:hFit ys
 ·rw [aG hf] at h
  cases hq:go (ys.take (hN ys)) with
  | none=>rw [hq] at h;cases h
  | some p=>
   rw [hq] at h
   simp only at h
   cases hq2:gl f (ys.drop (hN ys)) with
   | none=>rw [hq2] at h;cases h
   | some L3=>
    rw [hq2] at h
    cases h
    exact ⟨hf,p,L3,rfl,rfl,rfl⟩
 ·rw [ap hf] at h;cases h
theorem gl_nil {f:Nat} (h:gl f []=some L):L=[]:=by cases f<;>simp [gl] at h<;>exact h.symm▸rfl
theorem go_kind (hb:By xs) (hf:hFit xs) (h:go (xs.take (hN xs))=some p) (hk:p.kind≠13):kindOf (hT xs) (hC xs)≠13:=by
 intro h13
 obtain ⟨hok,hS⟩:=hf
 have hl0:0<=hL xs:=by unfold hL;exact (n16_lt (hb.drop 2)).1
 obtain ⟨h1,h2,h3,h4⟩:=head_take (xs:=xs) (S:=hN xs) (by unfold hN;omega)
 have hyl:(xs.take (hN xs)).length=hN xs:=by rw [bq];unfold hN;omega
 have hd:Hd (xs.take (hN xs)) (hT xs) (hC xs):=⟨by rw [h1];exact hok,by rw [h2,hyl];unfold hN;omega,h3,h4⟩
 rw [go_gd hd (by rw [h13];decide)] at h
 have:=gd_kind hd (by rw [h13];decide) h
 omega
theorem c36 (H:Sat F w ex ro)
  (hx:Ro.B xs a n c∈ro) (hb:By xs) (hE:ErrC False ro) (hn:n<=1000000) (hgl:gl xs.length xs=some L) (hL0:L≠[]) (h13:∀p∈L,p.kind≠13):Calls pg 36 #[.slice a n c] w (UmsPost F ex ro L):=by
 apply of36
 have hlen:=H.lenB hx
 refine ⟨fun a' l' c' oa ol oc m w=>∃(ys:List Int) (f:Nat) (A L2:List Pk) (r:Option Nat),l'=m/\ys.length=l'/\l'<=f/\l'+ol<=n/\By ys/\gl f ys=some L2/\L=A++L2/\ol=A.length/\Sat F w (.own 123 1 oa ol oc r (A.map pkI)::ex) (Ro.B ys a' l' c'::ro),
  ⟨n,xs,n,[],L,none,rfl,hlen,aN _,by omega,hb,by rw [<-hlen];exact hgl,rfl,rfl,(H.nilOwn 123 1).sub (ak _) (fun r hr=>by rcases aI.1 hr with rfl | h;exact hx;exact h)⟩,?_⟩
 clear H;rintro dd2 a' l' c' oa ol oc m w ⟨ys,f,A,L2,r,rfl,hyl,hlf,hol,hby,hg,hLA,rfl,H⟩
 refine ⟨fun hc=>?_,fun hc=>?_⟩
 ·have hl0:l'≠0:=by simpa using hc
  have hne:ys≠[]:=by rintro rfl;exact hl0 hyl.symm
  cases f with
  | zero=>omega
  | succ f=>
  obtain ⟨hfit,p,L3,h1,h2,rfl⟩:=gl_cons hg hne
  have hk:=go_kind hby hfit h1 (h13 p (by rw [hLA];simp))
  have hNe:(4*(hL ys+1)).toNat=hN ys:=rfl
  refine call_j (c79 H ms hby ((hE.mono (fun r h=>mt h)).imp (fun h=>by rw [hNe,h1] at h;cases h)) (by omega) hk) ?_
  rintro en w2 (⟨hbad,_⟩ | ⟨ho,hS,T,v,e,ro',rfl,he1,hr',H2,hp⟩)
  ·exfalso
   rcases hbad with h | h
   ·rw [hfit.1] at h;cases h
   ·have:=hfit.2;omega
  clear H
  have hLr:0<=hL ys/\hL ys < 65536:=by unfold hL;exact n16_lt (hby.drop 2)
  obtain ⟨rfl,hm⟩:=hp p h1
  refine ⟨_,_,_,rfl,he1,fun he=>absurd he (by decide),fun _=>?_⟩
  refine ⟨rfl,?_⟩
  refine sPush0 H2 (bytes:=16) (nds:=[pkI p]) (hD:=(fun G h=>dc (h (.deep [_] [_]) hm).head dn)) (hK:=?_)
  clear H2;intro o2 ol2 oc2 r2 w ex2 _ H
  subst ex2
  have hN4:4<=hN ys/\hN ys<=l':=by unfold hN;omega
  refine ⟨by omega,by omega,?_⟩
  rw [hNe]
  have H3:=H.skipB (hr' _ ms) (hN ys) (by omega)
  refine ⟨l' - hN ys,by omega,ys.drop (hN ys),f,A++[p],L3,r2,rfl,by rw [az,hyl],by omega,by omega,hby.drop _,h2,by rw [hLA,an];rfl,by simp,?_⟩
  rw [bM]
  exact H3.sub (ak _) (fun r h=>by rcases aI.1 h with rfl | h;exact ms;exact mt (hr' _ (mt h)))
 ·have hl0:l'=0:=by simpa using hc
  subst hl0
  obtain rfl:ys=[]:=aF hyl
  obtain rfl:=gl_nil hg
  rw [aE] at hLA
  subst hLA
  refine ⟨fun h0=>?_,fun h0=>?_⟩
  ·have ho0:L.length=0:=by simpa using h0
   exact absurd (aF ho0) hL0
  ·replace H:=H.freeze
   exact ⟨oa,oc,_,rfl,fun r h=>mt (mt h),H,ms⟩
theorem own_block {base:Nat} {size:Nat} {l:Nat} {xs:List Value} (h:OS w base e size a l c r xs) (hk:r=some k):∃t us,Blk w k t us:=by
 have h2:=h.blk
 rw [hk] at h2
 rcases h.own.2 with ⟨hv,_⟩ | ⟨g,cap,cur,hv,_,hg,_⟩
 ·rw [hv] at h2;cases h2
 ·rw [hv] at h2
  cases h2
  exact ⟨e,cur.toList,⟨by simpa using hg⟩⟩
theorem Ex.cellsOf {e:Ex} (h:e.holds w G) (hb:b∈e.foot):∃t us,Blk w b t us:=by
 cases e with
 | blk b' t l=>
  obtain rfl:b=b':=by simpa [Ex.foot] using hb
  exact ⟨t,l,h⟩
 | own e sz a n c r ds=>
  obtain ⟨xs,h1,_⟩:=h
  have hr:r=some b:=by simpa [Ex.foot] using hb
  exact own_block h1 hr
 | many t bs=>
  obtain ⟨p,hp,rfl⟩:=bC.1 (show b∈bs.map (·.1) from hb)
  exact ⟨t,p.2,h p hp⟩
def cellsAt (w:World) (b:Nat):TypeId×List Value:=match w.heap[b]? with
 | some (.cells c t _)=>(t,c.toList)
 | _=>(0,[])
theorem cellsAt_of {us:List Value} (h:Blk w b t us):cellsAt w b=(t,us):=by
 unfold cellsAt
 rw [h.eq]
def stillEx (w:World) (bs:List Nat):List Ex:=bs.map fun b=>.blk b (cellsAt w b).1 (cellsAt w b).2
theorem foots_still (w:World) (bs:List Nat):foots (stillEx w bs)=bs:=by
 induction bs with
 | nil=>rfl
 | cons b bs ih=>unfold stillEx at ih ⊢;rw [aX,foots_cons,ih];rfl
theorem Sat.still (H:Sat F w ex ro):∃ex2,Sat ⟨w,fun b=>b∈foots ex⟩ w ex2 ro /\
  ∀w' ro',Sat ⟨w,fun b=>b∈foots ex⟩ w' ex2 ro'->w.grownBy w' none/\Sat F w' ex ro':=by
 have hf:=foots_still w (foots ex)
 have hB:∀b∈foots ex,Blk w b (cellsAt w b).1 (cellsAt w b).2:=by
  intro b hb
  obtain ⟨e,he,hbe⟩:=List.mem_flatMap.1 (show b∈ex.flatMap Ex.foot from hb)
  obtain ⟨t,us,h⟩:=Ex.cellsOf (H.he e he) hbe
  rw [cellsAt_of h]
  exact h
 refine ⟨stillEx w (foots ex),Sat.start (by rw [hf];exact H.nd) (by rw [hf];exact fun b hb=>⟨(H.lt b hb).1,hb⟩) ?_ (by rw [hf];exact H.hr),fun w' ro' H'=>?_⟩
 ·intro e he
  obtain ⟨b,hb,rfl⟩:=bC.1 he
  exact hB b hb
 ·have hg:w.grownBy w' none:=by
   refine ⟨H'.gr.os,H'.gr.tape,H'.gr.output,H'.gr.size,fun k hk _=>?_⟩
   by_cases hm:k∈foots ex
   ·have h1:Blk w' k (cellsAt w k).1 (cellsAt w k).2:=H'.he _ (bC.2 ⟨k,hm,rfl⟩)
    exact h1.eq.trans (hB k hm).eq.symm
   ·exact H'.gr.block k hk hm
  have H1:=H.grow hg
  refine ⟨hg,⟨H1.gr,H1.nd,H1.lt,H1.he,fun r hr=>?_⟩⟩
  have:=H'.hr r hr
  rw [hf] at this
  exact this
theorem all_u32 (xs:List Int):(xs.map (Value.int .u32)).all Value.oneCell'=true:=by rw [ch];intro u hu;obtain ⟨x,_,rfl⟩:=bC.1 hu;rfl
theorem c98 {l:List Int} (H:Sat F w ex ro) (hx:Ro.deep [.row 1 (oi .u32 l)] [.slice a n c]∈ro) (hn:n<=10000000):Calls pg 98 #[.slice a n c] w fun en w'=>
  ∃a' c',en=.returned (.slice a' n c')/\w.grownBy w' none/\Sat F w' ex (.deep [.row 1 (oi .u32 l)] [.slice a' n c']::ro):=by
 apply of98
 rw [oi_ones] at hx ⊢
 exact clone_j (t:=55) (e:=51) (bytes:=4) (R:=fun en w'=>∃a' c',en=.returned (.slice a' n c')/\w.grownBy w' none/\Sat F w' ex (.deep [.row 1 ((l.map (Value.int .u32)).map .one)] [.slice a' n c']::ro)) H hx hn (all_u32 l) (by kernel_rfl) (by decide) (fun a' c' w' g H=>⟨a',c',rfl,g,H⟩)
theorem c117 {r0 r1 r2 r3 r4 r5 r6:Int} (H:Sat F w ex ro) :
  Calls pg 117 #[.agg #[.int .u32 r0,.int .u8 r1,.int .u32 r2,.int .u32 r3,.int .u32 r4,.int .u32 r5,.int .u32 r6]] w fun en w'=>
   en=.returned (.agg #[.int .u32 r0,.int .u8 r1,.int .u32 r2,.int .u32 r3,.int .u32 r4,.int .u32 r5,.int .u32 r6])/\Sat F w' ex ro:=by
 apply of117
 refine sNew H ?_;clear H;intro b1 w _ H
 refine sNew H ?_;clear H;intro b3 w _ H
 refine ⟨_,(H.b1.at0 rfl),?_⟩
 refine ⟨_,(H.b1.at0 rfl),?_⟩
 refine ⟨_,(H.b1.at0 rfl),?_⟩
 refine ⟨_,(H.b1.at0 rfl),?_⟩
 refine ⟨_,(H.b1.at0 rfl),?_⟩
 refine ⟨_,(H.b1.at0 rfl),?_⟩
 refine ⟨_,(H.b1.at0 rfl),?_⟩
 refine sSw0 H (h:=?_);clear H;intro w _ H
 refine ⟨_,_,_,_,_,_,_,H.b0.ld,?_⟩
 exact ⟨rfl,H.sub ((sc1).trans (sc1)) (fun _ h=>h)⟩
theorem Rep.dat_len' (x:Rep):(Rep.dat x).length=7:=rfl
theorem c102 {L:List Rep} (H:Sat F w ex ro) (hl:Ro.deep [.row 7 (L.flatMap Rep.dat)] [.slice l L.length c]∈ro) (hn:L.length<=1000000) :
  Calls pg 102 #[.slice l L.length c] w fun en w'=>∃o oc,en=.returned (.slice o L.length oc)/\Sat F w' ex (.deep [.row 7 (L.flatMap Rep.dat)] [.slice o L.length oc]::ro):=by
 apply of102
 refine ⟨fun o ol oc x m w=>∃(j:Nat) (r:Option Nat),x=(j:Int)/\j+m=L.length/\ol=j/\Sat F w (.own 166 7 o ol oc r ((L.take j).flatMap Rep.dat)::ex) ro,⟨L.length,0,none,rfl,by omega,rfl,H.nilOwn 166 7⟩,?_⟩
 clear H;rintro dd2 o ol oc x m w ⟨j,r,rfl,hjm,rfl,H⟩
 refine ⟨fun hc=>?_,fun hc=>?_⟩
 ·rw [ah] at hc
  have hjl:ol < L.length:=by omega
  obtain ⟨p,us,e,hus,hcell,H1⟩:=H.eltF Rep.dat_len' (by decide) hl (j:=ol) hjl
  have htk:L.take (ol+1)=L.take ol++[L[ol]]:=by rw [am,ai hjl];rfl
  clear H
  generalize L[ol]=D at H1 htk
  obtain ⟨d0,d1,d2,d3,d4,d5,d6⟩:=D
  refine ⟨p,e,by omega,by omega,?_⟩
  obtain rfl:=H1.ones (us:=[.int .u32 d0,.int .u8 d1,.int .u32 d2,.int .u32 d3,.int .u32 d4,.int .u32 d5,.int .u32 d6]) ms
  refine ⟨_,_,_,_,_,_,_,LdC [.int .u32 d0,.int .u8 d1,.int .u32 d2,.int .u32 d3,.int .u32 d4,.int .u32 d5,.int .u32 d6] (by kernel_rfl) (by rw [show (ol:Int).toNat*7=ol*7 by omega];exact hcell),?_⟩
  have H:=H1
  clear H1 hcell
  refine sNew H ?_;clear H;intro b15 w _ H
  refine sSw0 H (h:=?_);clear H;intro w _ H
  refine ⟨_,_,_,_,_,_,_,H.b0.ld,?_⟩
  refine call_j (c117 H) ?_
  clear H
  rintro _ w ⟨rfl,H⟩
  refine ⟨_,_,_,_,_,_,_,rfl,?_⟩
  refine ⟨rfl,?_⟩
  refine sPush1 H (bytes:=28) (nds:=(Rep.dat (d0,d1,d2,d3,d4,d5,d6))) (hD:=(fun G h=>DeepL.ones [_,_,_,_,_,_,_])) (hK:=?_)
  clear H;intro o2 ol2 oc2 r2 w ex2 _ H
  subst ex2
  refine ⟨m - 1,by omega,ol+1,r2,?_,by omega,rfl,?_⟩
  ·rw [wi64_of (by omega) (by omega)];simp
  ·rw [htk,aj]
   simp only [fm1,fm2,fm3]
   exact H.sub (sc1) (fun r h=>mt h)
 ·rw [af] at hc
  obtain rfl:ol=L.length:=by omega
  rw [ao] at H
  exact ⟨o,oc,rfl,H.freeze⟩
theorem Met.dat_len' (x:Met):(Met.dat x).length=3:=rfl
theorem Blo.dat_len' (x:Blo):(Blo.dat x).length=3:=rfl
theorem c104 {L:List Blo} (H:Sat F w ex ro) (hl:Ro.deep [.row 3 (L.flatMap Blo.dat)] [.slice l L.length c]∈ro) (hn:L.length<=1000000) (hn2:∀B∈L,B.2.2.length<=1000000) :
  Calls pg 104 #[.slice l L.length c] w fun en w'=>∃o oc,en=.returned (.slice o L.length oc)/\Sat F w' ex (.deep [.row 3 (L.flatMap Blo.dat)] [.slice o L.length oc]::ro):=by
 apply of104
 refine ⟨fun o ol oc x m w=>∃(j:Nat) (r:Option Nat),x=(j:Int)/\j+m=L.length/\ol=j/\Sat F w (.own 176 3 o ol oc r ((L.take j).flatMap Blo.dat)::ex) ro,⟨L.length,0,none,rfl,by omega,rfl,H.nilOwn 176 3⟩,?_⟩
 clear H;rintro dd2 o ol oc x m w ⟨j,r,rfl,hjm,rfl,H⟩
 refine ⟨fun hc=>?_,fun hc=>?_⟩
 ·rw [ah] at hc
  have hjl:ol < L.length:=by omega
  obtain ⟨p,us,e,hus,hcell,H1⟩:=H.eltF Blo.dat_len' (by decide) hl (j:=ol) hjl
  have htk:L.take (ol+1)=L.take ol++[L[ol]]:=by rw [am,ai hjl];rfl
  have hDm:=hn2 L[ol] (ax hjl)
  clear H
  generalize L[ol]=D at H1 htk hDm
  obtain ⟨d0,d1,msz⟩:=D
  replace hDm:msz.length<=1000000:=hDm
  refine ⟨p,e,by omega,by omega,?_⟩
  obtain ⟨x0,us0,rfl,H2⟩:=H1.uncons ms
  obtain ⟨x1,us1,rfl,H3⟩:=H2.uncons (mt ms)
  obtain ⟨x2,us2,rfl,H4⟩:=H3.uncons (mt ms)
  obtain rfl:us2=[]:=by simpa using hus
  obtain rfl:=H2.one1 ms
  obtain rfl:=H3.one1 ms
  obtain ⟨sa,sn,sc,rfl,hsl⟩:=H4.rowS ms
  rw [flat_len Met.dat_len'] at hsl
  obtain rfl:sn=msz.length:=by omega
  refine ⟨_,_,_,_,_,LdC [.int .u32 d0,.int .u16 d1,.slice sa msz.length sc] (by kernel_rfl) (by rw [show (ol:Int).toNat*3=ol*3 by omega];exact hcell),?_⟩
  have H:Sat F w _ (.deep [.row 3 (msz.flatMap Met.dat)] [.slice sa msz.length sc]::ro):=H4.sub (ak _) (fun r h=>by rcases aI.1 h with rfl | h;exact ms;simp [h])
  clear H1 H2 H3 H4 hcell
  refine sNew H ?_;clear H;intro b13 w _ H
  refine sSw0 H (h:=?_);clear H;intro w _ H
  refine ⟨_,(H.b0.at0 rfl),?_⟩
  refine ⟨_,(H.b0.at0 rfl),?_⟩
  refine sNew H ?_;clear H;intro b18 w _ H
  refine sSw0 H (h:=?_);clear H;intro w _ H
  refine ⟨_,_,_,(H.b1.at0 rfl),?_⟩
  refine ⟨fun x m2 w=>∃(i:Nat) (o2:Option Addr) (oc2:Nat) (r2:Option Nat),x=(i:Int)/\i+m2=msz.length /\
    Sat F w (.blk b18 176 [.int .u32 d0,.int .u16 d1,.slice o2 i oc2]::.blk b13 278 [.int .u32 d0,.int .u16 d1,.slice sa msz.length sc]::.own 177 3 o2 i oc2 r2 ((msz.take i).flatMap Met.dat)::.own 176 3 o ol oc r ((L.take ol).flatMap Blo.dat)::ex)
     (.deep [.row 3 (msz.flatMap Met.dat)] [.slice sa msz.length sc]::ro),
   ⟨msz.length,0,none,0,none,rfl,by omega,(H.nilOwn 177 3).u2⟩,?_⟩
  clear H;rintro dd23 x m2 w ⟨i,o2,oc2,r2,rfl,him,H⟩
  refine ⟨fun hc=>?_,fun hc=>?_⟩
  ·rw [ah] at hc
   have hil:i < msz.length:=by omega
   obtain ⟨p2,us,e2,hus2,hcell,H1⟩:=H.eltF Met.dat_len' (by decide) ms (j:=i) hil
   have htk2:msz.take (i+1)=msz.take i++[msz[i]]:=by rw [am,ai hil];rfl
   clear H
   generalize msz[i]=E at H1 htk2
   obtain ⟨e0,e1,e3⟩:=E
   refine ⟨p2,e2,by omega,by omega,?_⟩
   obtain rfl:=H1.ones (us:=[.bool e0,.int .u8 e1,.int .u16 e3]) ms
   refine ⟨_,_,_,LdC [.bool e0,.int .u8 e1,.int .u16 e3] (by kernel_rfl) (by rw [show (i:Int).toNat*3=i*3 by omega];exact hcell),?_⟩
   have H:=H1
   clear H1 hcell
   refine sNew H ?_;clear H;intro b33 w _ H
   refine sSw0 H (h:=?_);clear H;intro w _ H
   refine ⟨_,_,_,(H.b1.at0 rfl),?_⟩
   refine ⟨_,(H.b0.at0 rfl),?_⟩
   refine ⟨_,(H.b0.at0 rfl),?_⟩
   refine ⟨_,(H.b0.at0 rfl),?_⟩
   refine ⟨rfl,?_⟩
   refine sPush3 H (bytes:=4) (nds:=(Met.dat (e0,e1,e3))) (hD:=(fun G h=>DeepL.ones [_,_,_])) (hK:=?_)
   clear H;intro o3 ol3 oc3 r3 w ex3 _ H
   refine sSt1 H (h:=?_);clear H;intro w _ H
   subst ex3
   refine ⟨m2 - 1,by omega,i+1,o3,oc3,r3,?_,by omega,?_⟩
   ·rw [wi64_of (by omega) (by omega)];simp
   ·rw [htk2,aj]
    simp only [fm1,fm2,fm3]
    exact H.sub (sc1) (fun r h=>mt h)
  ·rw [af] at hc
   obtain rfl:i=msz.length:=by omega
   rw [ao] at H
   replace H:=H.r2.freeze
   refine ⟨_,_,_,_,_,H.b0.ld,?_⟩
   refine ⟨rfl,?_⟩
   refine sPush2 H (bytes:=32) (nds:=(Blo.dat (d0,d1,msz))) (hD:=(fun G h=>dc (.one _) (dc (.one _) (dc (h (.deep [_] [_]) ms).head dn)))) (hK:=?_)
   clear H;intro o3 ol3 oc3 r3 w ex3 _ H
   subst ex3
   refine ⟨m - 1,by omega,ol+1,r3,?_,by omega,rfl,?_⟩
   ·rw [wi64_of (by omega) (by omega)];simp
   ·rw [htk,aj]
    simp only [fm1,fm2,fm3]
    exact H.sub (by exact (sc1).trans (sc1)) (fun r h=>by simp [h])
 ·rw [af] at hc
  obtain rfl:ol=L.length:=by omega
  rw [ao] at H
  exact ⟨o,oc,rfl,H.freeze⟩
theorem Chk.dat_len' (x:Chk):(Chk.dat x).length=2:=rfl
theorem c103 {L:List Chk} (H:Sat F w ex ro) (hp:Ro.deep [.ptr [.row 2 (L.flatMap Chk.dat)]] [v]∈ro) (hn:L.length<=1000000) (hn2:∀B∈L,B.2.length<=1000000) :
  Calls pg 103 #[v] w fun en w'=>∃o oc,en=.returned (.slice o L.length oc)/\Sat F w' ex (.deep [.row 2 (L.flatMap Chk.dat)] [.slice o L.length oc]::ro):=by
 obtain ⟨b,vs,rfl,hcell,_,_,H1⟩:=H.ptr hp
 obtain ⟨x0,us0,rfl,H2⟩:=H1.uncons ms
 obtain ⟨l,n,c,rfl,hll⟩:=H2.rowS ms
 rw [flat_len Chk.dat_len'] at hll
 obtain rfl:n=L.length:=by omega
 apply of103
 refine ⟨_,rfl,?_⟩
 refine ⟨_,_,_,hcell 0 _ rfl,?_⟩
 replace H:Sat F w ex (.deep [.row 2 (L.flatMap Chk.dat)] [.slice l L.length c]::ro):=H2.sub (ak _) (fun r h=>by rcases aI.1 h with rfl | h;exact ms;simp [h])
 clear H1 H2 hcell
 refine ⟨fun o ol oc x m w=>∃(j:Nat) (r:Option Nat),x=(j:Int)/\j+m=L.length/\ol=j/\Sat F w (.own 169 2 o ol oc r ((L.take j).flatMap Chk.dat)::ex) (.deep [.row 2 (L.flatMap Chk.dat)] [.slice l L.length c]::ro),⟨L.length,0,none,rfl,by omega,rfl,H.nilOwn 169 2⟩,?_⟩
 clear H;rintro dd2 o ol oc x m w ⟨j,r,rfl,hjm,rfl,H⟩
 refine ⟨fun hc=>?_,fun hc=>?_⟩
 ·rw [ah] at hc
  have hjl:ol < L.length:=by omega
  obtain ⟨p,us,e,hus,hcell,H1⟩:=H.eltF Chk.dat_len' (by decide) ms (j:=ol) hjl
  have htk:L.take (ol+1)=L.take ol++[L[ol]]:=by rw [am,ai hjl];rfl
  have hDm:=hn2 L[ol] (ax hjl)
  clear H
  generalize L[ol]=D at H1 htk hDm
  obtain ⟨d0,msz⟩:=D
  replace hDm:msz.length<=1000000:=hDm
  refine ⟨p,e,by omega,by omega,?_⟩
  obtain ⟨x0,us0,rfl,H2⟩:=H1.uncons ms
  obtain ⟨x1,us1,rfl,H3⟩:=H2.uncons (mt ms)
  obtain rfl:us1=[]:=by simpa using hus
  obtain rfl:=H2.one1 ms
  obtain ⟨sa,sn,sc,rfl,hsl⟩:=H3.rowS ms
  rw [flat_len Itm.dat_len] at hsl
  obtain rfl:sn=msz.length:=by omega
  refine ⟨_,_,_,_,LdC [.int .u32 d0,.slice sa msz.length sc] (by kernel_rfl) (by rw [show (ol:Int).toNat*2=ol*2 by omega];exact hcell),?_⟩
  have H:Sat F w _ (.deep [.row 2 (msz.flatMap Itm.dat)] [.slice sa msz.length sc]::.deep [.row 2 (L.flatMap Chk.dat)] [.slice l L.length c]::ro):=H3.sub (ak _) (fun r h=>by
   rcases aI.1 h with rfl | h
   ·exact ms
   ·exact mt (mt (mt (mt (mt h)))))
  clear H1 H2 H3 hcell
  refine sNew H ?_;clear H;intro b13 w _ H
  refine sSw0 H (h:=?_);clear H;intro w _ H
  refine ⟨_,(H.b0.at0 rfl),?_⟩
  refine sNew H ?_;clear H;intro b18 w _ H
  refine sSw0 H (h:=?_);clear H;intro w _ H
  refine ⟨_,_,_,(H.b1.at0 rfl),?_⟩
  refine ⟨fun x m2 w=>∃(i:Nat) (o2:Option Addr) (oc2:Nat) (r2:Option Nat),x=(i:Int)/\i+m2=msz.length /\
    Sat F w (.blk b18 169 [.int .u32 d0,.slice o2 i oc2]::.blk b13 255 [.int .u32 d0,.slice sa msz.length sc]::.own 170 2 o2 i oc2 r2 ((msz.take i).flatMap Itm.dat)::.own 169 2 o ol oc r ((L.take ol).flatMap Chk.dat)::ex)
     (.deep [.row 2 (msz.flatMap Itm.dat)] [.slice sa msz.length sc]::.deep [.row 2 (L.flatMap Chk.dat)] [.slice l L.length c]::ro),
   ⟨msz.length,0,none,0,none,rfl,by omega,(H.nilOwn 170 2).u2⟩,?_⟩
  clear H;rintro dd23 x m2 w ⟨i,o2,oc2,r2,rfl,him,H⟩
  refine ⟨fun hc=>?_,fun hc=>?_⟩
  ·rw [ah] at hc
   have hil:i < msz.length:=by omega
   obtain ⟨p2,us,e2,hus2,hcell,H1⟩:=H.eltF Itm.dat_len (by decide) ms (j:=i) hil
   have htk2:msz.take (i+1)=msz.take i++[msz[i]]:=by rw [am,ai hil];rfl
   clear H
   generalize msz[i]=E at H1 htk2
   obtain ⟨e0,e1⟩:=E
   refine ⟨p2,e2,by omega,by omega,?_⟩
   obtain rfl:=H1.ones (us:=[.int .u8 e0,.string e1]) ms
   refine ⟨_,_,LdC [.int .u8 e0,.string e1] (by kernel_rfl) (by rw [show (i:Int).toNat*2=i*2 by omega];exact hcell),?_⟩
   have H:=H1
   clear H1 hcell
   refine sNew H ?_;clear H;intro b33 w _ H
   refine sSw0 H (h:=?_);clear H;intro w _ H
   refine ⟨_,_,_,(H.b1.at0 rfl),?_⟩
   refine ⟨_,(H.b0.at0 rfl),?_⟩
   refine ⟨_,(H.b0.at0 rfl),?_⟩
   refine ⟨rfl,?_⟩
   refine sPush3 H (bytes:=24) (nds:=(Itm.dat (e0,e1))) (hD:=(fun G h=>DeepL.ones [_,_])) (hK:=?_)
   clear H;intro o3 ol3 oc3 r3 w ex3 _ H
   refine sSt1 H (h:=?_);clear H;intro w _ H
   subst ex3
   refine ⟨m2 - 1,by omega,i+1,o3,oc3,r3,?_,by omega,?_⟩
   ·rw [wi64_of (by omega) (by omega)];simp
   ·rw [htk2,aj]
    simp only [fm1,fm2,fm3]
    exact H.sub (sc1) (fun r h=>mt h)
  ·rw [af] at hc
   obtain rfl:i=msz.length:=by omega
   rw [ao] at H
   replace H:=H.r2.freeze
   refine ⟨_,_,_,_,H.b0.ld,?_⟩
   refine ⟨rfl,?_⟩
   refine sPush2 H (bytes:=32) (nds:=(Chk.dat (d0,msz))) (hD:=(fun G h=>dc (.one _) (dc (h (.deep [_] [_]) ms).head dn))) (hK:=?_)
   clear H;intro o3 ol3 oc3 r3 w ex3 _ H
   subst ex3
   refine ⟨m - 1,by omega,ol+1,r3,?_,by omega,rfl,?_⟩
   ·rw [wi64_of (by omega) (by omega)];simp
   ·rw [htk,aj]
    simp only [fm1,fm2,fm3]
    exact H.sub (by exact (sc1).trans (sc1)) (fun r h=>mt (mt h))
 ·rw [af] at hc
  obtain rfl:ol=L.length:=by omega
  rw [ao] at H
  exact ⟨o,oc,rfl,H.freeze.sub (ak _) (fun r h=>by rcases aI.1 h with rfl | h;exact ms;simp [h])⟩
theorem c96 {L:List Rep} (H:Sat F w ex ro) (hl:Ro.deep [.row 7 (L.flatMap Rep.dat)] [.slice l L.length c]∈ro) (hn:L.length<=1000000) :
  Calls pg 96 #[.slice l L.length c] w fun en w'=>∃o oc,en=.returned (.slice o L.length oc)/\Sat F w' ex (.deep [.row 7 (L.flatMap Rep.dat)] [.slice o L.length oc]::ro):=by
 apply of96
 refine ⟨fun o ol oc x m w=>∃(j:Nat) (r:Option Nat),x=(j:Int)/\j+m=L.length/\ol=j/\Sat F w (.own 275 7 o ol oc r ((L.take j).flatMap Rep.dat)::ex) ro,⟨L.length,0,none,rfl,by omega,rfl,H.nilOwn 275 7⟩,?_⟩
 clear H;rintro dd2 o ol oc x m w ⟨j,r,rfl,hjm,rfl,H⟩
 refine ⟨fun hc=>?_,fun hc=>?_⟩
 ·rw [ah] at hc
  have hjl:ol < L.length:=by omega
  obtain ⟨p,us,e,hus,hcell,H1⟩:=H.eltF Rep.dat_len' (by decide) hl (j:=ol) hjl
  have htk:L.take (ol+1)=L.take ol++[L[ol]]:=by rw [am,ai hjl];rfl
  clear H
  generalize L[ol]=D at H1 htk
  obtain ⟨d0,d1,d2,d3,d4,d5,d6⟩:=D
  refine ⟨p,e,by omega,by omega,?_⟩
  obtain rfl:=H1.ones (us:=[.int .u32 d0,.int .u8 d1,.int .u32 d2,.int .u32 d3,.int .u32 d4,.int .u32 d5,.int .u32 d6]) ms
  refine ⟨_,_,_,_,_,_,_,LdC [.int .u32 d0,.int .u8 d1,.int .u32 d2,.int .u32 d3,.int .u32 d4,.int .u32 d5,.int .u32 d6] (by kernel_rfl) (by rw [show (ol:Int).toNat*7=ol*7 by omega];exact hcell),?_⟩
  have H:=H1
  clear H1 hcell
  refine sNew H ?_;clear H;intro b15 w _ H
  refine sSw0 H (h:=?_);clear H;intro w _ H
  refine ⟨_,(H.b0.at0 rfl),?_⟩
  refine ⟨_,(H.b0.at0 rfl),?_⟩
  refine ⟨_,(H.b0.at0 rfl),?_⟩
  refine ⟨_,(H.b0.at0 rfl),?_⟩
  refine ⟨_,(H.b0.at0 rfl),?_⟩
  refine ⟨_,(H.b0.at0 rfl),?_⟩
  refine ⟨_,(H.b0.at0 rfl),?_⟩
  refine ⟨rfl,?_⟩
  refine sPush1 H (bytes:=28) (nds:=(Rep.dat (d0,d1,d2,d3,d4,d5,d6))) (hD:=(fun G h=>DeepL.ones [_,_,_,_,_,_,_])) (hK:=?_)
  clear H;intro o2 ol2 oc2 r2 w ex2 _ H
  subst ex2
  refine ⟨m - 1,by omega,ol+1,r2,?_,by omega,rfl,?_⟩
  ·rw [wi64_of (by omega) (by omega)];simp
  ·rw [htk,aj]
   simp only [fm1,fm2,fm3]
   exact H.sub (sc1) (fun r h=>mt h)
 ·rw [af] at hc
  obtain rfl:ol=L.length:=by omega
  rw [ao] at H
  exact ⟨o,oc,rfl,H.freeze⟩
theorem c99 {L:List Blo} (H:Sat F w ex ro) (hl:Ro.deep [.row 3 (L.flatMap Blo.dat)] [.slice l L.length c]∈ro) (hn:L.length<=1000000) (hn2:∀B∈L,B.2.2.length<=1000000) :
  Calls pg 99 #[.slice l L.length c] w fun en w'=>∃o oc,en=.returned (.slice o L.length oc)/\Sat F w' ex (.deep [.row 3 (L.flatMap Blo.dat)] [.slice o L.length oc]::ro):=by
 apply of99
 refine ⟨fun o ol oc x m w=>∃(j:Nat) (r:Option Nat),x=(j:Int)/\j+m=L.length/\ol=j/\Sat F w (.own 278 3 o ol oc r ((L.take j).flatMap Blo.dat)::ex) ro,⟨L.length,0,none,rfl,by omega,rfl,H.nilOwn 278 3⟩,?_⟩
 clear H;rintro dd2 o ol oc x m w ⟨j,r,rfl,hjm,rfl,H⟩
 refine ⟨fun hc=>?_,fun hc=>?_⟩
 ·rw [ah] at hc
  have hjl:ol < L.length:=by omega
  obtain ⟨p,us,e,hus,hcell,H1⟩:=H.eltF Blo.dat_len' (by decide) hl (j:=ol) hjl
  have htk:L.take (ol+1)=L.take ol++[L[ol]]:=by rw [am,ai hjl];rfl
  have hDm:=hn2 L[ol] (ax hjl)
  clear H
  generalize L[ol]=D at H1 htk hDm
  obtain ⟨d0,d1,msz⟩:=D
  replace hDm:msz.length<=1000000:=hDm
  refine ⟨p,e,by omega,by omega,?_⟩
  obtain ⟨x0,us0,rfl,H2⟩:=H1.uncons ms
  obtain ⟨x1,us1,rfl,H3⟩:=H2.uncons (mt ms)
  obtain ⟨x2,us2,rfl,H4⟩:=H3.uncons (mt ms)
  obtain rfl:us2=[]:=by simpa using hus
  obtain rfl:=H2.one1 ms
  obtain rfl:=H3.one1 ms
  obtain ⟨sa,sn,sc,rfl,hsl⟩:=H4.rowS ms
  rw [flat_len Met.dat_len'] at hsl
  obtain rfl:sn=msz.length:=by omega
  refine ⟨_,_,_,_,_,LdC [.int .u32 d0,.int .u16 d1,.slice sa msz.length sc] (by kernel_rfl) (by rw [show (ol:Int).toNat*3=ol*3 by omega];exact hcell),?_⟩
  have H:Sat F w _ (.deep [.row 3 (msz.flatMap Met.dat)] [.slice sa msz.length sc]::ro):=H4.sub (ak _) (fun r h=>by rcases aI.1 h with rfl | h;exact ms;simp [h])
  clear H1 H2 H3 H4 hcell
  refine sNew H ?_;clear H;intro b13 w _ H
  refine sSw0 H (h:=?_);clear H;intro w _ H
  refine ⟨_,(H.b0.at0 rfl),?_⟩
  refine ⟨_,(H.b0.at0 rfl),?_⟩
  refine sNew H ?_;clear H;intro b18 w _ H
  refine sSw0 H (h:=?_);clear H;intro w _ H
  refine ⟨_,_,_,(H.b1.at0 rfl),?_⟩
  refine ⟨fun x m2 w=>∃(i:Nat) (o2:Option Addr) (oc2:Nat) (r2:Option Nat),x=(i:Int)/\i+m2=msz.length /\
    Sat F w (.blk b18 278 [.int .u32 d0,.int .u16 d1,.slice o2 i oc2]::.blk b13 176 [.int .u32 d0,.int .u16 d1,.slice sa msz.length sc]::.own 281 3 o2 i oc2 r2 ((msz.take i).flatMap Met.dat)::.own 278 3 o ol oc r ((L.take ol).flatMap Blo.dat)::ex)
     (.deep [.row 3 (msz.flatMap Met.dat)] [.slice sa msz.length sc]::ro),
   ⟨msz.length,0,none,0,none,rfl,by omega,(H.nilOwn 281 3).u2⟩,?_⟩
  clear H;rintro dd23 x m2 w ⟨i,o2,oc2,r2,rfl,him,H⟩
  refine ⟨fun hc=>?_,fun hc=>?_⟩
  ·rw [ah] at hc
   have hil:i < msz.length:=by omega
   obtain ⟨p2,us,e2,hus2,hcell,H1⟩:=H.eltF Met.dat_len' (by decide) ms (j:=i) hil
   have htk2:msz.take (i+1)=msz.take i++[msz[i]]:=by rw [am,ai hil];rfl
   clear H
   generalize msz[i]=E at H1 htk2
   obtain ⟨e0,e1,e3⟩:=E
   refine ⟨p2,e2,by omega,by omega,?_⟩
   obtain rfl:=H1.ones (us:=[.bool e0,.int .u8 e1,.int .u16 e3]) ms
   refine ⟨_,_,_,LdC [.bool e0,.int .u8 e1,.int .u16 e3] (by kernel_rfl) (by rw [show (i:Int).toNat*3=i*3 by omega];exact hcell),?_⟩
   have H:=H1
   clear H1 hcell
   refine sNew H ?_;clear H;intro b33 w _ H
   refine sSw0 H (h:=?_);clear H;intro w _ H
   refine ⟨_,_,_,(H.b1.at0 rfl),?_⟩
   refine ⟨_,(H.b0.at0 rfl),?_⟩
   refine ⟨_,(H.b0.at0 rfl),?_⟩
   refine ⟨_,(H.b0.at0 rfl),?_⟩
   refine ⟨rfl,?_⟩
   refine sPush3 H (bytes:=4) (nds:=(Met.dat (e0,e1,e3))) (hD:=(fun G h=>DeepL.ones [_,_,_])) (hK:=?_)
   clear H;intro o3 ol3 oc3 r3 w ex3 _ H
   refine sSt1 H (h:=?_);clear H;intro w _ H
   subst ex3
   refine ⟨m2 - 1,by omega,i+1,o3,oc3,r3,?_,by omega,?_⟩
   ·rw [wi64_of (by omega) (by omega)];simp
   ·rw [htk2,aj]
    simp only [fm1,fm2,fm3]
    exact H.sub (sc1) (fun r h=>mt h)
  ·rw [af] at hc
   obtain rfl:i=msz.length:=by omega
   rw [ao] at H
   replace H:=H.r2.freeze
   refine ⟨_,_,_,_,_,H.b0.ld,?_⟩
   refine ⟨rfl,?_⟩
   refine sPush2 H (bytes:=32) (nds:=(Blo.dat (d0,d1,msz))) (hD:=(fun G h=>dc (.one _) (dc (.one _) (dc (h (.deep [_] [_]) ms).head dn)))) (hK:=?_)
   clear H;intro o3 ol3 oc3 r3 w ex3 _ H
   subst ex3
   refine ⟨m - 1,by omega,ol+1,r3,?_,by omega,rfl,?_⟩
   ·rw [wi64_of (by omega) (by omega)];simp
   ·rw [htk,aj]
    simp only [fm1,fm2,fm3]
    exact H.sub (by exact (sc1).trans (sc1)) (fun r h=>by simp [h])
 ·rw [af] at hc
  obtain rfl:ol=L.length:=by omega
  rw [ao] at H
  exact ⟨o,oc,rfl,H.freeze⟩
theorem c97 {L:List Chk} (H:Sat F w ex ro) (hl:Ro.deep [.row 2 (L.flatMap Chk.dat)] [.slice l L.length c]∈ro) (hn:L.length<=1000000) (hn2:∀B∈L,B.2.length<=1000000) :
  Calls pg 97 #[.slice l L.length c] w fun en w'=>∃b,en=.returned (.pointer (some ⟨b,0,none⟩))/\Sat F w' ex (.deep [.ptr [.row 2 (L.flatMap Chk.dat)]] [.pointer (some ⟨b,0,none⟩)]::ro):=by
 apply of97
 refine sNew H ?_;clear H;intro b1 w _ H
 refine ⟨fun x m w=>∃(ol:Nat) (o:Option Addr) (oc:Nat) (r:Option Nat),x=(ol:Int)/\ol+m=L.length/\Sat F w (.blk b1 252 [.slice o ol oc]::.own 255 2 o ol oc r ((L.take ol).flatMap Chk.dat)::ex) ro,⟨L.length,0,none,0,none,rfl,by omega,(H.nilOwn 255 2).u1⟩,?_⟩
 clear H;rintro dd2 x m w ⟨ol,o,oc,r,rfl,hjm,H⟩
 refine ⟨fun hc=>?_,fun hc=>?_⟩
 ·rw [ah] at hc
  have hjl:ol < L.length:=by omega
  obtain ⟨p,us,e,hus,hcell,H1⟩:=H.eltF Chk.dat_len' (by decide) hl (j:=ol) hjl
  have htk:L.take (ol+1)=L.take ol++[L[ol]]:=by rw [am,ai hjl];rfl
  have hDm:=hn2 L[ol] (ax hjl)
  clear H
  generalize L[ol]=D at H1 htk hDm
  obtain ⟨d0,msz⟩:=D
  replace hDm:msz.length<=1000000:=hDm
  refine ⟨p,e,by omega,by omega,?_⟩
  obtain ⟨x0,us0,rfl,H2⟩:=H1.uncons ms
  obtain ⟨x1,us1,rfl,H3⟩:=H2.uncons (mt ms)
  obtain rfl:us1=[]:=by simpa using hus
  obtain rfl:=H2.one1 ms
  obtain ⟨sa,sn,sc,rfl,hsl⟩:=H3.rowS ms
  rw [flat_len Itm.dat_len] at hsl
  obtain rfl:sn=msz.length:=by omega
  refine ⟨_,_,_,_,LdC [.int .u32 d0,.slice sa msz.length sc] (by kernel_rfl) (by rw [show (ol:Int).toNat*2=ol*2 by omega];exact hcell),?_⟩
  have H:Sat F w _ (.deep [.row 2 (msz.flatMap Itm.dat)] [.slice sa msz.length sc]::ro):=H3.sub (ak _) (fun r h=>by
   rcases aI.1 h with rfl | h
   ·exact ms
   ·exact mt (mt (mt (mt (mt h)))))
  clear H1 H2 H3 hcell
  refine sNew H ?_;clear H;intro b13 w _ H
  refine sSw0 H rfl (by kernel_rfl) (by rfl) (by rfl) ?_;clear H;intro w _ H
  refine ⟨_,(H.b0.at0 rfl),?_⟩
  refine sNew H ?_;clear H;intro b18 w _ H
  refine sSw0 H rfl (by kernel_rfl) (by rfl) (by rfl) ?_;clear H;intro w _ H
  refine ⟨_,_,_,(H.b1.at0 rfl),?_⟩
  refine ⟨fun x m2 w=>∃(i:Nat) (o2:Option Addr) (oc2:Nat) (r2:Option Nat),x=(i:Int)/\i+m2=msz.length /\
    Sat F w (.blk b18 255 [.int .u32 d0,.slice o2 i oc2]::.blk b13 169 [.int .u32 d0,.slice sa msz.length sc]::.own 258 2 o2 i oc2 r2 ((msz.take i).flatMap Itm.dat)::.blk b1 252 [.slice o ol oc]::.own 255 2 o ol oc r ((L.take ol).flatMap Chk.dat)::ex)
     (.deep [.row 2 (msz.flatMap Itm.dat)] [.slice sa msz.length sc]::ro),
   ⟨msz.length,0,none,0,none,rfl,by omega,(H.nilOwn 258 2).u2⟩,?_⟩
  clear H;rintro dd23 x m2 w ⟨i,o2,oc2,r2,rfl,him,H⟩
  refine ⟨fun hc=>?_,fun hc=>?_⟩
  ·rw [ah] at hc
   have hil:i < msz.length:=by omega
   obtain ⟨p2,us,e2,hus2,hcell,H1⟩:=H.eltF Itm.dat_len (by decide) ms (j:=i) hil
   have htk2:msz.take (i+1)=msz.take i++[msz[i]]:=by rw [am,ai hil];rfl
   clear H
   generalize msz[i]=E at H1 htk2
   obtain ⟨e0,e1⟩:=E
   refine ⟨p2,e2,by omega,by omega,?_⟩
   obtain rfl:=H1.ones (us:=[.int .u8 e0,.string e1]) ms
   refine ⟨_,_,LdC [.int .u8 e0,.string e1] (by kernel_rfl) (by rw [show (i:Int).toNat*2=i*2 by omega];exact hcell),?_⟩
   have H:=H1
   clear H1 hcell
   refine sNew H ?_;clear H;intro b33 w _ H
   refine sSw0 H rfl (by kernel_rfl) (by rfl) (by rfl) ?_;clear H;intro w _ H
   refine ⟨_,_,_,(H.b1.at0 rfl),?_⟩
   refine ⟨_,(H.b0.at0 rfl),?_⟩
   refine ⟨_,(H.b0.at0 rfl),?_⟩
   refine ⟨rfl,?_⟩
   refine sPush3 H (bytes:=24) (by kernel_rfl) (Itm.dat (e0,e1)) (by rfl) (fun G h=>DeepL.ones [_,_]) (by rfl) (by unfold maxLen;omega) (by omega) ?_
   clear H;intro o3 ol3 oc3 r3 w ex3 _ H
   refine sSt1 H (by exact add_flat _ _ _) (by kernel_rfl) (by rfl) (by rfl) ?_;clear H;intro w _ H
   subst ex3
   refine ⟨m2 - 1,by omega,i+1,o3,oc3,r3,?_,by omega,?_⟩
   ·rw [wi64_of (by omega) (by omega)];simp
   ·rw [htk2,aj]
    simp only [fm1,fm2,fm3]
    exact H.sub (sc1) (fun r h=>mt h)
  ·rw [af] at hc
   obtain rfl:i=msz.length:=by omega
   rw [ao] at H
   replace H:=H.r2.freeze
   replace H:=H.r1.sub (sc1) (fun _ h=>h)
   refine ⟨r,?_⟩;replace H:=H.drew;generalize w.drew=wd1 at H ⊢;have K:=grew_refl wd1 (r)
   refine ⟨_,rfl,?_⟩
   refine ⟨(H.ne (mt ms) (mt (mt ms))),?_⟩
   refine ⟨H.b1.row,?_⟩
   refine ⟨_,_,_,(H.b1.at0 rfl),?_⟩
   refine ⟨(H.ne ms (mt (mt ms))),?_⟩
   refine ⟨H.b0.row,?_⟩
   refine ⟨_,_,_,_,H.b0.ld,?_⟩
   refine ⟨rfl,?_⟩
   refine sNew H ?_;clear H;intro b47 w g H;replace K:=gtr K (grew_none _ g);clear g
   refine ⟨K,?_⟩
   refine sApp3 H (bytes:=32) (by kernel_rfl) [.int .u32 d0,.slice o2 msz.length oc2] (Chk.dat (d0,msz)) (by rfl) (fun j u hu=>by rw [add_flat,aK];exact H.b0.cell hu) (fun G h=>dc (.one _) (dc (h (.deep [_] [_]) ms).head dn)) (by simp [Value.oneCell']) (by unfold maxLen;omega) (by omega) ?_
   clear H;intro o3 ol3 oc3 r3 w ex3 g H
   replace K:=gtr K g;clear g;replace H:=H.d1
   refine ⟨K,?_⟩
   refine ⟨_,rfl,?_⟩
   refine sSt1 H (by exact add_flat _ _ _) (by kernel_rfl) (by rfl) (by rfl) ?_;clear H;intro w _ H
   subst ex3
   refine ⟨m - 1,by omega,ol+1,o3,oc3,r3,?_,by omega,?_⟩
   ·rw [wi64_of (by omega) (by omega)];simp
   ·rw [htk,aj]
    simp only [fm1,fm2,fm3]
    exact H.sub (sc1) (fun r h=>by simp [h])
 ·rw [af] at hc
  obtain rfl:ol=L.length:=by omega
  rw [ao] at H
  refine ⟨b1,rfl,?_⟩
  exact (H.r1.freeze.blkPtr [.row 2 (L.flatMap Chk.dat)] (fun G h=>by repeat (first | exact DeepL.nil _ _ | refine dc (h (.deep [_] [_]) ms).head ?_))).sub (ak _) (fun r h=>by rcases aI.1 h with rfl | h;exact ms;simp [h])
def isz:List Itm->Nat
 | []=>0
 | i::r=>1+i.2.size+isz r
def csz:List Chk->Nat
 | []=>0
 | c::r=>1+isz c.2+csz r
def bsz:List Blo->Nat
 | []=>0
 | b::r=>1+b.2.2.length+bsz r
def ssz:List Sta->Nat
 | []=>0
 | s::r=>1+s.2.2.2.2.length+ssz r
def Pk.size (p:Pk):Nat:=p.reports.length+p.ext.length+csz p.chunks+p.sources.length+p.text.size+p.data.length+p.pairs.length+p.slices.length+p.entries.length+bsz p.blocks+ssz p.statuses+p.deltas.length
def trim (p:Pk):Pk:=
 if p.kind=1 then { kind:=1,sender:=p.sender,ntp:=p.ntp,rtp:=p.rtp,packets:=p.packets,octets:=p.octets,reports:=p.reports,ext:=p.ext } else
 if p.kind=2 then { kind:=2,sender:=p.sender,reports:=p.reports,ext:=p.ext } else
 if p.kind=3 then { kind:=3,chunks:=p.chunks } else
 if p.kind=4 then { kind:=4,sources:=p.sources,text:=p.text } else
 if p.kind=5 then { kind:=5,sender:=p.sender,text:=p.text,sub:=p.sub,data:=p.data } else
 if p.kind=6 then { kind:=6,sender:=p.sender,media:=p.media,pairs:=p.pairs } else
 if p.kind=8 then { kind:=8,sender:=p.sender,blocks:=p.blocks,time:=p.time } else
 if p.kind=10 then { kind:=10,sender:=p.sender,media:=p.media,slices:=p.slices } else
 if p.kind=11 then { kind:=11,sender:=p.sender,media:=p.media,entries:=p.entries } else
 if p.kind=12 then { kind:=12,sender:=p.sender,bits:=p.bits,sources:=p.sources } else
 if p.kind=13 then { kind:=13,sender:=p.sender,media:=p.media,base:=p.base,count:=p.count,ref:=p.ref,fb:=p.fb,statuses:=p.statuses,deltas:=p.deltas,hp:=p.hp,hc:=p.hc,ht:=p.ht,hl:=p.hl } else
 if p.kind=0 then { data:=p.data } else
 { kind:=p.kind,sender:=p.sender,media:=p.media }
theorem isz_len:∀l:List Itm,l.length<=isz l
 | []=>aN _
 | i::r=>by have:=isz_len r;simp only [isz,aA];omega
theorem csz_len:∀l:List Chk,l.length<=csz l
 | []=>aN _
 | i::r=>by have:=csz_len r;simp only [csz,aA];omega
theorem bsz_len:∀l:List Blo,l.length<=bsz l
 | []=>aN _
 | i::r=>by have:=bsz_len r;simp only [bsz,aA];omega
theorem ssz_len:∀l:List Sta,l.length<=ssz l
 | []=>aN _
 | i::r=>by have:=ssz_len r;simp only [ssz,aA];omega
theorem csz_mem:∀(l:List Chk) (B:Chk),B∈l->B.2.length<=csz l
 | c::r,B,h=>by
  simp only [csz]
  rcases aI.1 h with rfl | h
  ·have:=isz_len B.2;omega
  ·have:=csz_mem r B h;omega
theorem bsz_mem:∀(l:List Blo) (B:Blo),B∈l->B.2.2.length<=bsz l
 | c::r,B,h=>by
  simp only [bsz]
  rcases aI.1 h with rfl | h
  ·omega
  ·have:=bsz_mem r B h;omega
structure Gd (p:Pk) (n:Nat):Prop where
 lo:0<=p.kind
 hi:p.kind<=12
 trim:trim p=p
 sz:p.size<=2*n
 bits:p.bits=(p.bits.toNat:Int)
theorem reps_lenZ:∀(k:Nat) (ys:List Int),(reps k ys).length=k
 | 0,_=>rfl
 | k+1,ys=>by rw [reps,aA,reps_lenZ k]
theorem items_sz (xs:List Int):∀(f i:Nat) (l:List Itm) (j:Nat),items xs f i=some (l,j)->isz l+i+1<=j/\j<=xs.length
 | 0,_,_,_,h=>by simp [items] at h
 | f+1,i,l,j,h=>by
  unfold items at h
  split at h
  ·cases h
  split at h
  ·cases h;simp only [isz];omega
  split at h
  ·cases h
  split at h
  ·cases h
  cases hq:items xs f (i+2+(xs.getD (i+1) 0).toNat) with
  | none=>rw [hq] at h;cases h
  | some q=>
   obtain ⟨l2,j2⟩:=q
   rw [hq] at h
   simp only [aU,aZ,Prod.mk.injEq] at h
   obtain ⟨rfl,rfl⟩:=h
   have ih:=items_sz xs f _ _ _ hq
   simp only [isz]
   rw [ca,bq,az]
   omega
theorem zeros_ge (xs:List Int):∀(f i j:Nat),zeros xs f i=some j->i<=j
 | 0,i,j,h=>by
  unfold zeros at h
  split at h
  ·cases h;omega
  ·cases h
 | f+1,i,j,h=>by
  unfold zeros at h
  split at h
  ·cases h;omega
  split at h
  ·cases h
  split at h
  ·have:=zeros_ge xs f _ _ h;omega
  ·cases h
theorem chks_sz:∀(n:Nat) (xs:List Int) (l:List Chk),chks n xs=some l->csz l<=xs.length
 | 0,xs,l,h=>by
  unfold chks at h
  split at h
  ·cases h;exact bE _
  ·cases h
 | n+1,xs,l,h=>by
  unfold chks at h
  split at h
  ·cases h
  cases hi:items xs xs.length 4 with
  | none=>rw [hi] at h;cases h
  | some q=>
   obtain ⟨l0,i⟩:=q
   rw [hi] at h
   simp only at h
   have h1:=items_sz _ _ _ _ _ hi
   cases hz:zeros xs 3 i with
   | none=>rw [hz] at h;cases h
   | some j=>
    rw [hz] at h
    simp only at h
    have h2:=zeros_ge _ _ _ _ hz
    cases hr:chks n (xs.drop j) with
    | none=>rw [hr] at h;cases h
    | some r=>
     rw [hr] at h
     simp only [aU,aZ] at h
     subst h
     have ih:=chks_sz n _ _ hr
     rw [az] at ih
     simp only [csz]
     omega
theorem metsL_lenZ:∀(k:Nat) (xs:List Int) (l:List Met),metsL k xs=some l->l.length=k
 | 0,_,l,h=>by unfold metsL at h;cases h;rfl
 | k+1,xs,l,h=>by
  by_cases hc:n16 xs / 32768≠1/\n16 xs≠0
  ·rw [metsL_none hc] at h;cases h
  ·rw [metsL_some hc] at h
   cases hq:metsL k (xs.drop 2) with
   | none=>rw [hq] at h;cases h
   | some q=>
    rw [hq] at h
    simp only [aU,aZ] at h
    subst h
    rw [aA,metsL_lenZ k _ _ hq]
theorem blocksL_sz:∀(f:Nat) (xs:List Int) (l:List Blo) (ys:List Int),blocksL f xs=some (l,ys)->bsz l<=xs.length
 | 0,_,_,_,h=>by simp [blocksL] at h
 | f+1,xs,l,ys,h=>by
  unfold blocksL at h
  simp only at h
  split at h
  ·cases h;exact bE _
  split at h
  ·cases h
  split at h
  ·cases h
  cases hm:metsL (n16 (xs.drop 6)).toNat (xs.drop 8) with
  | none=>rw [hm] at h;cases h
  | some msz=>
   rw [hm] at h
   simp only at h
   split at h
   ·cases h
   cases hq:blocksL f (xs.drop (8+2*((n16 (xs.drop 6)).toNat+(n16 (xs.drop 6)).toNat % 2))) with
   | none=>rw [hq] at h;cases h
   | some q=>
    obtain ⟨l2,y2⟩:=q
    rw [hq] at h
    simp only [aU,aZ,Prod.mk.injEq] at h
    obtain ⟨rfl,rfl⟩:=h
    have h1:=metsL_lenZ _ _ _ hm
    have ih:=blocksL_sz f _ _ _ hq
    rw [az] at ih
    simp only [bsz]
    omega
theorem entryL_sz:∀(n:Nat) (xs:List Int) (l:List Ent),entryL n xs=some l->l.length=n
 | 0,xs,l,h=>by
  unfold entryL at h
  split at h
  ·cases h;rfl
  ·cases h
 | n+1,xs,l,h=>by
  unfold entryL at h
  split at h
  ·cases h
  cases hq:entryL n (xs.drop 8) with
  | none=>rw [hq] at h;cases h
  | some q=>
   rw [hq] at h
   simp only [aU,aZ] at h
   subst h
   rw [aA,entryL_sz n _ _ hq]
theorem noText:(⟨#[]⟩:ByteArray).size=0:=rfl
theorem rdT_kind {m:Int} {hp:Bool} {hc ht hl:Int} (h:rdT s m hp hc ht hl xs=some p):p.kind=13:=by
 unfold rdT at h
 split at h
 ·cases h
 split at h
 ·cases h
 split at h
 ·cases h
 split at h
 ·cases h
 split at h
 ·cases h
 split at h
 ·cases h;rfl
 ·cases h
theorem Gd.mk0 (lo:0<=p.kind) (hi:p.kind<=12) (ht:Go.Proofs.YtkdialecadjedaaGreatDoor.trim p=p) (hs:p.size<=2*n) (hb:p.bits=(p.bits.toNat:Int)) (_:p.statuses=[]) (_:p.deltas=[]):Gd p n:=
 ⟨lo,hi,ht,hs,hb⟩
theorem body_Gd (hk13:p.kind≠13) (h:rdBody xs=some p):Gd p xs.length:=by
 unfold rdBody at h
 simp only at h
 generalize kindOf (hT xs) (hC xs)=k at h
 split at h
 ·split at h
  ·cases h
  ·cases h
   refine Gd.mk0 (by simp) (by simp) (by simp [trim]) ?_ (by simp) rfl rfl
   simp only [Pk.size,csz,bsz,ssz,ay,reps_lenZ,noText]
   simp only [az] at *
   omega
 split at h
 ·split at h
  ·cases h
  ·cases h
   refine Gd.mk0 (by simp) (by simp) (by simp [trim]) ?_ (by simp) rfl rfl
   simp only [Pk.size,csz,bsz,ssz,ay,reps_lenZ,noText]
   simp only [az] at *
   omega
 split at h
 ·cases hq:chks (hC xs).toNat (xs.drop 4) with
  | none=>rw [hq] at h;cases h
  | some l=>
   rw [hq] at h
   simp only [aU,aZ] at h
   subst h
   have:=chks_sz _ _ _ hq
   refine Gd.mk0 (by simp) (by simp) (by simp [trim]) ?_ (by simp) rfl rfl
   simp only [Pk.size,csz,bsz,ssz,ay,noText]
   rw [az] at this
   omega
 split at h
 ·unfold rdBye at h
  simp only at h
  split at h
  ·cases h
  split at h
  ·cases h
   refine Gd.mk0 (by simp) (by simp) (by simp [trim]) ?_ (by simp) rfl rfl
   simp only [Pk.size,csz,bsz,ssz,ay,words_len,noText]
   simp only [az] at *
   omega
  split at h
  ·cases h
  split at h
  ·cases h
  split at h
  ·cases h
  split at h
  ·cases h
   refine Gd.mk0 (by simp) (by simp) (by simp [trim]) ?_ (by simp) rfl rfl
   simp only [Pk.size,csz,bsz,ssz,ay,words_len]
   rw [ca,bq,az]
   simp only [az] at *
   omega
  ·cases h
 split at h
 ·split at h
  ·cases h
  ·cases h
   refine Gd.mk0 (by simp) (by simp) (by simp [trim]) ?_ (by simp) rfl rfl
   simp only [Pk.size,csz,bsz,ssz,ay]
   rw [ca,bq]
   simp only [az] at *
   omega
 split at h
 ·cases h
 rename_i hlen
 rw [az] at hlen
 unfold rdFb at h
 simp only at h
 split at h
 ·rename_i hk
  split at h
  ·cases h
   refine Gd.mk0 (by simp only;omega) (by simp only;omega) ?_ ?_ (by simp) rfl rfl
   ·rcases hk with rfl | rfl<;>simp [trim]
   ·simp only [Pk.size,csz,bsz,ssz,ay,noText];omega
  ·cases h
 split at h
 ·split at h
  ·cases h
  ·cases h
   refine Gd.mk0 (by simp) (by simp) (by simp [trim]) ?_ (by simp) rfl rfl
   simp only [Pk.size,csz,bsz,ssz,ay,pairsL_length,noText]
   simp only [az] at *
   omega
 split at h
 ·split at h
  ·cases h
  ·cases h
   refine Gd.mk0 (by simp) (by simp) (by simp [trim]) ?_ (by simp) rfl rfl
   simp only [Pk.size,csz,bsz,ssz,ay,sliceL_length,noText]
   simp only [az] at *
   omega
 split at h
 ·cases hq:entryL (((xs.drop 4).drop 8).length / 8) ((xs.drop 4).drop 8) with
  | none=>rw [hq] at h;cases h
  | some l=>
   rw [hq] at h
   simp only at h
   have:=entryL_sz _ _ _ hq
   split at h
   ·cases h
   ·cases h
    refine Gd.mk0 (by simp) (by simp) (by simp [trim]) ?_ (by simp) rfl rfl
    simp only [Pk.size,csz,bsz,ssz,ay,noText]
    simp only [az] at *
    omega
 split at h
 ·unfold rdRemb at h
  split at h
  ·cases h
  split at h
  ·cases h
  split at h
  ·cases h
  split at h
  ·cases h
  split at h
  ·cases h
  cases h
  refine Gd.mk0 (by simp) (by simp) (by simp [trim]) ?_ (by simp) rfl rfl
  simp only [Pk.size,csz,bsz,ssz,ay,words_len,noText]
  simp only [az] at *
  omega
 split at h
 ·unfold rdCc at h
  cases hq:blocksL ((xs.drop 4).drop 4).length ((xs.drop 4).drop 4) with
  | none=>rw [hq] at h;cases h
  | some q=>
   obtain ⟨l,ys⟩:=q
   rw [hq] at h
   simp only at h
   have:=blocksL_sz _ _ _ _ hq
   split at h
   ·cases h
    refine Gd.mk0 (by simp) (by simp) (by simp [trim]) ?_ (by simp) rfl rfl
    simp only [Pk.size,csz,bsz,ssz,ay,noText]
    simp only [az] at *
    omega
   ·cases h
 ·exact absurd (rdT_kind h) hk13
theorem go_Gd (h:go xs=some p) (hk:p.kind≠13):Gd p xs.length:=by
 have hgo:=h
 unfold go at h
 split at h
 ·rename_i h0
  have hok:hdrOk xs=true:=by
   cases hh:hdrOk xs with
   | true=>rfl
   | false=>unfold rdOne at h0;rw [aG hh] at h0;exact absurd h0 (by decide)
  have hlen:4*(hL xs+1)=(xs.length:Int):=by
   by_cases hl:4*(hL xs+1)=(xs.length:Int)
   ·exact hl
   ·unfold rdOne at h0;rw [ap (by rw [hok];decide),aG hl] at h0;exact absurd h0 (by decide)
  have hd:Hd xs (hT xs) (hC xs):=⟨hok,hlen,rfl,rfl⟩
  by_cases hk0:kindOf (hT xs) (hC xs)=0
  ·have hr:=go_raw hd hk0
   rw [hgo] at hr
   split at hr
   ·cases hr
   ·cases hr
    refine Gd.mk0 (by simp) (by simp) (by simp [Go.Proofs.YtkdialecadjedaaGreatDoor.trim]) ?_ (by simp) rfl rfl
    simp only [Pk.size,csz,bsz,ssz,ay,noText]
    omega
  ·have hr:=go_gd hd hk0
   rw [hgo] at hr
   obtain ⟨_,hr⟩:=gd_some hr.symm
   cases h
   exact body_Gd hk hr
 ·cases h
theorem Par.dat_lenK (x:Par):(Par.dat x).length=2:=rfl
theorem Sli.dat_lenK (x:Sli):(Sli.dat x).length=3:=rfl
theorem Ent.dat_lenK (x:Ent):(Ent.dat x).length=2:=rfl
theorem Sta.dat_lenK (x:Sta):(Sta.dat x).length=5:=rfl
theorem Del.dat_lenK (x:Del):(Del.dat x).length=2:=rfl
theorem DeepL.consInv (h:DeepL w G (d::ds) vs):∃v us,vs=v::us/\Deep w G d v/\DeepL w G ds us:=by
 cases vs with
 | nil=>have:=h.1;simp at this
 | cons v us=>exact ⟨v,us,rfl,h.head,h.tail⟩
theorem DeepL.nilInv (h:DeepL w G [] vs):vs=[]:=by
 cases vs with
 | nil=>rfl
 | cons v us=>have:=h.1;simp at this
theorem Deep.oneInv {u:Value} (h:Deep w G (.one u) v):v=u:=by cases h;rfl
theorem Deep.rowInv (h:Deep w G (.row sz ds) v):∃a n c,v=.slice a n c/\ds.length=n*sz:=by
 have hl:∀a n c,v=.slice a n c->ds.length=n*sz:=by rintro a n c rfl;exact h.len.1
 cases h with
 | emp=>exact ⟨_,_,_,rfl,by simp⟩
 | row _ b o n c _ vs=>exact ⟨_,_,_,rfl,hl _ _ _ rfl⟩
def pkC (p:Pk) (a7 a8 a9 a10 a13 a14 a15 a16 a18 a24 a25:Option Addr) (c7 c8 c9 c10 c13 c14 c15 c16 c18 c24 c25:Nat):List Value:=
 [.int .i64 p.kind,.int .u32 p.sender,.int .u32 p.media,.int .u64 p.ntp,.int .u32 p.rtp,.int .u32 p.packets,.int .u32 p.octets,.slice a7 p.reports.length c7,.slice a8 p.ext.length c8,.slice a9 p.chunks.length c9,.slice a10 p.sources.length c10,.string p.text,.int .u8 p.sub,.slice a13 p.data.length c13,.slice a14 p.pairs.length c14,.slice a15 p.slices.length c15,.slice a16 p.entries.length c16,.int .u32 p.bits,.slice a18 p.blocks.length c18,.int .u32 p.time,.int .u16 p.base,.int .u16 p.count,.int .u32 p.ref,.int .u8 p.fb,.slice a24 p.statuses.length c24,.slice a25 p.deltas.length c25,.bool p.hp,.int .u8 p.hc,.int .u8 p.ht,.int .u16 p.hl]
def pkR (p:Pk) (a7 a8 a9 a10 a13 a14 a15 a16 a18 a24 a25:Option Addr) (c7 c8 c9 c10 c13 c14 c15 c16 c18 c24 c25:Nat):List Ro:=
 [.deep [.row 7 (p.reports.flatMap Rep.dat)] [.slice a7 p.reports.length c7],.deep [.row 1 (ob p.ext)] [.slice a8 p.ext.length c8],.deep [.row 2 (p.chunks.flatMap Chk.dat)] [.slice a9 p.chunks.length c9],.deep [.row 1 (oi .u32 p.sources)] [.slice a10 p.sources.length c10],.deep [.row 1 (ob p.data)] [.slice a13 p.data.length c13],.deep [.row 2 (p.pairs.flatMap Par.dat)] [.slice a14 p.pairs.length c14],.deep [.row 3 (p.slices.flatMap Sli.dat)] [.slice a15 p.slices.length c15],.deep [.row 2 (p.entries.flatMap Ent.dat)] [.slice a16 p.entries.length c16],.deep [.row 3 (p.blocks.flatMap Blo.dat)] [.slice a18 p.blocks.length c18],.deep [.row 5 (p.statuses.flatMap Sta.dat)] [.slice a24 p.statuses.length c24],.deep [.row 2 (p.deltas.flatMap Del.dat)] [.slice a25 p.deltas.length c25]]
theorem Sat.pk (H:Sat F w ex ro) (h:Ro.deep p.dat cells∈ro) :
  ∃a7 a8 a9 a10 a13 a14 a15 a16 a18 a24 a25 c7 c8 c9 c10 c13 c14 c15 c16 c18 c24 c25,cells=pkC p a7 a8 a9 a10 a13 a14 a15 a16 a18 a24 a25 c7 c8 c9 c10 c13 c14 c15 c16 c18 c24 c25/\Sat F w ex (pkR p a7 a8 a9 a10 a13 a14 a15 a16 a18 a24 a25 c7 c8 c9 c10 c13 c14 c15 c16 c18 c24 c25++ro):=by
 have D:=H.deep h
 unfold Pk.dat at D
 obtain ⟨v0,us0,rfl,d0,D⟩:=D.consInv
 obtain ⟨v1,us1,rfl,d1,D⟩:=D.consInv
 obtain ⟨v2,us2,rfl,d2,D⟩:=D.consInv
 obtain ⟨v3,us3,rfl,d3,D⟩:=D.consInv
 obtain ⟨v4,us4,rfl,d4,D⟩:=D.consInv
 obtain ⟨v5,us5,rfl,d5,D⟩:=D.consInv
 obtain ⟨v6,us6,rfl,d6,D⟩:=D.consInv
 obtain ⟨v7,us7,rfl,d7,D⟩:=D.consInv
 obtain ⟨v8,us8,rfl,d8,D⟩:=D.consInv
 obtain ⟨v9,us9,rfl,d9,D⟩:=D.consInv
 obtain ⟨v10,us10,rfl,d10,D⟩:=D.consInv
 obtain ⟨v11,us11,rfl,d11,D⟩:=D.consInv
 obtain ⟨v12,us12,rfl,d12,D⟩:=D.consInv
 obtain ⟨v13,us13,rfl,d13,D⟩:=D.consInv
 obtain ⟨v14,us14,rfl,d14,D⟩:=D.consInv
 obtain ⟨v15,us15,rfl,d15,D⟩:=D.consInv
 obtain ⟨v16,us16,rfl,d16,D⟩:=D.consInv
 obtain ⟨v17,us17,rfl,d17,D⟩:=D.consInv
 obtain ⟨v18,us18,rfl,d18,D⟩:=D.consInv
 obtain ⟨v19,us19,rfl,d19,D⟩:=D.consInv
 obtain ⟨v20,us20,rfl,d20,D⟩:=D.consInv
 obtain ⟨v21,us21,rfl,d21,D⟩:=D.consInv
 obtain ⟨v22,us22,rfl,d22,D⟩:=D.consInv
 obtain ⟨v23,us23,rfl,d23,D⟩:=D.consInv
 obtain ⟨v24,us24,rfl,d24,D⟩:=D.consInv
 obtain ⟨v25,us25,rfl,d25,D⟩:=D.consInv
 obtain ⟨v26,us26,rfl,d26,D⟩:=D.consInv
 obtain ⟨v27,us27,rfl,d27,D⟩:=D.consInv
 obtain ⟨v28,us28,rfl,d28,D⟩:=D.consInv
 obtain ⟨v29,us29,rfl,d29,D⟩:=D.consInv
 obtain rfl:=D.nilInv
 obtain rfl:=d0.oneInv
 obtain rfl:=d1.oneInv
 obtain rfl:=d2.oneInv
 obtain rfl:=d3.oneInv
 obtain rfl:=d4.oneInv
 obtain rfl:=d5.oneInv
 obtain rfl:=d6.oneInv
 obtain ⟨a7,n7,c7,rfl,e7⟩:=d7.rowInv
 rw [flat_len Rep.dat_len'] at e7
 obtain rfl:n7=p.reports.length:=by omega
 obtain ⟨a8,n8,c8,rfl,e8⟩:=d8.rowInv
 rw [ob_length] at e8
 obtain rfl:n8=p.ext.length:=by omega
 obtain ⟨a9,n9,c9,rfl,e9⟩:=d9.rowInv
 rw [flat_len Chk.dat_len'] at e9
 obtain rfl:n9=p.chunks.length:=by omega
 obtain ⟨a10,n10,c10,rfl,e10⟩:=d10.rowInv
 rw [oi_length] at e10
 obtain rfl:n10=p.sources.length:=by omega
 obtain rfl:=d11.oneInv
 obtain rfl:=d12.oneInv
 obtain ⟨a13,n13,c13,rfl,e13⟩:=d13.rowInv
 rw [ob_length] at e13
 obtain rfl:n13=p.data.length:=by omega
 obtain ⟨a14,n14,c14,rfl,e14⟩:=d14.rowInv
 rw [flat_len Par.dat_lenK] at e14
 obtain rfl:n14=p.pairs.length:=by omega
 obtain ⟨a15,n15,c15,rfl,e15⟩:=d15.rowInv
 rw [flat_len Sli.dat_lenK] at e15
 obtain rfl:n15=p.slices.length:=by omega
 obtain ⟨a16,n16,c16,rfl,e16⟩:=d16.rowInv
 rw [flat_len Ent.dat_lenK] at e16
 obtain rfl:n16=p.entries.length:=by omega
 obtain rfl:=d17.oneInv
 obtain ⟨a18,n18,c18,rfl,e18⟩:=d18.rowInv
 rw [flat_len Blo.dat_len'] at e18
 obtain rfl:n18=p.blocks.length:=by omega
 obtain rfl:=d19.oneInv
 obtain rfl:=d20.oneInv
 obtain rfl:=d21.oneInv
 obtain rfl:=d22.oneInv
 obtain rfl:=d23.oneInv
 obtain ⟨a24,n24,c24,rfl,e24⟩:=d24.rowInv
 rw [flat_len Sta.dat_lenK] at e24
 obtain rfl:n24=p.statuses.length:=by omega
 obtain ⟨a25,n25,c25,rfl,e25⟩:=d25.rowInv
 rw [flat_len Del.dat_lenK] at e25
 obtain rfl:n25=p.deltas.length:=by omega
 obtain rfl:=d26.oneInv
 obtain rfl:=d27.oneInv
 obtain rfl:=d28.oneInv
 obtain rfl:=d29.oneInv
 exact ⟨a7,a8,a9,a10,a13,a14,a15,a16,a18,a24,a25,c7,c8,c9,c10,c13,c14,c15,c16,c18,c24,c25,rfl,(Sat.addRo (r:=.deep [.row 7 (p.reports.flatMap Rep.dat)] [.slice a7 p.reports.length c7]) (Sat.addRo (r:=.deep [.row 1 (ob p.ext)] [.slice a8 p.ext.length c8]) (Sat.addRo (r:=.deep [.row 2 (p.chunks.flatMap Chk.dat)] [.slice a9 p.chunks.length c9]) (Sat.addRo (r:=.deep [.row 1 (oi .u32 p.sources)] [.slice a10 p.sources.length c10]) (Sat.addRo (r:=.deep [.row 1 (ob p.data)] [.slice a13 p.data.length c13]) (Sat.addRo (r:=.deep [.row 2 (p.pairs.flatMap Par.dat)] [.slice a14 p.pairs.length c14]) (Sat.addRo (r:=.deep [.row 3 (p.slices.flatMap Sli.dat)] [.slice a15 p.slices.length c15]) (Sat.addRo (r:=.deep [.row 2 (p.entries.flatMap Ent.dat)] [.slice a16 p.entries.length c16]) (Sat.addRo (r:=.deep [.row 3 (p.blocks.flatMap Blo.dat)] [.slice a18 p.blocks.length c18]) (Sat.addRo (r:=.deep [.row 5 (p.statuses.flatMap Sta.dat)] [.slice a24 p.statuses.length c24]) (Sat.addRo (r:=.deep [.row 2 (p.deltas.flatMap Del.dat)] [.slice a25 p.deltas.length c25]) H (dc d25 dn)) (dc d24 dn)) (dc d18 dn)) (dc d16 dn)) (dc d15 dn)) (dc d14 dn)) (dc d13 dn)) (dc d10 dn)) (dc d9 dn)) (dc d8 dn)) (dc d7 dn))⟩
/-! ### The text of spec.Key -/
def uw (x:Int):Int:=u64.wrap x
def un (n:Nat):Int:=u64.wrap (n:Int)
def ub (x:Bool):Int:=if x then 1 else 0
def sbs (s:ByteArray):List Int:=s.data.toList.map fun c=>(c.toNat:Int)
def k8 (v:Int):List Int:=[56,48,40,32,24,16,8,0].map fun i=>u8.wrap (ishr .u64 v i)
def kn (l:List Int):List Int:=l.flatMap k8
def kt (s:ByteArray):List Int:=kn [un s.size]++sbs s
def kRep:Rep->List Int
 | (a,b,c,d,e,f,g)=>kn [uw a,uw b,uw c,uw d,uw e,uw f,uw g]
def kItm:Itm->List Int
 | (t,s)=>kn [uw t]++kt s
def kChk:Chk->List Int
 | (s,l)=>kn [uw s,un l.length]++l.flatMap kItm
def kSrc (x:Int):List Int:=kn [uw x]
def kPar:Par->List Int
 | (a,b)=>kn [uw a,uw b]
def kSli:Sli->List Int
 | (a,b,c)=>kn [uw a,uw b,uw c]
def kEnt:Ent->List Int
 | (a,b)=>kn [uw a,uw b]
def kMet:Met->List Int
 | (a,b,c)=>kn [ub a,uw b,uw c]
def kBlo:Blo->List Int
 | (a,b,l)=>kn [uw a,uw b,un l.length]++l.flatMap kMet
def kSta:Sta->List Int
 | (v,a,b,c,l)=>kn [ub v,uw a,uw b,uw c,un l.length]++l.flatMap kSrc
def kDel:Del->List Int
 | (a,b)=>kn [uw a,uw b]
def kb1 (p:Pk):List Int:=kn [uw p.kind,uw p.sender,uw p.media,p.ntp,uw p.rtp,uw p.packets,uw p.octets,un p.reports.length]++p.reports.flatMap kRep
def kb2 (p:Pk):List Int:=kb1 p++kt (strOfNums p.ext)++kn [un p.chunks.length]++p.chunks.flatMap kChk
def kb3 (p:Pk):List Int:=kb2 p++kn [un p.sources.length]++p.sources.flatMap kSrc
def kb4 (p:Pk):List Int:=kb3 p++kt p.text++kn [uw p.sub]++kt (strOfNums p.data)++kn [un p.pairs.length]++p.pairs.flatMap kPar
def kb5 (p:Pk):List Int:=kb4 p++kn [un p.slices.length]++p.slices.flatMap kSli
def kb6 (p:Pk):List Int:=kb5 p++kn [un p.entries.length]++p.entries.flatMap kEnt
def kb7 (p:Pk):List Int:=kb6 p++kn [uw p.bits,un p.blocks.length]++p.blocks.flatMap kBlo
def kb8 (p:Pk):List Int:=kb7 p++kn [uw p.time,uw p.base,uw p.count,uw p.ref,uw p.fb,un p.statuses.length]++p.statuses.flatMap kSta
def keyB (p:Pk):List Int:=kb8 p++kn [un p.deltas.length]++p.deltas.flatMap kDel
theorem k8_len (v:Int):(k8 v).length=8:=rfl
theorem kn_len:∀l:List Int,(kn l).length=8*l.length
 | []=>rfl
 | x::r=>by
  have:=kn_len r
  unfold kn at this ⊢
  rw [av,ae,this,k8_len,aA]
  omega
theorem sbs_len (s:ByteArray):(sbs s).length=s.size:=by simp [sbs]
theorem kt_len (s:ByteArray):(kt s).length=8+s.size:=by
 unfold kt
 rw [ae,kn_len,sbs_len]
 simp
theorem flat_at {α:Type} {f:α->List Int} {L:List α} (h:j < L.length):((L.take j).flatMap f).length+((f L[j]).length+((L.drop (j+1)).flatMap f).length)=(L.flatMap f).length:=by
 conv=>rhs;rw [<-ck j L,bw h]
 rw [aj,av,ae,ae]
theorem flat_bd {α:Type} {f:α->List Int} (hk:∀x,(f x).length=k):∀L:List α,(L.flatMap f).length=k*L.length
 | []=>rfl
 | x::r=>by
  rw [av,ae,hk,flat_bd hk r,aA]
  rw [Nat.mul_add];omega
theorem kItm_sz:∀l:List Itm,(l.flatMap kItm).length<=16*isz l
 | []=>aN _
 | (t,s)::r=>by
  have:=kItm_sz r
  rw [av,ae]
  simp only [kItm,ae,kn_len,kt_len,isz,aA,ay]
  omega
theorem kChk_sz:∀l:List Chk,(l.flatMap kChk).length<=16*csz l
 | []=>aN _
 | (s,i)::r=>by
  have:=kChk_sz r
  have:=kItm_sz i
  rw [av,ae]
  simp only [kChk,ae,kn_len,csz,aA,ay]
  omega
theorem kMet_len (x:Met):(kMet x).length=24:=by obtain ⟨a,b,c⟩:=x;simp only [kMet,kn_len];rfl
theorem kSrc_len (x:Int):(kSrc x).length=8:=by simp only [kSrc,kn_len];rfl
theorem kBlo_sz:∀l:List Blo,(l.flatMap kBlo).length<=24*bsz l
 | []=>aN _
 | (a,b,i)::r=>by
  have:=kBlo_sz r
  rw [av,ae]
  simp only [kBlo,ae,kn_len,bsz,aA,ay,flat_bd kMet_len]
  omega
theorem kSta_sz:∀l:List Sta,(l.flatMap kSta).length<=40*ssz l
 | []=>aN _
 | (v,a,b,c,i)::r=>by
  have:=kSta_sz r
  rw [av,ae]
  simp only [kSta,ae,kn_len,ssz,aA,ay,flat_bd kSrc_len]
  omega
theorem kRep_len (x:Rep):(kRep x).length=56:=by obtain ⟨a,b,c,d,e,f,g⟩:=x;simp only [kRep,kn_len];rfl
theorem kPar_len (x:Par):(kPar x).length=16:=by obtain ⟨a,b⟩:=x;simp only [kPar,kn_len];rfl
theorem kSli_len (x:Sli):(kSli x).length=24:=by obtain ⟨a,b,c⟩:=x;simp only [kSli,kn_len];rfl
theorem kEnt_len (x:Ent):(kEnt x).length=16:=by obtain ⟨a,b⟩:=x;simp only [kEnt,kn_len];rfl
theorem kDel_len (x:Del):(kDel x).length=16:=by obtain ⟨a,b⟩:=x;simp only [kDel,kn_len];rfl
theorem keyB_sz (p:Pk):(keyB p).length<=400+60*p.size:=by
 have h1:=kChk_sz p.chunks
 have h2:=kBlo_sz p.blocks
 have h3:=kSta_sz p.statuses
 have h4:(strOfNums p.ext).size=p.ext.length:=ca _
 have h5:(strOfNums p.data).size=p.data.length:=ca _
 simp only [keyB,kb8,kb7,kb6,kb5,kb4,kb3,kb2,kb1,ae,kn_len,kt_len,flat_bd kRep_len,flat_bd kSrc_len,flat_bd kPar_len,flat_bd kSli_len,flat_bd kEnt_len,flat_bd kDel_len,aA,ay,Pk.size,h4,h5]
 omega
theorem DeepL.i1 {u:Value} (h:DeepL w G (.one u::ds) vs):∃us,vs=u::us/\DeepL w G ds us:=by
 obtain ⟨v,us,rfl,d,D⟩:=h.consInv
 obtain rfl:=d.oneInv
 exact ⟨us,rfl,D⟩
theorem Sat.rowC (H:Sat F w ex ro) (h:Ro.cell b o v∈ro):∃c ty f,w.heap[b]?=some (.cells c ty f):=by
 have hc:=(H.hr _ h).1
 unfold World.cell? at hc
 cases hb:w.heap[b]? with
 | none=>simp [hb] at hc
 | some x=>
  cases x with
  | cells c ty f=>exact ⟨c,ty,f,rfl⟩
  | _=>simp [hb] at hc
theorem Sat.ptrC (H:Sat F w ex ro) (h:Ro.deep [.ptr ds] [v]∈ro) :
  ∃b vs ro1,v=.pointer (some ⟨b,0,none⟩)/\DeepL w (fun b=>b ∉ foots ex) ds vs/\(∀(i:Nat) (u:Value),vs[i]?=some u->Ro.cell b i u∈ro1) /\
   (∀(i:Nat) (d:Dat) (u:Value),ds[i]?=some d->vs[i]?=some u->Ro.deep [d] [u]∈ro1)/\(∀r∈ro,r∈ro1)/\Sat F w ex ro1:=by
 obtain ⟨b,vs,rfl,hcell,_,hnb,H1⟩:=H.ptr h
 have D:=H1.deep ms
 refine ⟨b,vs,vs.zipIdx.map (fun q=>Ro.cell b q.2 q.1)++((ds.zip vs).map (fun q=>Ro.deep [q.1] [q.2])++ro),rfl,D,fun i u hu=>?_,fun i d u hd hu=>?_,fun r hr=>?_,⟨H.gr,H.nd,H.lt,H.he,fun r hr=>?_⟩⟩
 ·refine bx _ (bC.2 ⟨(u,i),?_,rfl⟩)
  exact List.mem_iff_getElem?.2 ⟨i,by rw [List.getElem?_zipIdx,hu];simp⟩
 ·refine bh _ (bx _ (bC.2 ⟨(d,u),?_,rfl⟩))
  exact List.mem_iff_getElem?.2 ⟨i,by rw [List.getElem?_zip_eq_some];exact ⟨hd,hu⟩⟩
 ·exact bh _ (bh _ hr)
 ·rcases aV.1 hr with hr | hr
  ·obtain ⟨⟨u,i⟩,hq,rfl⟩:=bC.1 hr
   obtain ⟨k,hk⟩:=List.mem_iff_getElem?.1 hq
   rw [List.getElem?_zipIdx] at hk
   cases hv:vs[k]? with
   | none=>rw [hv] at hk;cases hk
   | some u'=>
    rw [hv] at hk
    simp only [aU,aZ,Prod.mk.injEq,aK] at hk
    obtain ⟨rfl,rfl⟩:=hk
    exact ⟨hcell k u' hv,hnb⟩
  ·rcases aV.1 hr with hr | hr
   ·obtain ⟨⟨d,u⟩,hq,rfl⟩:=bC.1 hr
    obtain ⟨k,hk⟩:=List.mem_iff_getElem?.1 hq
    rw [List.getElem?_zip_eq_some] at hk
    exact dc (D.2 k d u hk.1 hk.2) dn
   ·exact H.hr r hr
def PlPost (F:Fr) (ex:List Ex) (ro:List Ro) (p:Pk) (en:Ending) (w':World):Prop:=
 ∃cells ro',en=.returned (.agg cells.toArray)/\(∀r∈ro,r∈ro')/\Sat F w' ex ro'/\Ro.deep (trim p).dat cells∈ro'
theorem PlPost.mk (H:Sat F w exs ro') (hs:ex.Sublist exs) (hr:∀r∈ro,r∈ro')
  (hD:∀G:Nat->Prop,(∀r∈ro',Ro.holds w G r)->DeepL w G (trim p).dat cells):PlPost F ex ro p (.returned (.agg cells.toArray)) w:=
 ⟨cells,_,rfl,fun r h=>mt (hr r h),(H.addD hD).sub hs (fun _ h=>h),ms⟩
theorem Sat.pkF (H:Sat F w ex ro) (h:Ro.deep p.dat cells∈ro) :
  ∃a7 a8 a9 a10 a13 a14 a15 a16 a18 a24 a25 c7 c8 c9 c10 c13 c14 c15 c16 c18 c24 c25 R,cells=pkC p a7 a8 a9 a10 a13 a14 a15 a16 a18 a24 a25 c7 c8 c9 c10 c13 c14 c15 c16 c18 c24 c25/\(∀r∈ro,r∈R)/\Sat F w ex R/\Ro.deep [.row 7 (p.reports.flatMap Rep.dat)] [.slice a7 p.reports.length c7]∈R/\Ro.deep [.row 1 (ob p.ext)] [.slice a8 p.ext.length c8]∈R/\Ro.deep [.row 2 (p.chunks.flatMap Chk.dat)] [.slice a9 p.chunks.length c9]∈R/\Ro.deep [.row 1 (oi .u32 p.sources)] [.slice a10 p.sources.length c10]∈R/\Ro.deep [.row 1 (ob p.data)] [.slice a13 p.data.length c13]∈R/\Ro.deep [.row 2 (p.pairs.flatMap Par.dat)] [.slice a14 p.pairs.length c14]∈R/\Ro.deep [.row 3 (p.slices.flatMap Sli.dat)] [.slice a15 p.slices.length c15]∈R/\Ro.deep [.row 2 (p.entries.flatMap Ent.dat)] [.slice a16 p.entries.length c16]∈R/\Ro.deep [.row 3 (p.blocks.flatMap Blo.dat)] [.slice a18 p.blocks.length c18]∈R/\Ro.deep [.row 5 (p.statuses.flatMap Sta.dat)] [.slice a24 p.statuses.length c24]∈R/\Ro.deep [.row 2 (p.deltas.flatMap Del.dat)] [.slice a25 p.deltas.length c25]∈R:=by
 obtain ⟨a7,a8,a9,a10,a13,a14,a15,a16,a18,a24,a25,c7,c8,c9,c10,c13,c14,c15,c16,c18,c24,c25,rfl,H1⟩:=H.pk h
 refine ⟨a7,a8,a9,a10,a13,a14,a15,a16,a18,a24,a25,c7,c8,c9,c10,c13,c14,c15,c16,c18,c24,c25,_,rfl,fun r h=>bh _ h,H1,?_⟩
 unfold pkR
 simp
def BuPost (F:Fr) (ex:List Ex) (ro:List Ro) (p:Pk) (en:Ending) (w':World):Prop:=
 ∃T v ro',en=.returned (.iface T v)/\(∀r∈ro,r∈ro')/\Sat F w' ex ro'/\Ro.deep [pkI p] [.iface T v]∈ro'
theorem BuPost.at (H:Sat F w exs ro') (hs:ex.Sublist exs) (hr:∀r∈ro,r∈ro') (hm:Ro.deep [.ptr ds] [v]∈ro') (hT:tyK p.kind=T) (hd:rtcpD p=ds) :
  BuPost F ex ro p (.returned (.iface T v)) w:=by
 subst hT hd
 refine ⟨_,_,_,rfl,fun r h=>mt (hr r h),(H.addD (ds:=[pkI p]) (vs:=[.iface (tyK p.kind) v]) (fun G h=>?_)).sub hs (fun _ h=>h),ms⟩
 exact dc (.ifc _ _ _ (h (.deep [_] [_]) hm).head) dn
theorem BuPost.mk {TT:TypeId} (H:Sat F w (.blk b TT cells::exs) ro') (hs:ex.Sublist exs) (hr:∀r∈ro,r∈ro') (hT:tyK p.kind=T) (hd:rtcpD p=ds)
  (hD:∀G:Nat->Prop,(∀r∈ro',Ro.holds w G r)->DeepL w G ds cells):BuPost F ex ro p (.returned (.iface T (.pointer (some ⟨b,0,none⟩)))) w:=
 BuPost.at (H.blkPtr ds hD) hs (fun r h=>mt (hr r h)) ms hT hd
theorem bu0 (H:Sat F w ex ro) (hk:p.kind=0) (hp:Ro.deep p.dat cells∈ro) (hs:p.size<=600000):Calls pg 65 #[.agg cells.toArray] w (BuPost F ex ro p):=by
 have hD:rtcpD p=[.row 1 (ob p.data)]:=by unfold rtcpD;simp [hk]
 have hT:tyK p.kind=242:=by rw [hk];rfl
 unfold Pk.size at hs
 obtain ⟨a7,a8,a9,a10,a13,a14,a15,a16,a18,a24,a25,c7,c8,c9,c10,c13,c14,c15,c16,c18,c24,c25,R,rfl,hr,H,m7,m8,m9,m10,m13,m14,m15,m16,m18,m24,m25⟩:=H.pkF hp
 unfold pkC
 rw [hk]
 apply of65
 refine sNew H ?_;clear H;intro b1 w _ H
 refine ⟨_,(H.b0.at0 rfl),?_⟩
 refine fF ?_
 refine fF ?_
 refine fF ?_
 refine fF ?_
 refine fF ?_
 refine fF ?_
 refine fF ?_
 refine fF ?_
 refine fF ?_
 refine fF ?_
 refine fF ?_
 refine fF ?_
 refine fF ?_
 refine ⟨_,_,_,(H.b0.at0 rfl),?_⟩
 refine call_j (c37 (xs:=p.data) H m13 (by omega)) ?_
 clear H;rintro _ w ⟨o0,q0,rfl,_,H⟩
 refine ⟨_,_,_,rfl,?_⟩
 refine sNew H ?_;clear H;intro b2 w _ H
 refine sSt0 H (by rfl) (h:=?_);clear H;intro w _ H
 exact BuPost.mk H sl1 (fun r h=>mt (hr r h)) hT hD (fun G h=>(dc (h (.deep [_] [_]) (ms)).head dn))
theorem bu1 (H:Sat F w ex ro) (hk:p.kind=1) (hp:Ro.deep p.dat cells∈ro) (hs:p.size<=600000):Calls pg 65 #[.agg cells.toArray] w (BuPost F ex ro p):=by
 have hD:rtcpD p=[.one (.int .u32 p.sender),.one (.int .u64 p.ntp),.one (.int .u32 p.rtp),.one (.int .u32 p.packets),.one (.int .u32 p.octets),.row 7 (p.reports.flatMap Rep.dat),.row 1 (ob p.ext)]:=by unfold rtcpD;simp [hk]
 have hT:tyK p.kind=190:=by rw [hk];rfl
 unfold Pk.size at hs
 obtain ⟨a7,a8,a9,a10,a13,a14,a15,a16,a18,a24,a25,c7,c8,c9,c10,c13,c14,c15,c16,c18,c24,c25,R,rfl,hr,H,m7,m8,m9,m10,m13,m14,m15,m16,m18,m24,m25⟩:=H.pkF hp
 unfold pkC
 rw [hk]
 apply of65
 refine sNew H ?_;clear H;intro b1 w _ H
 refine ⟨_,(H.b0.at0 rfl),?_⟩
 refine fT ?_
 refine ⟨none,?_⟩;replace H:=H.drew;generalize w.drew=wd1 at H ⊢;have K:=grew_refl wd1 (none)
 refine ⟨nn,H.b0.row,_,(H.b0.at0 rfl),?_⟩
 refine ⟨nn,H.b0.row,_,(H.b0.at0 rfl),?_⟩
 refine ⟨nn,H.b0.row,_,(H.b0.at0 rfl),?_⟩
 refine ⟨nn,H.b0.row,_,(H.b0.at0 rfl),?_⟩
 refine ⟨nn,H.b0.row,_,(H.b0.at0 rfl),?_⟩
 refine ⟨nn,H.b0.row,_,_,_,(H.b0.at0 rfl),?_⟩
 refine ⟨nn,H.b0.row,_,_,_,(H.b0.at0 rfl),?_⟩
 obtain ⟨ex2,S,back⟩:=H.still
 refine call_j (c96 S (m7) (by omega)) ?_
 clear H;rintro _ w ⟨o7,q7,rfl,S⟩
 obtain ⟨g,H⟩:=back w _ S
 clear S back
 replace K:=gtr K g;clear g
 refine ⟨_,_,_,rfl,K,?_⟩
 refine call_j (c37 (xs:=p.ext) H (mt (m8)) (by omega)) ?_
 clear H;rintro _ w ⟨o8,q8,rfl,g,H⟩
 replace K:=gtr K g;clear g
 refine ⟨_,_,_,rfl,K,?_⟩
 refine sNew H ?_;clear H;intro b2 w g H;replace K:=gtr K (grew_none _ g);clear g
 refine ⟨K,?_⟩
 exact BuPost.mk H sl1 (fun r h=>mt (mt (hr r h))) hT hD (fun G h=>(dc (.one _) (dc (.one _) (dc (.one _) (dc (.one _) (dc (.one _) (dc (h (.deep [_] [_]) (mt (ms))).head (dc (h (.deep [_] [_]) (ms)).head dn))))))))
theorem bu2 (H:Sat F w ex ro) (hk:p.kind=2) (hp:Ro.deep p.dat cells∈ro) (hs:p.size<=600000):Calls pg 65 #[.agg cells.toArray] w (BuPost F ex ro p):=by
 have hD:rtcpD p=[.one (.int .u32 p.sender),.row 7 (p.reports.flatMap Rep.dat),.row 1 (ob p.ext)]:=by unfold rtcpD;simp [hk]
 have hT:tyK p.kind=195:=by rw [hk];rfl
 unfold Pk.size at hs
 obtain ⟨a7,a8,a9,a10,a13,a14,a15,a16,a18,a24,a25,c7,c8,c9,c10,c13,c14,c15,c16,c18,c24,c25,R,rfl,hr,H,m7,m8,m9,m10,m13,m14,m15,m16,m18,m24,m25⟩:=H.pkF hp
 unfold pkC
 rw [hk]
 apply of65
 refine sNew H ?_;clear H;intro b1 w _ H
 refine ⟨_,(H.b0.at0 rfl),?_⟩
 refine fF ?_
 refine fT ?_
 refine ⟨none,?_⟩;replace H:=H.drew;generalize w.drew=wd1 at H ⊢;have K:=grew_refl wd1 (none)
 refine ⟨nn,H.b0.row,_,(H.b0.at0 rfl),?_⟩
 refine ⟨nn,H.b0.row,_,_,_,(H.b0.at0 rfl),?_⟩
 refine ⟨nn,H.b0.row,_,_,_,(H.b0.at0 rfl),?_⟩
 obtain ⟨ex2,S,back⟩:=H.still
 refine call_j (c96 S (m7) (by omega)) ?_
 clear H;rintro _ w ⟨o7,q7,rfl,S⟩
 obtain ⟨g,H⟩:=back w _ S
 clear S back
 replace K:=gtr K g;clear g
 refine ⟨_,_,_,rfl,K,?_⟩
 refine call_j (c37 (xs:=p.ext) H (mt (m8)) (by omega)) ?_
 clear H;rintro _ w ⟨o8,q8,rfl,g,H⟩
 replace K:=gtr K g;clear g
 refine ⟨_,_,_,rfl,K,?_⟩
 refine sNew H ?_;clear H;intro b2 w g H;replace K:=gtr K (grew_none _ g);clear g
 refine ⟨K,?_⟩
 exact BuPost.mk H sl1 (fun r h=>mt (mt (hr r h))) hT hD (fun G h=>(dc (.one _) (dc (h (.deep [_] [_]) (mt (ms))).head (dc (h (.deep [_] [_]) (ms)).head dn))))
theorem bu3 (H:Sat F w ex ro) (hk:p.kind=3) (hp:Ro.deep p.dat cells∈ro) (hs:p.size<=600000):Calls pg 65 #[.agg cells.toArray] w (BuPost F ex ro p):=by
 have hD:rtcpD p=[.row 2 (p.chunks.flatMap Chk.dat)]:=by unfold rtcpD;simp [hk]
 have hT:tyK p.kind=198:=by rw [hk];rfl
 unfold Pk.size at hs
 have hcl:=csz_len p.chunks
 have hcm:=csz_mem p.chunks
 obtain ⟨a7,a8,a9,a10,a13,a14,a15,a16,a18,a24,a25,c7,c8,c9,c10,c13,c14,c15,c16,c18,c24,c25,R,rfl,hr,H,m7,m8,m9,m10,m13,m14,m15,m16,m18,m24,m25⟩:=H.pkF hp
 unfold pkC
 rw [hk]
 apply of65
 refine sNew H ?_;clear H;intro b1 w _ H
 refine ⟨_,(H.b0.at0 rfl),?_⟩
 refine fF ?_
 refine fF ?_
 refine fT ?_
 refine ⟨_,_,_,(H.b0.at0 rfl),?_⟩
 refine call_j (c97 H m9 (by omega) (fun B hB=>by have:=hcm B hB;omega)) ?_
 clear H;rintro _ w ⟨b2,rfl,H⟩
 refine ⟨_,rfl,?_⟩
 exact BuPost.at H sl1 (fun r h=>mt (hr r h)) ms hT hD
theorem bu4 (H:Sat F w ex ro) (hk:p.kind=4) (hp:Ro.deep p.dat cells∈ro) (hs:p.size<=600000):Calls pg 65 #[.agg cells.toArray] w (BuPost F ex ro p):=by
 have hD:rtcpD p=[.row 1 (oi .u32 p.sources),.one (.string p.text)]:=by unfold rtcpD;simp [hk]
 have hT:tyK p.kind=200:=by rw [hk];rfl
 unfold Pk.size at hs
 obtain ⟨a7,a8,a9,a10,a13,a14,a15,a16,a18,a24,a25,c7,c8,c9,c10,c13,c14,c15,c16,c18,c24,c25,R,rfl,hr,H,m7,m8,m9,m10,m13,m14,m15,m16,m18,m24,m25⟩:=H.pkF hp
 unfold pkC
 rw [hk]
 apply of65
 refine sNew H ?_;clear H;intro b1 w _ H
 refine ⟨_,(H.b0.at0 rfl),?_⟩
 refine fF ?_
 refine fF ?_
 refine fF ?_
 refine fT ?_
 refine ⟨none,?_⟩;replace H:=H.drew;generalize w.drew=wd1 at H ⊢;have K:=grew_refl wd1 (none)
 refine ⟨nn,H.b0.row,_,_,_,(H.b0.at0 rfl),?_⟩
 refine ⟨nn,H.b0.row,_,(H.b0.at0 rfl),?_⟩
 refine call_j (c98 H (m10) (by omega)) ?_
 clear H;rintro _ w ⟨o10,q10,rfl,g,H⟩
 replace K:=gtr K g;clear g
 refine ⟨_,_,_,rfl,K,?_⟩
 refine sNew H ?_;clear H;intro b2 w g H;replace K:=gtr K (grew_none _ g);clear g
 refine ⟨K,?_⟩
 exact BuPost.mk H sl1 (fun r h=>mt (hr r h)) hT hD (fun G h=>(dc (h (.deep [_] [_]) (ms)).head (dc (.one _) dn)))
theorem bu5 (H:Sat F w ex ro) (hk:p.kind=5) (hp:Ro.deep p.dat cells∈ro) (hs:p.size<=600000):Calls pg 65 #[.agg cells.toArray] w (BuPost F ex ro p):=by
 have hD:rtcpD p=[.one (.int .u8 p.sub),.one (.int .u32 p.sender),.one (.string p.text),.row 1 (ob p.data)]:=by unfold rtcpD;simp [hk]
 have hT:tyK p.kind=204:=by rw [hk];rfl
 unfold Pk.size at hs
 obtain ⟨a7,a8,a9,a10,a13,a14,a15,a16,a18,a24,a25,c7,c8,c9,c10,c13,c14,c15,c16,c18,c24,c25,R,rfl,hr,H,m7,m8,m9,m10,m13,m14,m15,m16,m18,m24,m25⟩:=H.pkF hp
 unfold pkC
 rw [hk]
 apply of65
 refine sNew H ?_;clear H;intro b1 w _ H
 refine ⟨_,(H.b0.at0 rfl),?_⟩
 refine fF ?_
 refine fF ?_
 refine fF ?_
 refine fF ?_
 refine fT ?_
 refine ⟨none,?_⟩;replace H:=H.drew;generalize w.drew=wd1 at H ⊢;have K:=grew_refl wd1 (none)
 refine ⟨nn,H.b0.row,_,(H.b0.at0 rfl),?_⟩
 refine ⟨nn,H.b0.row,_,(H.b0.at0 rfl),?_⟩
 refine ⟨nn,H.b0.row,_,(H.b0.at0 rfl),?_⟩
 refine ⟨nn,H.b0.row,_,_,_,(H.b0.at0 rfl),?_⟩
 refine call_j (c37 (xs:=p.data) H (m13) (by omega)) ?_
 clear H;rintro _ w ⟨o13,q13,rfl,g,H⟩
 replace K:=gtr K g;clear g
 refine ⟨_,_,_,rfl,K,?_⟩
 refine sNew H ?_;clear H;intro b2 w g H;replace K:=gtr K (grew_none _ g);clear g
 refine ⟨K,?_⟩
 exact BuPost.mk H sl1 (fun r h=>mt (hr r h)) hT hD (fun G h=>(dc (.one _) (dc (.one _) (dc (.one _) (dc (h (.deep [_] [_]) (ms)).head dn)))))
theorem bu6 (H:Sat F w ex ro) (hk:p.kind=6) (hp:Ro.deep p.dat cells∈ro) (hs:p.size<=600000):Calls pg 65 #[.agg cells.toArray] w (BuPost F ex ro p):=by
 have hD:rtcpD p=[.one (.int .u32 p.sender),.one (.int .u32 p.media),.row 2 (p.pairs.flatMap Par.dat)]:=by unfold rtcpD;simp [hk]
 have hT:tyK p.kind=207:=by rw [hk];rfl
 unfold Pk.size at hs
 obtain ⟨a7,a8,a9,a10,a13,a14,a15,a16,a18,a24,a25,c7,c8,c9,c10,c13,c14,c15,c16,c18,c24,c25,R,rfl,hr,H,m7,m8,m9,m10,m13,m14,m15,m16,m18,m24,m25⟩:=H.pkF hp
 unfold pkC
 rw [hk]
 apply of65
 refine sNew H ?_;clear H;intro b1 w _ H
 refine ⟨_,(H.b0.at0 rfl),?_⟩
 refine fF ?_
 refine fF ?_
 refine fF ?_
 refine fF ?_
 refine fF ?_
 refine fT ?_
 refine ⟨_,(H.b0.at0 rfl),?_⟩
 refine ⟨_,(H.b0.at0 rfl),?_⟩
 refine sNew H ?_;clear H;intro b2 w _ H
 refine ⟨_,_,_,(H.b1.at0 rfl),?_⟩
 have H0:=H;clear H
 obtain ⟨CC,hCC⟩:∃CC:List Value,CC=(pkC p a7 a8 a9 a10 a13 a14 a15 a16 a18 a24 a25 c7 c8 c9 c10 c13 c14 c15 c16 c18 c24 c25).set 0 (.int .i64 6):=⟨_,rfl⟩
 have H:Sat F w (.blk b2 210 [.int .u32 p.sender,.int .u32 p.media,.slice none 0 0]::.blk b1 75 CC::ex) R:=by rw [hCC];exact H0
 clear H0
 refine ⟨fun x m w=>∃(j:Nat) (o:Option Addr) (oc:Nat) (r:Option Nat),x=(j:Int)/\j+m=p.pairs.length/\Sat F w (.blk b2 210 [.int .u32 p.sender,.int .u32 p.media,.slice o j oc]::.own 213 2 o j oc r ((p.pairs.take j).flatMap Par.dat)::.blk b1 75 CC::ex) R,⟨p.pairs.length,0,none,0,none,rfl,by omega,(H.nilOwn 213 2).u1⟩,?_⟩
 clear H;rintro dd x m w ⟨j,o,oc,r,rfl,hjm,H⟩
 refine ⟨fun hc=>?_,fun hc=>?_⟩
 ·rw [ah] at hc
  have hjl:j < p.pairs.length:=by omega
  obtain ⟨q,us,e,hus,hcell,H1⟩:=H.eltF Par.dat_lenK (by decide) m14 (j:=j) hjl
  have htk:p.pairs.take (j+1)=p.pairs.take j++[p.pairs[j]]:=by rw [am,ai hjl];rfl
  clear H
  generalize p.pairs[j]=E at H1 htk
  obtain ⟨e0,e1⟩:=E
  refine ⟨q,e,by omega,by omega,?_⟩
  obtain rfl:=H1.ones (us:=[.int .u16 e0,.int .u16 e1]) ms
  refine ⟨_,_,LdC [.int .u16 e0,.int .u16 e1] (by kernel_rfl) (by rw [show (j:Int).toNat*2=j*2 by omega];exact hcell),?_⟩
  have H:=H1
  clear H1 hcell
  refine sNew H ?_;clear H;intro b3 w _ H
  refine sSw0 H rfl (by kernel_rfl) (by rfl) (by rfl) ?_;clear H;intro w _ H
  refine ⟨r,?_⟩;replace H:=H.drew;generalize w.drew=wd1 at H ⊢;have K:=grew_refl wd1 (r)
  refine ⟨_,rfl,?_⟩
  refine ⟨(H.ne (mt ms) (mt (mt ms))),H.b1.row,_,_,_,(H.b1.at0 rfl),?_⟩
  refine ⟨(H.ne ms (mt (mt ms))),H.b0.row,_,(H.b0.at0 rfl),?_⟩
  refine ⟨(H.ne ms (mt (mt ms))),H.b0.row,_,(H.b0.at0 rfl),?_⟩
  refine ⟨rfl,?_⟩
  refine sNew H ?_;clear H;intro b4 w g H;replace K:=gtr K (grew_none _ g);clear g
  refine ⟨K,?_⟩
  refine sApp3 H (bytes:=4) (by kernel_rfl) [.int .u16 e0,.int .u16 e1] (Par.dat (e0,e1)) (by rfl) (fun j u hu=>by rw [add_flat,aK];exact H.b0.cell hu) (fun G h=>DeepL.ones [_,_]) (by simp [Value.oneCell']) (by unfold maxLen;omega) (by omega) ?_
  clear H;intro o3 ol3 oc3 r3 w ex3 g H
  replace K:=gtr K g;clear g;replace H:=H.d1
  refine ⟨K,?_⟩
  refine ⟨_,rfl,?_⟩
  refine sSt1 H (by exact add_flat _ _ _) (by kernel_rfl) (by rfl) (by rfl) ?_;clear H;intro w _ H
  subst ex3
  refine ⟨m - 1,by omega,j+1,o3,oc3,r3,?_,by omega,?_⟩
  ·rw [wi64_of (by omega) (by omega)];simp
  ·rw [htk,aj]
   simp only [fm1,fm2,fm3]
   exact H.sub (sc1) (fun r h=>mt h)
 ·rw [af] at hc
  obtain rfl:j=p.pairs.length:=by omega
  rw [ao] at H
  replace H:=H.r1.freeze
  exact BuPost.mk H sl1 (fun r h=>mt (hr r h)) hT hD (fun G h=>(dc (.one _) (dc (.one _) (dc (h (.deep [_] [_]) (ms)).head dn))))
theorem bu7 (H:Sat F w ex ro) (hk:p.kind=7) (hp:Ro.deep p.dat cells∈ro) (hs:p.size<=600000):Calls pg 65 #[.agg cells.toArray] w (BuPost F ex ro p):=by
 have hD:rtcpD p=[.one (.int .u32 p.sender),.one (.int .u32 p.media)]:=by unfold rtcpD;simp [hk]
 have hT:tyK p.kind=214:=by rw [hk];rfl
 unfold Pk.size at hs
 obtain ⟨a7,a8,a9,a10,a13,a14,a15,a16,a18,a24,a25,c7,c8,c9,c10,c13,c14,c15,c16,c18,c24,c25,R,rfl,hr,H,m7,m8,m9,m10,m13,m14,m15,m16,m18,m24,m25⟩:=H.pkF hp
 unfold pkC
 rw [hk]
 apply of65
 refine sNew H ?_;clear H;intro b1 w _ H
 refine ⟨_,(H.b0.at0 rfl),?_⟩
 refine fF ?_
 refine fF ?_
 refine fF ?_
 refine fF ?_
 refine fF ?_
 refine fF ?_
 refine fT ?_
 refine ⟨_,(H.b0.at0 rfl),?_⟩
 refine ⟨_,(H.b0.at0 rfl),?_⟩
 refine sNew H ?_;clear H;intro b2 w _ H
 exact BuPost.mk H sl1 (fun r h=>hr r h) hT hD (fun G h=>(dc (.one _) (dc (.one _) dn)))
theorem bu8 (H:Sat F w ex ro) (hk:p.kind=8) (hp:Ro.deep p.dat cells∈ro) (hs:p.size<=600000):Calls pg 65 #[.agg cells.toArray] w (BuPost F ex ro p):=by
 have hD:rtcpD p=[.one (.int .u32 p.sender),.row 3 (p.blocks.flatMap Blo.dat),.one (.int .u32 p.time)]:=by unfold rtcpD;simp [hk]
 have hT:tyK p.kind=217:=by rw [hk];rfl
 unfold Pk.size at hs
 have hcl:=bsz_len p.blocks
 have hcm:=bsz_mem p.blocks
 obtain ⟨a7,a8,a9,a10,a13,a14,a15,a16,a18,a24,a25,c7,c8,c9,c10,c13,c14,c15,c16,c18,c24,c25,R,rfl,hr,H,m7,m8,m9,m10,m13,m14,m15,m16,m18,m24,m25⟩:=H.pkF hp
 unfold pkC
 rw [hk]
 apply of65
 refine sNew H ?_;clear H;intro b1 w _ H
 refine ⟨_,(H.b0.at0 rfl),?_⟩
 refine fF ?_
 refine fF ?_
 refine fF ?_
 refine fF ?_
 refine fF ?_
 refine fF ?_
 refine fF ?_
 refine fT ?_
 refine ⟨none,?_⟩;replace H:=H.drew;generalize w.drew=wd1 at H ⊢;have K:=grew_refl wd1 (none)
 refine ⟨nn,H.b0.row,_,(H.b0.at0 rfl),?_⟩
 refine ⟨nn,H.b0.row,_,_,_,(H.b0.at0 rfl),?_⟩
 refine ⟨nn,H.b0.row,_,(H.b0.at0 rfl),?_⟩
 obtain ⟨ex2,S,back⟩:=H.still
 refine call_j (c99 S (m18) (by omega) (fun B hB=>by have:=hcm B hB;omega)) ?_
 clear H;rintro _ w ⟨o18,q18,rfl,S⟩
 obtain ⟨g,H⟩:=back w _ S
 clear S back
 replace K:=gtr K g;clear g
 refine ⟨_,_,_,rfl,K,?_⟩
 refine sNew H ?_;clear H;intro b2 w g H;replace K:=gtr K (grew_none _ g);clear g
 refine ⟨K,?_⟩
 exact BuPost.mk H sl1 (fun r h=>mt (hr r h)) hT hD (fun G h=>(dc (.one _) (dc (h (.deep [_] [_]) (ms)).head (dc (.one _) dn))))
theorem bu9 (H:Sat F w ex ro) (hk:p.kind=9) (hp:Ro.deep p.dat cells∈ro) (hs:p.size<=600000):Calls pg 65 #[.agg cells.toArray] w (BuPost F ex ro p):=by
 have hD:rtcpD p=[.one (.int .u32 p.sender),.one (.int .u32 p.media)]:=by unfold rtcpD;simp [hk]
 have hT:tyK p.kind=222:=by rw [hk];rfl
 unfold Pk.size at hs
 obtain ⟨a7,a8,a9,a10,a13,a14,a15,a16,a18,a24,a25,c7,c8,c9,c10,c13,c14,c15,c16,c18,c24,c25,R,rfl,hr,H,m7,m8,m9,m10,m13,m14,m15,m16,m18,m24,m25⟩:=H.pkF hp
 unfold pkC
 rw [hk]
 apply of65
 refine sNew H ?_;clear H;intro b1 w _ H
 refine ⟨_,(H.b0.at0 rfl),?_⟩
 refine fF ?_
 refine fF ?_
 refine fF ?_
 refine fF ?_
 refine fF ?_
 refine fF ?_
 refine fF ?_
 refine fF ?_
 refine fT ?_
 refine ⟨_,(H.b0.at0 rfl),?_⟩
 refine ⟨_,(H.b0.at0 rfl),?_⟩
 refine sNew H ?_;clear H;intro b2 w _ H
 exact BuPost.mk H sl1 (fun r h=>hr r h) hT hD (fun G h=>(dc (.one _) (dc (.one _) dn)))
theorem bu10 (H:Sat F w ex ro) (hk:p.kind=10) (hp:Ro.deep p.dat cells∈ro) (hs:p.size<=600000):Calls pg 65 #[.agg cells.toArray] w (BuPost F ex ro p):=by
 have hD:rtcpD p=[.one (.int .u32 p.sender),.one (.int .u32 p.media),.row 3 (p.slices.flatMap Sli.dat)]:=by unfold rtcpD;simp [hk]
 have hT:tyK p.kind=224:=by rw [hk];rfl
 unfold Pk.size at hs
 obtain ⟨a7,a8,a9,a10,a13,a14,a15,a16,a18,a24,a25,c7,c8,c9,c10,c13,c14,c15,c16,c18,c24,c25,R,rfl,hr,H,m7,m8,m9,m10,m13,m14,m15,m16,m18,m24,m25⟩:=H.pkF hp
 unfold pkC
 rw [hk]
 apply of65
 refine sNew H ?_;clear H;intro b1 w _ H
 refine ⟨_,(H.b0.at0 rfl),?_⟩
 refine fF ?_
 refine fF ?_
 refine fF ?_
 refine fF ?_
 refine fF ?_
 refine fF ?_
 refine fF ?_
 refine fF ?_
 refine fF ?_
 refine fT ?_
 refine ⟨_,(H.b0.at0 rfl),?_⟩
 refine ⟨_,(H.b0.at0 rfl),?_⟩
 refine sNew H ?_;clear H;intro b2 w _ H
 refine ⟨_,_,_,(H.b1.at0 rfl),?_⟩
 have H0:=H;clear H
 obtain ⟨CC,hCC⟩:∃CC:List Value,CC=(pkC p a7 a8 a9 a10 a13 a14 a15 a16 a18 a24 a25 c7 c8 c9 c10 c13 c14 c15 c16 c18 c24 c25).set 0 (.int .i64 10):=⟨_,rfl⟩
 have H:Sat F w (.blk b2 227 [.int .u32 p.sender,.int .u32 p.media,.slice none 0 0]::.blk b1 75 CC::ex) R:=by rw [hCC];exact H0
 clear H0
 refine ⟨fun x m w=>∃(j:Nat) (o:Option Addr) (oc:Nat) (r:Option Nat),x=(j:Int)/\j+m=p.slices.length/\Sat F w (.blk b2 227 [.int .u32 p.sender,.int .u32 p.media,.slice o j oc]::.own 228 3 o j oc r ((p.slices.take j).flatMap Sli.dat)::.blk b1 75 CC::ex) R,⟨p.slices.length,0,none,0,none,rfl,by omega,(H.nilOwn 228 3).u1⟩,?_⟩
 clear H;rintro dd x m w ⟨j,o,oc,r,rfl,hjm,H⟩
 refine ⟨fun hc=>?_,fun hc=>?_⟩
 ·rw [ah] at hc
  have hjl:j < p.slices.length:=by omega
  obtain ⟨q,us,e,hus,hcell,H1⟩:=H.eltF Sli.dat_lenK (by decide) m15 (j:=j) hjl
  have htk:p.slices.take (j+1)=p.slices.take j++[p.slices[j]]:=by rw [am,ai hjl];rfl
  clear H
  generalize p.slices[j]=E at H1 htk
  obtain ⟨e0,e1,e2⟩:=E
  refine ⟨q,e,by omega,by omega,?_⟩
  obtain rfl:=H1.ones (us:=[.int .u16 e0,.int .u16 e1,.int .u8 e2]) ms
  refine ⟨_,_,_,LdC [.int .u16 e0,.int .u16 e1,.int .u8 e2] (by kernel_rfl) (by rw [show (j:Int).toNat*3=j*3 by omega];exact hcell),?_⟩
  have H:=H1
  clear H1 hcell
  refine sNew H ?_;clear H;intro b3 w _ H
  refine sSw0 H rfl (by kernel_rfl) (by rfl) (by rfl) ?_;clear H;intro w _ H
  refine ⟨r,?_⟩;replace H:=H.drew;generalize w.drew=wd1 at H ⊢;have K:=grew_refl wd1 (r)
  refine ⟨_,rfl,?_⟩
  refine ⟨(H.ne (mt ms) (mt (mt ms))),H.b1.row,_,_,_,(H.b1.at0 rfl),?_⟩
  refine ⟨(H.ne ms (mt (mt ms))),H.b0.row,_,(H.b0.at0 rfl),?_⟩
  refine ⟨(H.ne ms (mt (mt ms))),H.b0.row,_,(H.b0.at0 rfl),?_⟩
  refine ⟨(H.ne ms (mt (mt ms))),H.b0.row,_,(H.b0.at0 rfl),?_⟩
  refine ⟨rfl,?_⟩
  refine sNew H ?_;clear H;intro b4 w g H;replace K:=gtr K (grew_none _ g);clear g
  refine ⟨K,?_⟩
  refine sApp3 H (bytes:=6) (by kernel_rfl) [.int .u16 e0,.int .u16 e1,.int .u8 e2] (Sli.dat (e0,e1,e2)) (by rfl) (fun j u hu=>by rw [add_flat,aK];exact H.b0.cell hu) (fun G h=>DeepL.ones [_,_,_]) (by simp [Value.oneCell']) (by unfold maxLen;omega) (by omega) ?_
  clear H;intro o3 ol3 oc3 r3 w ex3 g H
  replace K:=gtr K g;clear g;replace H:=H.d1
  refine ⟨K,?_⟩
  refine ⟨_,rfl,?_⟩
  refine sSt1 H (by exact add_flat _ _ _) (by kernel_rfl) (by rfl) (by rfl) ?_;clear H;intro w _ H
  subst ex3
  refine ⟨m - 1,by omega,j+1,o3,oc3,r3,?_,by omega,?_⟩
  ·rw [wi64_of (by omega) (by omega)];simp
  ·rw [htk,aj]
   simp only [fm1,fm2,fm3]
   exact H.sub (sc1) (fun r h=>mt h)
 ·rw [af] at hc
  obtain rfl:j=p.slices.length:=by omega
  rw [ao] at H
  replace H:=H.r1.freeze
  exact BuPost.mk H sl1 (fun r h=>mt (hr r h)) hT hD (fun G h=>(dc (.one _) (dc (.one _) (dc (h (.deep [_] [_]) (ms)).head dn))))
theorem bu11 (H:Sat F w ex ro) (hk:p.kind=11) (hp:Ro.deep p.dat cells∈ro) (hs:p.size<=600000):Calls pg 65 #[.agg cells.toArray] w (BuPost F ex ro p):=by
 have hD:rtcpD p=[.one (.int .u32 p.sender),.one (.int .u32 p.media),.row 2 (p.entries.flatMap Ent.dat)]:=by unfold rtcpD;simp [hk]
 have hT:tyK p.kind=229:=by rw [hk];rfl
 unfold Pk.size at hs
 obtain ⟨a7,a8,a9,a10,a13,a14,a15,a16,a18,a24,a25,c7,c8,c9,c10,c13,c14,c15,c16,c18,c24,c25,R,rfl,hr,H,m7,m8,m9,m10,m13,m14,m15,m16,m18,m24,m25⟩:=H.pkF hp
 unfold pkC
 rw [hk]
 apply of65
 refine sNew H ?_;clear H;intro b1 w _ H
 refine ⟨_,(H.b0.at0 rfl),?_⟩
 refine fF ?_
 refine fF ?_
 refine fF ?_
 refine fF ?_
 refine fF ?_
 refine fF ?_
 refine fF ?_
 refine fF ?_
 refine fF ?_
 refine fF ?_
 refine fT ?_
 refine ⟨_,(H.b0.at0 rfl),?_⟩
 refine ⟨_,(H.b0.at0 rfl),?_⟩
 refine sNew H ?_;clear H;intro b2 w _ H
 refine ⟨_,_,_,(H.b1.at0 rfl),?_⟩
 have H0:=H;clear H
 obtain ⟨CC,hCC⟩:∃CC:List Value,CC=(pkC p a7 a8 a9 a10 a13 a14 a15 a16 a18 a24 a25 c7 c8 c9 c10 c13 c14 c15 c16 c18 c24 c25).set 0 (.int .i64 11):=⟨_,rfl⟩
 have H:Sat F w (.blk b2 232 [.int .u32 p.sender,.int .u32 p.media,.slice none 0 0]::.blk b1 75 CC::ex) R:=by rw [hCC];exact H0
 clear H0
 refine ⟨fun x m w=>∃(j:Nat) (o:Option Addr) (oc:Nat) (r:Option Nat),x=(j:Int)/\j+m=p.entries.length/\Sat F w (.blk b2 232 [.int .u32 p.sender,.int .u32 p.media,.slice o j oc]::.own 234 2 o j oc r ((p.entries.take j).flatMap Ent.dat)::.blk b1 75 CC::ex) R,⟨p.entries.length,0,none,0,none,rfl,by omega,(H.nilOwn 234 2).u1⟩,?_⟩
 clear H;rintro dd x m w ⟨j,o,oc,r,rfl,hjm,H⟩
 refine ⟨fun hc=>?_,fun hc=>?_⟩
 ·rw [ah] at hc
  have hjl:j < p.entries.length:=by omega
  obtain ⟨q,us,e,hus,hcell,H1⟩:=H.eltF Ent.dat_lenK (by decide) m16 (j:=j) hjl
  have htk:p.entries.take (j+1)=p.entries.take j++[p.entries[j]]:=by rw [am,ai hjl];rfl
  clear H
  generalize p.entries[j]=E at H1 htk
  obtain ⟨e0,e1⟩:=E
  refine ⟨q,e,by omega,by omega,?_⟩
  obtain rfl:=H1.ones (us:=[.int .u32 e0,.int .u8 e1]) ms
  refine ⟨_,_,LdC [.int .u32 e0,.int .u8 e1] (by kernel_rfl) (by rw [show (j:Int).toNat*2=j*2 by omega];exact hcell),?_⟩
  have H:=H1
  clear H1 hcell
  refine sNew H ?_;clear H;intro b3 w _ H
  refine sSw0 H rfl (by kernel_rfl) (by rfl) (by rfl) ?_;clear H;intro w _ H
  refine ⟨r,?_⟩;replace H:=H.drew;generalize w.drew=wd1 at H ⊢;have K:=grew_refl wd1 (r)
  refine ⟨_,rfl,?_⟩
  refine ⟨(H.ne (mt ms) (mt (mt ms))),H.b1.row,_,_,_,(H.b1.at0 rfl),?_⟩
  refine ⟨(H.ne ms (mt (mt ms))),H.b0.row,_,(H.b0.at0 rfl),?_⟩
  refine ⟨(H.ne ms (mt (mt ms))),H.b0.row,_,(H.b0.at0 rfl),?_⟩
  refine ⟨rfl,?_⟩
  refine sNew H ?_;clear H;intro b4 w g H;replace K:=gtr K (grew_none _ g);clear g
  refine ⟨K,?_⟩
  refine sApp3 H (bytes:=8) (by kernel_rfl) [.int .u32 e0,.int .u8 e1] (Ent.dat (e0,e1)) (by rfl) (fun j u hu=>by rw [add_flat,aK];exact H.b0.cell hu) (fun G h=>DeepL.ones [_,_]) (by simp [Value.oneCell']) (by unfold maxLen;omega) (by omega) ?_
  clear H;intro o3 ol3 oc3 r3 w ex3 g H
  replace K:=gtr K g;clear g;replace H:=H.d1
  refine ⟨K,?_⟩
  refine ⟨_,rfl,?_⟩
  refine sSt1 H (by exact add_flat _ _ _) (by kernel_rfl) (by rfl) (by rfl) ?_;clear H;intro w _ H
  subst ex3
  refine ⟨m - 1,by omega,j+1,o3,oc3,r3,?_,by omega,?_⟩
  ·rw [wi64_of (by omega) (by omega)];simp
  ·rw [htk,aj]
   simp only [fm1,fm2,fm3]
   exact H.sub (sc1) (fun r h=>mt h)
 ·rw [af] at hc
  obtain rfl:j=p.entries.length:=by omega
  rw [ao] at H
  replace H:=H.r1.freeze
  exact BuPost.mk H sl1 (fun r h=>mt (hr r h)) hT hD (fun G h=>(dc (.one _) (dc (.one _) (dc (h (.deep [_] [_]) (ms)).head dn))))
theorem bu12 (H:Sat F w ex ro) (hk:p.kind=12) (hp:Ro.deep p.dat cells∈ro) (hs:p.size<=600000) (hbits:0<=p.bits/\p.bits < 4294967296):Calls pg 65 #[.agg cells.toArray] w (BuPost F ex ro p):=by
 have hD:rtcpD p=[.one (.int .u32 p.sender),.one (.float .f32 p.bits.toNat),.row 1 (oi .u32 p.sources)]:=by unfold rtcpD;simp [hk]
 have hT:tyK p.kind=235:=by rw [hk];rfl
 unfold Pk.size at hs
 obtain ⟨a7,a8,a9,a10,a13,a14,a15,a16,a18,a24,a25,c7,c8,c9,c10,c13,c14,c15,c16,c18,c24,c25,R,rfl,hr,H,m7,m8,m9,m10,m13,m14,m15,m16,m18,m24,m25⟩:=H.pkF hp
 unfold pkC
 rw [hk]
 apply of65
 refine sNew H ?_;clear H;intro b1 w _ H
 refine ⟨_,(H.b0.at0 rfl),?_⟩
 refine fF ?_
 refine fF ?_
 refine fF ?_
 refine fF ?_
 refine fF ?_
 refine fF ?_
 refine fF ?_
 refine fF ?_
 refine fF ?_
 refine fF ?_
 refine fF ?_
 refine fT ?_
 refine ⟨none,?_⟩;replace H:=H.drew;generalize w.drew=wd1 at H ⊢;have K:=grew_refl wd1 (none)
 refine ⟨nn,H.b0.row,_,(H.b0.at0 rfl),?_⟩
 refine ⟨nn,H.b0.row,_,(H.b0.at0 rfl),?_⟩
 refine ⟨nn,H.b0.row,_,_,_,(H.b0.at0 rfl),?_⟩
 refine ⟨_,_,run_f32from hbits,K,?_⟩
 refine call_j (c98 H (m10) (by omega)) ?_
 clear H;rintro _ w ⟨o10,q10,rfl,g,H⟩
 replace K:=gtr K g;clear g
 refine ⟨_,_,_,rfl,K,?_⟩
 refine sNew H ?_;clear H;intro b2 w g H;replace K:=gtr K (grew_none _ g);clear g
 refine ⟨K,?_⟩
 exact BuPost.mk H sl1 (fun r h=>mt (hr r h)) hT hD (fun G h=>(dc (.one _) (dc (.one _) (dc (h (.deep [_] [_]) (ms)).head dn))))
theorem Gd.mono (h:Gd p n) (hnm:n<=m):Gd p m:=
 ⟨h.lo,h.hi,h.trim,Nat.le_trans h.sz (Nat.mul_le_mul_left _ hnm),h.bits⟩
theorem Sat.still3 {E0:List Ex} (H:Sat F w (E0++ex) ro) (r:Option Nat) (hr:∀b∈foots E0,some b=r) :
  ∃ex2,Sat ⟨w,fun b=>b∈foots (E0++ex)⟩ w (E0++ex2) ro /\
   (∀E w' ro',Sat ⟨w,fun b=>b∈foots (E0++ex)⟩ w' (E++ex2) ro'->w.grownBy w' r/\Sat F w' (E++ex) ro')/\∀b t cells,Ex.blk b t cells∈ex->Ex.blk b t cells∈ex2:=by
 have hf:=foots_still w (foots ex)
 have hf0:foots (E0++stillEx w (foots ex))=foots (E0++ex):=by rw [foots_append,foots_append,hf]
 have hB:∀b∈foots ex,Blk w b (cellsAt w b).1 (cellsAt w b).2:=by
  intro b hb
  obtain ⟨e,he,hbe⟩:=List.mem_flatMap.1 (show b∈ex.flatMap Ex.foot from hb)
  obtain ⟨t,us,h⟩:=Ex.cellsOf (H.he e (bh _ he)) hbe
  rw [cellsAt_of h]
  exact h
 refine ⟨stillEx w (foots ex),Sat.start (by rw [hf0];exact H.nd) (by rw [hf0];exact fun b hb=>⟨(H.lt b hb).1,hb⟩) ?_ (by rw [hf0];exact H.hr),fun E w' ro' H'=>?_,fun b t cells hb=>?_⟩
 ·intro e he
  rw [hf0]
  rcases aV.1 he with he | he
  ·exact H.he e (bx _ he)
  ·obtain ⟨b,hb,rfl⟩:=bC.1 he
   exact hB b hb
 ·have hfE:foots (E++stillEx w (foots ex))=foots (E++ex):=by rw [foots_append,foots_append,hf]
  have hnd:=H'.nd
  rw [hfE] at hnd
  have hnd2:=hnd
  rw [foots_append,bT] at hnd2
  have hE:∀b∈foots E,w.heap.size<=b\/b∈foots E0:=by
   intro b hb
   have h1:=H'.lt b (by rw [hfE,foots_append];exact bx _ hb)
   rcases h1.2 with h2 | h2
   ·exact .inl h2
   ·rw [foots_append] at h2
    rcases aV.1 h2 with h2 | h2
    ·exact .inr h2
    ·exact absurd rfl (hnd2.2.2 b hb b h2)
  have hsame:∀k,k < w.heap.size->k ∉ foots E0->w'.heap[k]?=w.heap[k]?:=by
   intro k hk hk0
   by_cases hm:k∈foots ex
   ·have h1:Blk w' k (cellsAt w k).1 (cellsAt w k).2:=H'.he _ (bh _ (bC.2 ⟨k,hm,rfl⟩))
    exact h1.eq.trans (hB k hm).eq.symm
   ·exact H'.gr.block k hk (by rw [foots_append];exact fun h=>(aV.1 h).elim hk0 hm)
  have hg:Gr w w' (fun b=>b∈foots E0):=⟨H'.gr.os,H'.gr.tape,H'.gr.output,H'.gr.size,hsame⟩
  refine ⟨⟨H'.gr.os,H'.gr.tape,H'.gr.output,H'.gr.size,fun k hk hne=>hsame k hk (fun h=>hne (hr k h))⟩,⟨H.gr.trans hg (fun i hi=>(H.lt i (by rw [foots_append];exact bx _ hi)).2),hnd,fun b hb=>?_,fun e he=>?_,fun q hq=>?_⟩⟩
  ·rw [foots_append] at hb
   rcases aV.1 hb with hb | hb
   ·refine ⟨(H'.lt b (by rw [hfE,foots_append];exact bx _ hb)).1,?_⟩
    rcases hE b hb with h | h
    ·exact .inl (Nat.le_trans H.gr.size h)
    ·exact (H.lt b (by rw [foots_append];exact bx _ h)).2
   ·have:=H.lt b (by rw [foots_append];exact bh _ hb)
    exact ⟨ci this.1 H'.gr.size,this.2⟩
  ·rcases aV.1 he with he | he
   ·have:=H'.he e (bx _ he)
    rw [hfE] at this
    exact this
   ·refine (H.he e (bh _ he)).keep hg (fun b hlt hb=>?_) (fun b hb h0=>?_)
    ·rw [foots_append] at hb
     refine ⟨fun h=>hb (bx _ h),?_⟩
     rw [foots_append]
     intro h
     rcases aV.1 h with h | h
     ·rcases hE b h with h2 | h2
      ·omega
      ·exact hb (bx _ h2)
     ·exact hb (bh _ h)
    ·have hnd3:=H.nd
     rw [foots_append,bT] at hnd3
     exact hnd3.2.2 b h0 b (mem_foots hb he) rfl
  ·have:=H'.hr q hq
   rw [hfE] at this
   exact this
 ·refine bC.2 ⟨b,mem_foots (show b∈Ex.foot (.blk b t cells) by simp [Ex.foot]) hb,?_⟩
  rw [cellsAt_of (H.he _ (bh _ hb))]
def b16 (v:Int):List Int:=[v / 256,v % 256]
def b32 (v:Int):List Int:=[v / 16777216,v / 65536 % 256,v / 256 % 256,v % 256]
theorem b32_16 {v:Int} (hv:0<=v/\v < 4294967296):b32 v=b16 (v / 65536)++b16 (v % 65536):=by
 unfold b32 b16
 rw [show v / 65536 / 256=v / 16777216 by omega,show v % 65536 / 256=v / 256 % 256 by omega,show v % 65536 % 256=v % 256 by omega]
 rfl
theorem b16_len (v:Int):(b16 v).length=2:=rfl
theorem b32_len (v:Int):(b32 v).length=4:=rfl
theorem c49 {B:List Int} (H:Sat F w (.own 5 1 a n c r (ob B)::ex) ro) {v:Int} (hv:0<=v/\v < 65536) (hn:n<=99000000) :
  Calls pg 49 #[.slice a n c,.int .u16 v] w fun en w'=>∃a' c' r',en=.returned (.slice a' (n+2) c')/\Sat F w' (.own 5 1 a' (n+2) c' r' (ob (B++b16 v))::ex) ro:=by
 apply of49
 unfold SW49
 rw [ishr_of (b:=(8:Int)) 8 (by rfl) (by decide),wu8,wu8,show v / 2 ^ 8 % 256=v / 256 by omega]
 refine sPush0 H (bytes:=1) (nds:=(ob (b16 v))) (hD:=(fun G h=>DeepL.ones [_,_])) (hK:=?_)
 clear H;intro a' n' c' r' w' hn' _ H
 subst hn'
 rw [<-ob_append] at H
 exact ⟨a',c',r',rfl,H⟩
theorem c112 {B:List Int} (H:Sat F w (.own 5 1 a n c r (ob B)::ex) ro) {v:Int} (hv:0<=v/\v < 4294967296) (hn:n<=98000000) :
  Calls pg 112 #[.slice a n c,.int .u32 v] w fun en w'=>∃a' c' r',en=.returned (.slice a' (n+4) c')/\Sat F w' (.own 5 1 a' (n+4) c' r' (ob (B++b32 v))::ex) ro:=by
 apply of112
 unfold SW112
 rw [ishr_of (b:=(16:Int)) 16 (by rfl) (by decide),wu16,wu16,show v / 2 ^ 16 % 65536=v / 65536 by omega]
 refine call_j (c49 H (by omega) (by omega)) ?_
 clear H;rintro _ w ⟨a1,c1,r1,rfl,H⟩
 refine ⟨_,_,_,rfl,?_⟩
 refine call_j (c49 H (by omega) (by omega)) ?_
 clear H;rintro _ w ⟨a2,c2,r2,rfl,H⟩
 refine ⟨_,_,_,rfl,?_⟩
 refine ⟨a2,c2,r2,rfl,?_⟩
 rw [an,<-b32_16 hv] at H
 exact H
def pad4 (n:Nat):Nat:=(4 - n % 4) % 4
theorem c114 {B:List Int} (H:Sat F w (.own 5 1 a n c r (ob B)::ex) ro) (hn:n<=98000000) :
  Calls pg 114 #[.slice a n c] w fun en w'=>∃a' c' r',en=.returned (.slice a' (n+pad4 n) c')/\Sat F w' (.own 5 1 a' (n+pad4 n) c' r' (ob (B++List.replicate (pad4 n) 0))::ex) ro:=by
 apply of114
 refine ⟨fun a' n' c' m w=>∃(k:Nat) (r':Option Nat),n'=n+k/\k<=pad4 n/\m=pad4 n - k/\Sat F w (.own 5 1 a' n' c' r' (ob (B++List.replicate k 0))::ex) ro,⟨_,0,r,rfl,bE _,rfl,by simpa using H⟩,?_⟩
 clear H;rintro dd2 a' n' c' m w ⟨k,r',rfl,hk,rfl,H⟩
 refine ⟨by decide,?_⟩
 have ht:(((n+k:Nat):Int)).tmod 4=(((n+k) % 4:Nat):Int):=by rw [bz (by omega)];omega
 rw [ht]
 refine ⟨fun hc=>?_,fun hc=>?_⟩
 ·have hc:¬(((n+k) % 4:Nat):Int)=0:=by simpa using hc
  have hlt:k < pad4 n:=by unfold pad4 at hk ⊢;omega
  have hp4:pad4 n<=3:=by unfold pad4;omega
  refine ⟨rfl,?_⟩
  refine sPush0 H (bytes:=1) (nds:=(ob [0])) (hD:=(fun G h=>DeepL.ones [_])) (hK:=?_)
  clear H;intro a2 n2 c2 r2 w hn2 _ H
  subst hn2
  rw [<-ob_append,an] at H
  refine ⟨pad4 n - (k+1),by omega,k+1,r2,by omega,by omega,rfl,?_⟩
  rw [List.replicate_succ']
  exact H
 ·have hc:(((n+k) % 4:Nat):Int)=0:=by simpa using hc
  have hkp:k=pad4 n:=by unfold pad4 at hk ⊢;omega
  subst hkp
  exact ⟨a',c',r',rfl,H⟩
def hdrB (c t n:Int):List Int:=[128+c,t]++b16 n
theorem c21 (H:Sat F w ex ro) {c t n:Int} (hc:0<=c/\c<=31) (hn:0<=n/\n < 65536) :
  Calls pg 21 #[.agg #[.bool false,.int .u8 c,.int .u8 t,.int .u16 n]] w fun en w'=>∃a' c' r',en=.returned (.tuple #[.slice a' 4 c',.bool true])/\Sat F w' (.own 5 1 a' 4 c' r' (ob (hdrB c t n))::ex) ro:=by
 apply of21
 refine sNew H ?_;clear H;intro b1 w _ H
 refine ⟨_,(H.b0.at0 rfl),?_⟩
 refine ⟨fun h=>by rw [ah] at h;omega,fun _=>?_⟩
 refine ⟨_,(H.b0.at0 rfl),?_⟩
 refine ⟨_,(H.b0.at0 rfl),?_⟩
 refine ⟨fun h=>(by cases h),fun _=>?_⟩
 refine ⟨_,(H.b0.at0 rfl),?_⟩
 rw [ior_add (k:=.u8) (by rfl) 7 (a:=128) (b:=c) 1 (by decide) (by decide) hc.1 (by omega) (by simp only [IntKind.bits];omega)]
 refine sNew H ?_;clear H;intro b2 w _ H
 refine ⟨_,(H.b1.at0 rfl),?_⟩
 have H1:=H.toOwn 1 2 (ob [128+c,t]) (by rfl) (by decide) (fun G h=>DeepL.ones [_,_])
 clear H
 refine call_j (c49 H1 hn (by omega)) ?_
 clear H1;rintro _ w ⟨a1,c1,r1,rfl,H⟩
 refine ⟨_,_,_,rfl,?_⟩
 exact ⟨a1,c1,r1,rfl,H.sub (List.Sublist.cons_cons _ (sc1)) (fun _ h=>h)⟩
theorem c52 (H:Sat F w ex ro) {c t n:Int} (hc:0<=c/\c < 32) (ht:0<=t/\t < 256) (hn:0<=n/\n < 65536) :
  Calls pg 52 #[.agg #[.bool false,.int .u8 c,.int .u8 t,.int .u16 n]] w fun en w'=>∃g,en=.returned (.tuple #[.slice (some ⟨g,0,none⟩) 4 4,.nilIface]) /\
   Sat F w' (.blk g 5 (u8s [128+c,t,n / 256,n % 256])::ex) ro:=by
 apply of52
 refine sNew H ?_;clear H;intro b1 w _ H
 refine sMk H (e:=5) (z:=.int .u8 0) (bytes:=1) (by kernel_rfl) (by kernel_rfl) (by rfl) (by unfold maxLen;omega) (by omega) (n:=4) (by omega) (by omega) ?_
 clear H;intro g w _ H
 replace H:Sat F w (.blk g 5 (u8s [0,0,0,0])::.blk b1 109 [.bool false,.int .u8 c,.int .u8 t,.int .u16 n]::ex) ro:=H
 refine ⟨_,rfl,by omega,by omega,?_⟩
 refine ⟨_,H.bcell (i:=0) (by rw [add_flat];rfl) (by decide),?_⟩
 refine ⟨_,rfl,by omega,by omega,?_⟩
 refine sStB H (i:=0) (by rw [add_flat];rfl) (by decide) ?_
 clear H;intro w _ H
 replace H:Sat F w (.blk g 5 (u8s [128,0,0,0])::.blk b1 109 [.bool false,.int .u8 c,.int .u8 t,.int .u16 n]::ex) ro:=H
 refine ⟨fun _ w=>Sat F w (.blk g 5 (u8s [128,0,0,0])::.blk b1 109 [.bool false,.int .u8 c,.int .u8 t,.int .u16 n]::ex) ro,?_,?_⟩
 ·refine ⟨_,(H.b1.at0 rfl),?_⟩
  exact ⟨fun h=>absurd h (by decide),fun _=>H⟩
 clear H;rintro dd10 w H
 refine ⟨_,(H.b1.at0 rfl),?_⟩
 refine ⟨fun h=>?_,fun _=>?_⟩
 ·rw [ah] at h;omega
 refine ⟨_,rfl,by omega,by omega,?_⟩
 replace H:=H.drew;generalize w.drew=w at H ⊢
 refine ⟨_,H.bcell (i:=0) (by rw [add_flat];rfl) (by decide),?_⟩
 refine ⟨_,(H.b1.at0 rfl),?_⟩
 refine ⟨_,rfl,by omega,by omega,?_⟩
 have e1:ior .u8 (([128,0,0,0]:List Int).getD 0 0) (ishl .u8 c (0:Int))=128+c:=by
  rw [ishl_of (b:=(0:Int)) 0 (by rfl) (by decide),wu8,show c*2 ^ 0 % 256=c by omega]
  exact ior_add (k:=.u8) (by rfl) 5 4 (by rfl) (by decide) hc.1 (by omega) (by simp only [IntKind.bits];show (128:Int)+c < _;omega)
 rw [e1]
 refine sStB H (i:=0) (by rw [add_flat];rfl) (by decide) ?_
 clear H;intro w _ H
 refine ⟨_,(H.b1.at0 rfl),?_⟩
 refine ⟨_,rfl,by omega,by omega,?_⟩
 refine sStB H (i:=1) (by rw [add_flat];rfl) (by simp) ?_
 clear H;intro w _ H
 refine ⟨by omega,by omega,?_⟩
 replace H:=H.drew;generalize w.drew=w at H ⊢
 refine ⟨_,(H.b1.at0 rfl),?_⟩
 refine call_j (c89 (o:=2) (n:=2) (c:=2) H hn (by omega) (by simp)) ?_
 clear H
 rintro _ w ⟨rfl,H⟩
 refine ⟨rfl,g,rfl,?_⟩
 refine H.sub ?_ (fun _ h=>h)
 exact List.Sublist.cons_cons _ (sc1)
/-! ### Chunks -/
def wz (A:List Int) (z:Nat):List Int:=A++List.replicate z 0
theorem wz_len (A:List Int) (z:Nat):(wz A z).length=A.length+z:=by simp [wz]
theorem wz_set1 (A:List Int) {z:Nat} (x:Int) (h:1<=z):(wz A z).set A.length x=wz (A++[x]) (z - 1):=by
 obtain ⟨k,rfl⟩:∃k,z=k+1:=⟨z - 1,by omega⟩
 unfold wz
 rw [List.set_append_right _ _ (aN _),Nat.sub_self,List.replicate_succ,List.set_cons_zero,an]
 rfl
theorem wz_set2 (A:List Int) {z:Nat} (x y:Int) (h:2<=z):((wz A z).set A.length x).set (A.length+1) y=wz (A++[x,y]) (z - 2):=by
 rw [wz_set1 A x (by omega),show A.length+1=(A++[x]).length by simp,wz_set1 _ y (by omega),an]
 rfl
theorem wz_set4 (A:List Int) {z:Nat} (x y u v:Int) (h:4<=z):((((wz A z).set A.length x).set (A.length+1) y).set (A.length+2) u).set (A.length+3) v=wz (A++[x,y,u,v]) (z - 4):=by
 rw [wz_set2 A x y (by omega),show A.length+2=(A++[x,y]).length by simp,show A.length+3=(A++[x,y]).length+1 by simp,wz_set2 _ u v (by omega),an]
 rfl
theorem put16 {z:Nat} (H:Sat F w (.blk g t (u8s (wz A z))::ex) ro) {v:Int} (ho:o=A.length) (hv:0<=v/\v < 65536) (hn:2<=n) (hz:2<=z) :
  Calls pg 89 #[.slice (some ⟨g,o,none⟩) n c,.int .u16 v] w fun en w'=>en=.returned (.tuple #[])/\Sat F w' (.blk g t (u8s (wz (A++b16 v) (z - 2)))::ex) ro:=by
 subst ho
 refine (c89 H hv hn (by rw [wz_len];omega)).mono ?_
 rintro _ w ⟨rfl,H⟩
 rw [wz_set2 A _ _ hz] at H
 exact ⟨rfl,H⟩
theorem put32 {z:Nat} (H:Sat F w (.blk g t (u8s (wz A z))::ex) ro) {v:Int} (ho:o=A.length) (hv:0<=v/\v < 4294967296) (hn:4<=n) (hz:4<=z) :
  Calls pg 144 #[.slice (some ⟨g,o,none⟩) n c,.int .u32 v] w fun en w'=>en=.returned (.tuple #[])/\Sat F w' (.blk g t (u8s (wz (A++b32 v) (z - 4)))::ex) ro:=by
 subst ho
 refine (c144 H hv hn (by rw [wz_len];omega)).mono ?_
 rintro _ w ⟨rfl,H⟩
 rw [wz_set4 A _ _ _ _ hz] at H
 exact ⟨rfl,H⟩
theorem cutW {l q:Nat} (h:l < m) (hq:o+l=q):cutA (some ⟨b,o,none⟩) l m 1=some ⟨b,q,none⟩:=by
 subst hq
 unfold cutA
 rw [ap (by omega)]
 simp only [aU,bd,add_flat]
def b64 (v:Int):List Int:=b32 (v / 4294967296)++b32 (v % 4294967296)
theorem put64 {z:Nat} (H:Sat F w (.blk g t (u8s (wz A z))::ex) ro) {v:Int} (ho:o=A.length) (hv:0<=v/\v < 18446744073709551616) (hn:8<=n) (hc:n<=c) (hz:8<=z) :
  Calls pg 145 #[.slice (some ⟨g,o,none⟩) n c,.int .u64 v] w fun en w'=>en=.returned (.tuple #[])/\Sat F w' (.blk g t (u8s (wz (A++b64 v) (z - 8)))::ex) ro:=by
 subst ho
 apply of145
 refine ⟨_,rfl,by omega,by omega,?_⟩
 refine ⟨_,H.bcell (i:=A.length+7) (by rw [add_flat];rfl) (by rw [wz_len];omega),?_⟩
 rw [ishr_of (b:=(32:Int)) 32 (by rfl) (by decide),wu32,wu32,show v / 2 ^ 32 % 4294967296=v / 4294967296 by omega]
 refine call_j (put32 H rfl (by omega) (by omega) (by omega)) ?_
 clear H;rintro _ w ⟨rfl,H⟩
 refine ⟨rfl,?_⟩
 refine ⟨by omega,by omega,?_⟩
 rw [cutW (q:=A.length+4) (by omega) rfl]
 refine call_j (put32 H (by rw [ae,b32_len]) (by omega) (by omega) (by omega)) ?_
 clear H;rintro _ w ⟨rfl,H⟩
 refine ⟨rfl,?_⟩
 rw [an] at H
 exact ⟨rfl,H⟩
theorem sStW {z:Nat} (H:Sat F w (.blk g t (u8s (wz A z))::ex) ro) {a:Addr} {K:World->Prop} (ha:a=⟨g,A.length,none⟩) (hz:1<=z)
  (h:∀w',Sat F w' (.blk g t (u8s (wz (A++[x]) (z - 1)))::ex) ro->K w'):∃w',StV pg 5 a (.int .u8 x) w w'/\K w':=by
 refine sStB H ha (by rw [wz_len];omega) fun w' _ H'=>h w' ?_
 rw [wz_set1 A x hz] at H'
 exact H'
theorem u8s_one:∀(D:List Int) (v:Value),v∈u8s D->v.oneCell'=true:=by
 intro D v hv
 unfold u8s at hv
 obtain ⟨x,_,rfl⟩:=bC.1 hv
 rfl
theorem sCpW {D:List Int} {z:Nat} (H:Sat F w (.blk g t (u8s (wz A z))::ex) ro) {dLen dCap sLen sCap:Nat} {s:Option Addr} (hD:Ro.B D s sLen sCap∈ro) (h0:0 < sLen)
  (ho:o=A.length) (hd:sLen<=dLen) (hz:D.length<=z) {K:Int->World->Prop} (h:∀w',w.grownBy w' (some g)->Sat F w' (.blk g t (u8s (wz (A++D) (z - D.length)))::ex) ro->K sLen w') :
  ∃n,∃w',(Builtin.copy_ #[22,22] ty #[.slice (some ⟨g,o,none⟩) dLen dCap,.slice s sLen sCap]).run pg w=.ok (.int .i64 n) w'/\K n w':=by
 subst ho
 have hl:=H.lenB hD
 obtain ⟨b,q,rfl,hcell⟩:=H.elt hD h0
 have hcl:(u8s D).length=D.length:=u8s_length D
 refine sCp H (elem:=5) (bytes:=1) (by kernel_rfl) (u8s D) (by rw [hcl,hl];exact (cd hd).symm) (fun j v hv=>?_) (by rw [hcl,u8s_length,wz_len];omega) (u8s_one D) fun w' hg H'=>?_
 ·unfold u8s at hv
  rw [aW] at hv
  rw [add_flat]
  refine hcell j v ?_
  unfold ob
  rw [aW]
  cases hj:D[j]? with
  | none=>rw [hj] at hv;cases hv
  | some x=>rw [hj] at hv;cases hv;rfl
 ·have e:(u8s (wz A z)).take A.length++u8s D++(u8s (wz A z)).drop (A.length+(u8s D).length)=u8s (wz (A++D) (z - D.length)):=by
   rw [hcl]
   unfold u8s wz
   rw [<-List.map_take,<-List.map_drop,<-bM,<-bM,ce,List.drop_append,List.drop_replicate]
   ·congr 1
    rw [List.drop_eq_nil_of_le (by omega)]
    simp
   ·rfl
  rw [e] at H'
  rw [hcl,hl]
  exact h w' hg H'
def MPost (F:Fr) (ex:List Ex) (ro:List Ro) (bs:List Int) (en:Ending) (w':World):Prop:=
 ∃a c ro',en=.returned (.tuple #[.slice a bs.length c,.nilIface])/\(∀r∈ro,r∈ro')/\Sat F w' ex ro'/\Ro.B bs a bs.length c∈ro'
theorem MPost.blk {bs:List Int} (H:Sat F w (.blk g 5 (u8s bs)::exs) ro') (hs:ex.Sublist exs) (hr:∀r∈ro,r∈ro') (hn:n=bs.length) (hm:n<=maxLen) :
  MPost F ex ro bs (.returned (.tuple #[.slice (some ⟨g,0,none⟩) n n,.nilIface])) w:=by
 subst hn
 have H1:=H.blkRow 1 bs.length (ob bs) (by rw [u8s_length,bd]) hm (fun G h=>by
  have e:u8s bs=bs.map (Value.int .u8):=rfl
  have e2:ob bs=(bs.map (Value.int .u8)).map .one:=by simp [ob]
  rw [e,e2];exact DeepL.ones _)
 exact ⟨_,_,_,rfl,fun r h=>mt (hr r h),H1.sub hs (fun _ h=>h),ms⟩
theorem MPost.own {bs:List Int} (H:Sat F w (.own 5 1 a n c r (ob bs)::exs) ro') (hs:ex.Sublist exs) (hr:∀r∈ro,r∈ro') (hn:n=bs.length) :
  MPost F ex ro bs (.returned (.tuple #[.slice a n c,.nilIface])) w:=by
 subst hn
 exact ⟨_,_,_,rfl,fun r h=>mt (hr r h),H.freeze.sub hs (fun _ h=>h),ms⟩
theorem wz_start {N:Nat} (h:4<=N):List.replicate N (0:Int)=wz [0,0,0,0] (N - 4):=by
 obtain ⟨k,rfl⟩:∃k,N=k+4:=⟨N - 4,by omega⟩
 rfl
theorem u8s_z (N:Nat):List.replicate N (Value.int .u8 0)=u8s (List.replicate N 0):=by simp [u8s]
theorem hdrM (H:Sat F w ex ro) {c t n:Int} (hc:0<=c/\c < 32) (ht:0<=t/\t < 256) (hn:0<=n/\n < 65536) :
  Calls pg 52 #[.agg #[.bool false,.int .u8 c,.int .u8 t,.int .u16 n]] w fun en w'=>∃g,en=.returned (.tuple #[.slice (some ⟨g,0,none⟩) 4 4,.nilIface])/\Sat F w' ex (Ro.B (hdrB c t n) (some ⟨g,0,none⟩) 4 4::ro):=by
 refine (c52 H hc ht hn).mono ?_
 rintro _ w ⟨g,rfl,H⟩
 exact ⟨g,rfl,H.blkRow 1 4 (ob (hdrB c t n)) (by rfl) (by decide) (fun G h=>DeepL.ones [_,_,_,_])⟩
theorem sCpH {hd B:List Int} (H:Sat F w (.blk g t (u8s (wz ([0,0,0,0]++B) 0))::ex) ro) {dLen dCap sCap:Nat} {s:Option Addr} (hD:Ro.B hd s 4 sCap∈ro) (hd4:4<=dLen)
  {K:Int->World->Prop} (h:∀w',Sat F w' (.blk g t (u8s (hd++B))::ex) ro->K 4 w') :
  ∃n,∃w',(Builtin.copy_ #[22,22] ty #[.slice (some ⟨g,0,none⟩) dLen dCap,.slice s 4 sCap]).run pg w=.ok (.int .i64 n) w'/\K n w':=by
 have hl:=H.lenB hD
 obtain ⟨b,q,rfl,hcell⟩:=H.elt hD (by decide)
 have hcl:(u8s hd).length=4:=by rw [u8s_length,hl]
 have hBl:(wz ([0,0,0,0]++B) 0).length=4+B.length:=by rw [wz_len];simp;omega
 refine sCp H (elem:=5) (bytes:=1) (by kernel_rfl) (u8s hd) (by rw [hcl];exact (cd hd4).symm) (fun j v hv=>?_) (by rw [hcl,u8s_length,hBl];omega) (u8s_one hd) fun w' _ H'=>?_
 ·unfold u8s at hv
  rw [aW] at hv
  rw [add_flat]
  refine hcell j v ?_
  unfold ob
  rw [aW]
  cases hj:hd[j]? with
  | none=>rw [hj] at hv;cases hv
  | some x=>rw [hj] at hv;cases hv;rfl
 ·have e:(u8s (wz ([0,0,0,0]++B) 0)).take 0++u8s hd++(u8s (wz ([0,0,0,0]++B) 0)).drop (0+(u8s hd).length)=u8s (hd++B):=by
   rw [hcl]
   simp [u8s,wz]
  rw [e] at H'
  have h2:=h w' H'
  rw [hcl]
  exact h2
theorem c202 {v:Option Addr}:Calls pg 202 #[.pointer v] w fun en w'=>en=.returned (.int .i64 12)/\w'=w:=by
 apply of202
 exact ⟨rfl,rfl⟩
theorem c185 {v:Option Addr}:Calls pg 185 #[.pointer v] w fun en w'=>en=.returned (.int .i64 12)/\w'=w:=by
 apply of185
 exact ⟨rfl,rfl⟩
def wrTwo (c t s m:Int):List Int:=hdrB c t 2++(b32 s++b32 m)
theorem c201 (H:Sat F w ex ro) {m:Int} (hs:0<=s/\s < 4294967296) (hm:0<=m/\m < 4294967296) :
  Calls pg 201 #[.agg #[.int .u32 s,.int .u32 m]] w (MPost F ex ro (wrTwo 1 206 s m)):=by
 apply of201
 refine sNew H ?_;clear H;intro b1 w _ H
 refine call_j c202 ?_
 rintro _ w' ⟨rfl,rfl⟩
 refine ⟨_,rfl,?_⟩
 refine sMk H (e:=5) (z:=.int .u8 0) (bytes:=1) (by kernel_rfl) (by kernel_rfl) (by rfl) (by unfold maxLen;omega) (by omega) (n:=12) (by rfl) (by rfl) ?_
 clear H;intro g w _ H
 rw [u8s_z,wz_start (by decide)] at H
 refine ⟨by omega,by omega,?_⟩
 refine ⟨_,(H.b1.at0 rfl),?_⟩
 rw [cutW (q:=4) (by decide) rfl]
 refine call_j (put32 H (by rfl) hs (by decide) (by decide)) ?_
 clear H;rintro _ w ⟨rfl,H⟩
 refine ⟨rfl,?_⟩
 refine ⟨by omega,by omega,?_⟩
 replace H:=H.drew;generalize w.drew=w at H ⊢
 refine ⟨_,(H.b1.at0 rfl),?_⟩
 rw [cutW (q:=8) (by decide) rfl]
 refine call_j (put32 H (by rfl) hm (by decide) (by decide)) ?_
 clear H;rintro _ w ⟨rfl,H⟩
 refine ⟨rfl,?_⟩
 refine sNew H ?_;clear H;intro b11 w _ H
 refine sSw0 H (h:=?_);clear H;intro w _ H
 refine ⟨_,_,_,_,H.b0.ld,?_⟩
 refine call_j (hdrM H (by decide) (by decide) (by decide)) ?_
 clear H;rintro _ w ⟨g2,rfl,H⟩
 refine ⟨_,_,_,_,rfl,?_⟩
 refine ⟨by simp [isIf],?_⟩
 refine fF ?_
 have H1:=H.r1
 clear H
 rw [an] at H1
 refine sCpH H1 ms (by decide) ?_
 clear H1;intro w H
 exact MPost.blk H ((sc1).trans (sc1)) (fun r h=>mt h) (by rfl) (by decide)
theorem c187 (H:Sat F w ex ro) {v:Option Addr}:Calls pg 187 #[.pointer v] w fun en w'=>
  en=.returned (.agg #[.bool false,.int .u8 5,.int .u8 205,.int .u16 2])/\Sat F w' ex ro:=by
 apply of187
 refine sNew H ?_;clear H;intro b1 w _ H
 refine sSw0 H (h:=?_);clear H;intro w _ H
 refine ⟨_,_,_,_,H.b0.ld,?_⟩
 exact ⟨rfl,H.d1⟩
theorem c184 (H:Sat F w ex ro) {m:Int} (hs:0<=s/\s < 4294967296) (hm:0<=m/\m < 4294967296) :
  Calls pg 184 #[.agg #[.int .u32 s,.int .u32 m]] w (MPost F ex ro (wrTwo 5 205 s m)):=by
 apply of184
 refine sNew H ?_;clear H;intro b1 w _ H
 refine call_j c185 ?_
 rintro _ w' ⟨rfl,rfl⟩
 refine ⟨_,rfl,?_⟩
 refine sMk H (e:=5) (z:=.int .u8 0) (bytes:=1) (by kernel_rfl) (by kernel_rfl) (by rfl) (by unfold maxLen;omega) (by omega) (n:=12) (by rfl) (by rfl) ?_
 clear H;intro g w _ H
 rw [u8s_z,wz_start (by decide)] at H
 refine ⟨by omega,by omega,?_⟩
 refine ⟨_,(H.b1.at0 rfl),?_⟩
 rw [cutW (q:=4) (by decide) rfl]
 refine call_j (put32 H (by rfl) hs (by decide) (by decide)) ?_
 clear H;rintro _ w ⟨rfl,H⟩
 refine ⟨rfl,?_⟩
 refine ⟨by omega,by omega,?_⟩
 replace H:=H.drew;generalize w.drew=w at H ⊢
 refine ⟨_,(H.b1.at0 rfl),?_⟩
 rw [cutW (q:=8) (by decide) rfl]
 refine call_j (put32 H (by rfl) hm (by decide) (by decide)) ?_
 clear H;rintro _ w ⟨rfl,H⟩
 refine ⟨rfl,?_⟩
 refine call_j (c187 H) ?_
 clear H;rintro _ w ⟨rfl,H⟩
 refine ⟨_,_,_,_,rfl,?_⟩
 refine call_j (hdrM H (by decide) (by decide) (by decide)) ?_
 clear H;rintro _ w ⟨g2,rfl,H⟩
 refine ⟨_,_,_,_,rfl,?_⟩
 refine ⟨by simp [isIf],?_⟩
 refine fF ?_
 rw [an] at H
 refine sCpH H ms (by decide) ?_
 clear H;intro w H
 exact MPost.blk H (sc1) (fun r h=>mt h) (by rfl) (by decide)
theorem wz_pad (A:List Int) {z:Nat} (k:Nat) (h:k<=z):wz A z=wz (A++List.replicate k 0) (z - k):=by
 unfold wz
 rw [an,List.replicate_append_replicate,show k+(z - k)=z by omega]
theorem sAppR {D:List Int} {s:Option Addr} {sn sc:Nat} (H:Sat F w (.own 5 1 a n c r (ob A)::ex) ro) (hD:Ro.B D s sn sc∈ro) (h0:0 < sn) (hs:n+sn<=100000000)
  (hK:∀a' n' c' r' w',n'=n+sn->w.grownBy w' r->Sat F w' (.own 5 1 a' n' c' r' (ob (A++D))::ex) ro->K a' n' c' w') :
  ∃a' n' c',∃w',(Builtin.append_ #[22,22] ty #[.slice a n c,.slice s sn sc]).run pg w=.ok (.slice a' n' c') w'/\K a' n' c' w':=by
 have hl:=H.lenB hD
 obtain ⟨b,q,rfl,hcell⟩:=H.elt hD h0
 refine sApp0 H (bytes:=1) (by kernel_rfl) (u8s D) (ob D) (by rw [u8s_length,hl,bd]) (fun j v hv=>?_) (fun G h=>?_) (u8s_one D) (by unfold maxLen;omega) (by omega) fun a' n' c' r' w' hn hg H'=>hK a' n' c' r' w' hn hg ?_
 ·unfold u8s at hv
  rw [aW] at hv
  rw [add_flat]
  refine hcell j v ?_
  unfold ob
  rw [aW]
  cases hj:D[j]? with
  | none=>rw [hj] at hv;cases hv
  | some x=>rw [hj] at hv;cases hv;rfl
 ·have e2:ob D=(D.map (Value.int .u8)).map .one:=by simp [ob]
  rw [e2]
  exact DeepL.ones _
 ·rw [ob_append]
  exact H'
theorem hdrOwn (H:Sat F w ex ro) {c t n:Int} (hc:0<=c/\c < 32) (ht:0<=t/\t < 256) (hn:0<=n/\n < 65536) :
  Calls pg 52 #[.agg #[.bool false,.int .u8 c,.int .u8 t,.int .u16 n]] w fun en w'=>∃g,en=.returned (.tuple #[.slice (some ⟨g,0,none⟩) 4 4,.nilIface])/\Sat F w' (.own 5 1 (some ⟨g,0,none⟩) 4 4 (some g) (ob (hdrB c t n))::ex) ro:=by
 refine (c52 H hc ht hn).mono ?_
 rintro _ w ⟨g,rfl,H⟩
 exact ⟨g,rfl,H.toOwn 1 4 (ob (hdrB c t n)) (by rfl) (by decide) (fun G h=>DeepL.ones [_,_,_,_])⟩
def wPar:Par->List Int
 | (a,b)=>b16 a++b16 b
def wSli:Sli->List Int
 | (f,n,p)=>b32 (f*524288+n*64+p)
def wEnt:Ent->List Int
 | (s,n)=>b32 s++[n,0,0,0]
theorem wPar_len (x:Par):(wPar x).length=4:=rfl
theorem wSli_len (x:Sli):(wSli x).length=4:=rfl
theorem wEnt_len (x:Ent):(wEnt x).length=8:=rfl
def wrFb (c t k s m:Int) (B:List Int):List Int:=hdrB c t k++(b32 s++b32 m++B)
theorem sli_v {f n p:Int} (hf:0<=f/\f < 8192) (hn:0<=n/\n < 8192) (hp:0<=p/\p < 64) :
  ior .u32 (ior .u32 (ishl .u32 (iand .u32 (u32.wrap f) (8191:Int)) (19:Int)) (ishl .u32 (iand .u32 (u32.wrap n) (8191:Int)) (6:Int))) (iand .u32 (u32.wrap p) (63:Int))=f*524288+n*64+p:=by
 rw [wu32,wu32,wu32,show f % 4294967296=f by omega,show n % 4294967296=n by omega,show p % 4294967296=p by omega]
 rw [iand_low (k:=.u32) (by rfl) 13 (a:=f) (m:=8191) hf.1 (by simp only [IntKind.bits];omega) (by decide) (by decide),iand_low (k:=.u32) (by rfl) 13 (a:=n) (m:=8191) hn.1 (by simp only [IntKind.bits];omega) (by decide) (by decide),
  iand_low (k:=.u32) (by rfl) 6 (a:=p) (m:=63) hp.1 (by simp only [IntKind.bits];omega) (by decide) (by decide)]
 rw [ishl_of 19 (by rfl) (by decide),ishl_of 6 (by rfl) (by decide),wu32,wu32]
 rw [show f % 2 ^ 13*2 ^ 19 % 4294967296=f*524288 by omega,show n % 2 ^ 13*2 ^ 6 % 4294967296=n*64 by omega,show p % 2 ^ 6=p by omega]
 rw [ior_add (k:=.u32) (by rfl) 19 f (a:=f*524288) (b:=n*64) (by omega) hf.1 (by omega) (by omega) (by simp only [IntKind.bits];omega)]
 exact ior_add (by rfl) 6 (f*8192+n) (by omega) (by omega) hp.1 (by omega) (by simp only [IntKind.bits];omega)
theorem c180 (hc:w.cell? ⟨b,2,none⟩=some (.slice l n k)) (hn:n<=100000):Calls pg 180 #[.pointer (some ⟨b,0,none⟩)] w fun en w'=>en=.returned (.int .i64 ((12+4*n:Nat):Int))/\w'=w:=by
 apply of180
 refine ⟨_,rfl,?_⟩
 refine ⟨_,_,_,hc,?_⟩
 refine ⟨?_,rfl⟩
 rw [wi64_of (n:=(n:Int)*4) (by omega) (by omega),wi64_of (by omega) (by omega)]
 congr 2
 omega
theorem c182 {v0 v1:Value} (H:Sat F w (e0::.blk b T [v0,v1,.slice l n k]::ex) ro) (hn:n<=60000) :
  Calls pg 182 #[.pointer (some ⟨b,0,none⟩)] w fun en w'=>en=.returned (.agg #[.bool false,.int .u8 1,.int .u8 205,.int .u16 ((2+1*n:Nat):Int)])/\Sat F w' (e0::.blk b T [v0,v1,.slice l n k]::ex) ro:=by
 apply of182
 refine sNew H ?_;clear H;intro b9 w _ H
 refine call_j (c180 (show w.cell? ⟨b,2,none⟩=some (.slice l n k) from H.b2.cell rfl) (by omega)) ?_
 rintro _ w' ⟨rfl,rfl⟩
 refine ⟨_,rfl,?_⟩
 refine ⟨by decide,?_⟩
 have e:u16.wrap (i64.wrap (i64.wrap ((((12+4*n:Nat):Int).tdiv 4)) - 1))=((2+1*n:Nat):Int):=by
  rw [aY (by omega),wi64_of (n:=((12+4*n:Nat):Int) / 4) (by omega) (by omega),wi64_of (by omega) (by omega),wu16]
  omega
 rw [e]
 refine sSw0 H (h:=?_);clear H;intro w _ H
 refine ⟨_,_,_,_,H.b0.ld,?_⟩
 exact ⟨rfl,H.d1⟩
theorem c179 {m:Int} {L:List Par} (H:Sat F w ex ro) (hs:0<=s/\s < 4294967296) (hm:0<=m/\m < 4294967296) (hl:Ro.deep [.row 2 (L.flatMap Par.dat)] [.slice l L.length k]∈ro) (hn:L.length<=253) (hR:∀x∈L,(0<=x.1/\x.1 < 65536)/\0<=x.2/\x.2 < 65536) :
  Calls pg 179 #[.agg #[.int .u32 s,.int .u32 m,.slice l L.length k]] w (MPost F ex ro (wrFb 1 205 ((2+1*L.length:Nat):Int) s m (L.flatMap wPar))):=by
 apply of179
 refine sNew H ?_;clear H;intro b1 w _ H
 refine ⟨_,_,_,(H.b0.at0 rfl),?_⟩
 refine ⟨fun h=>by rw [ah,wi64_of (by omega) (by omega)] at h;omega,fun _=>?_⟩
 refine ⟨_,_,_,(H.b0.at0 rfl),?_⟩
 refine sMk H (e:=5) (z:=.int .u8 0) (bytes:=1) (by kernel_rfl) (by kernel_rfl) (by rfl) (by unfold maxLen;omega) (by omega) (n:=8+4*L.length) (by rw [wi64_of (n:=(L.length:Int)*4) (by omega) (by omega),wi64_of (by omega) (by omega)];omega) (by rw [wi64_of (n:=(L.length:Int)*4) (by omega) (by omega),wi64_of (by omega) (by omega)];omega) ?_
 clear H;intro g w _ H
 obtain ⟨N,hN⟩:∃N,N=8+4*L.length:=⟨_,rfl⟩
 rw [<-hN] at H ⊢
 rw [u8s_z] at H
 replace H:Sat F w (.blk g 5 (u8s (wz [] N))::_) ro:=H
 refine ⟨_,(H.b1.at0 rfl),?_⟩
 refine call_j (put32 H (by rfl) hs (by omega) (by omega)) ?_
 clear H;rintro _ w ⟨rfl,H⟩
 refine ⟨rfl,?_⟩
 refine ⟨by omega,by omega,?_⟩
 replace H:=H.drew;generalize w.drew=w at H ⊢
 refine ⟨_,(H.b1.at0 rfl),?_⟩
 rw [cutW (q:=4) (by omega) (by rfl)]
 refine call_j (put32 H (by rfl) hm (by omega) (by omega)) ?_
 clear H;rintro _ w ⟨rfl,H⟩
 refine ⟨rfl,?_⟩
 refine ⟨fun i q w=>∃j:Nat,i=(j:Int)/\j+q=L.length/\Sat F w (.blk g 5 (u8s (wz (b32 s++b32 m++(L.take j).flatMap wPar) (N - 8 - 4*j)))::.blk b1 210 [.int .u32 s,.int .u32 m,.slice l L.length k]::ex) ro,⟨L.length,0,rfl,by omega,H.sub (ak _) (fun _ h=>h)⟩,?_⟩
 clear H;rintro dd i q w ⟨j,rfl,hjq,H⟩
 refine ⟨_,_,_,(H.b1.at0 rfl),?_⟩
 have hBl:(b32 s++b32 m++(L.take j).flatMap wPar).length=8+4*j:=by
  rw [ae,ae,b32_len,b32_len,flat_bd wPar_len,bq]
  omega
 refine ⟨fun hc=>?_,fun hc=>?_⟩
 ·rw [ah] at hc
  have hjl:j < L.length:=by omega
  have htk:L.take (j+1)=L.take j++[L[j]]:=by rw [am,ai hjl];rfl
  have hRj:=hR L[j] (ax hjl)
  rw [wi64_of (n:=4*(j:Int)) (by omega) (by omega),wi64_of (n:=8+4*(j:Int)) (by omega) (by omega),wi64_of (n:=8+4*(j:Int)+2) (by omega) (by omega),show (8+4*(j:Int)).toNat=8+4*j by omega,show (8+4*(j:Int)+2).toNat=10+4*j by omega]
  refine ⟨by omega,by omega,?_⟩
  replace H:=H.drew;generalize w.drew=w at H ⊢
  refine ⟨_,_,_,(H.b1.at0 rfl),?_⟩
  obtain ⟨p,us,e,hus,hcell,H1⟩:=H.eltF Par.dat_lenK (by decide) hl (j:=j) hjl
  obtain ⟨⟨e0,e1⟩,hE⟩:∃E,L[j]=E:=⟨_,rfl⟩
  rw [hE] at H1 htk hRj
  replace hRj:(0<=e0/\e0 < 65536)/\0<=e1/\e1 < 65536:=hRj
  obtain rfl:=H1.ones (us:=[.int .u16 e0,.int .u16 e1]) ms
  clear H
  have H:Sat F w _ (.deep (Par.dat (e0,e1)) [.int .u16 e0,.int .u16 e1]::_):=H1
  clear H1
  refine ⟨p,e,by omega,by omega,?_⟩
  refine ⟨_,(by rw [show (j:Int).toNat*2=j*2 by omega];exact hcell 0 _ rfl),?_⟩
  rw [cutW (l:=8+4*j) (q:=8+4*j) (by omega) (by omega),cutW (l:=10+4*j) (q:=10+4*j) (by omega) (by omega)]
  refine call_j (put16 H hBl.symm hRj.1 (by omega) (by omega)) ?_
  clear H hcell;rintro _ w ⟨rfl,H⟩
  refine ⟨rfl,?_⟩
  refine ⟨by omega,by omega,?_⟩
  replace H:=H.drew;generalize w.drew=w at H ⊢
  refine ⟨_,_,_,(H.b1.at0 rfl),?_⟩
  obtain ⟨p,us,e,hus,hcell,H1⟩:=H.eltF Par.dat_lenK (by decide) (mt hl) (j:=j) hjl
  rw [hE] at H1
  obtain rfl:=H1.ones (us:=[.int .u16 e0,.int .u16 e1]) ms
  clear H1
  refine ⟨p,e,by omega,by omega,?_⟩
  refine ⟨_,(by rw [show (j:Int).toNat*2=j*2 by omega];exact hcell 1 _ rfl),?_⟩
  refine call_j (put16 H (by rw [ae,hBl,b16_len];omega) hRj.2 (by omega) (by omega)) ?_
  clear H hcell;rintro _ w ⟨rfl,H⟩
  refine ⟨rfl,?_⟩
  refine ⟨q - 1,by omega,j+1,?_,by omega,?_⟩
  ·rw [wi64_of (by omega) (by omega)];simp
  ·rw [htk,aj]
   simp only [fm1,fm2,fm3]
   have e4:N - 8 - 4*j - 2 - 2=N - 8 - 4*(j+1):=by omega
   rw [e4,an,an] at H
   rw [<-an]
   exact H.sub (ak _) (fun r h=>mt h)
 ·rw [af] at hc
  obtain rfl:j=L.length:=by omega
  rw [ao] at H hBl
  refine call_j (c182 H (by omega)) ?_
  clear H;rintro _ w ⟨rfl,H⟩
  refine ⟨_,_,_,_,rfl,?_⟩
  refine sNew H ?_;clear H;intro b33 w _ H
  refine sSw0 H (h:=?_);clear H;intro w _ H
  refine ⟨_,_,_,_,H.b0.ld,?_⟩
  have e0:N - 8 - 4*L.length=0:=by omega
  rw [e0] at H
  have H1:=H.r1
  clear H
  rw [show wz (b32 s++b32 m++L.flatMap wPar) 0=b32 s++b32 m++L.flatMap wPar by simp [wz]] at H1
  have H:=H1.blkRow 1 N (ob (b32 s++b32 m++L.flatMap wPar)) (by rw [u8s_length,hBl,hN,bd]) (by unfold maxLen;omega) (fun G h=>by
   have e2:∀B:List Int,ob B=(u8s B).map .one:=fun B=>by simp [ob,u8s]
   rw [e2];exact DeepL.ones _)
  clear H1
  refine call_j (hdrOwn H (by decide) (by decide) (by omega)) ?_
  clear H;rintro _ w ⟨g2,rfl,H⟩
  refine ⟨_,_,_,_,rfl,?_⟩
  refine ⟨by simp [isIf],?_⟩
  refine fF ?_
  refine sAppR H ms (by omega) (by omega) ?_
  clear H;intro a2 n2 c2 r2 w hn2 _ H
  exact MPost.own H sl1 (fun r h=>mt h) (by rw [hn2,hN];unfold wrFb;rw [ae,hBl];rfl)
theorem c206 (hc:w.cell? ⟨b,2,none⟩=some (.slice l n k)) (hn:n<=100000):Calls pg 206 #[.pointer (some ⟨b,0,none⟩)] w fun en w'=>en=.returned (.int .i64 ((12+4*n:Nat):Int))/\w'=w:=by
 apply of206
 refine ⟨_,rfl,?_⟩
 refine ⟨_,_,_,hc,?_⟩
 refine ⟨?_,rfl⟩
 rw [wi64_of (n:=(n:Int)*4) (by omega) (by omega),wi64_of (by omega) (by omega)]
 congr 2
 omega
theorem c208 {v0 v1:Value} (H:Sat F w (e0::.blk b T [v0,v1,.slice l n k]::ex) ro) (hn:n<=60000) :
  Calls pg 208 #[.pointer (some ⟨b,0,none⟩)] w fun en w'=>en=.returned (.agg #[.bool false,.int .u8 2,.int .u8 206,.int .u16 ((2+1*n:Nat):Int)])/\Sat F w' (e0::.blk b T [v0,v1,.slice l n k]::ex) ro:=by
 apply of208
 refine sNew H ?_;clear H;intro b9 w _ H
 refine call_j (c206 (show w.cell? ⟨b,2,none⟩=some (.slice l n k) from H.b2.cell rfl) (by omega)) ?_
 rintro _ w' ⟨rfl,rfl⟩
 refine ⟨_,rfl,?_⟩
 refine ⟨by decide,?_⟩
 have e:u16.wrap (i64.wrap (i64.wrap ((((12+4*n:Nat):Int).tdiv 4)) - 1))=((2+1*n:Nat):Int):=by
  rw [aY (by omega),wi64_of (n:=((12+4*n:Nat):Int) / 4) (by omega) (by omega),wi64_of (by omega) (by omega),wu16]
  omega
 rw [e]
 refine sSw0 H (h:=?_);clear H;intro w _ H
 refine ⟨_,_,_,_,H.b0.ld,?_⟩
 exact ⟨rfl,H.d1⟩
theorem c205 {m:Int} {L:List Sli} (H:Sat F w ex ro) (hs:0<=s/\s < 4294967296) (hm:0<=m/\m < 4294967296) (hl:Ro.deep [.row 3 (L.flatMap Sli.dat)] [.slice l L.length k]∈ro) (hn:L.length<=253) (hR:∀x∈L,(0<=x.1/\x.1 < 8192)/\(0<=x.2.1/\x.2.1 < 8192)/\0<=x.2.2/\x.2.2 < 64) :
  Calls pg 205 #[.agg #[.int .u32 s,.int .u32 m,.slice l L.length k]] w (MPost F ex ro (wrFb 2 206 ((2+1*L.length:Nat):Int) s m (L.flatMap wSli))):=by
 apply of205
 refine sNew H ?_;clear H;intro b1 w _ H
 refine ⟨_,_,_,(H.b0.at0 rfl),?_⟩
 refine ⟨fun h=>by rw [ah,wi64_of (by omega) (by omega)] at h;omega,fun _=>?_⟩
 refine ⟨_,_,_,(H.b0.at0 rfl),?_⟩
 refine sMk H (e:=5) (z:=.int .u8 0) (bytes:=1) (by kernel_rfl) (by kernel_rfl) (by rfl) (by unfold maxLen;omega) (by omega) (n:=8+4*L.length) (by rw [wi64_of (n:=(L.length:Int)*4) (by omega) (by omega),wi64_of (by omega) (by omega)];omega) (by rw [wi64_of (n:=(L.length:Int)*4) (by omega) (by omega),wi64_of (by omega) (by omega)];omega) ?_
 clear H;intro g w _ H
 obtain ⟨N,hN⟩:∃N,N=8+4*L.length:=⟨_,rfl⟩
 rw [<-hN] at H ⊢
 rw [u8s_z] at H
 replace H:Sat F w (.blk g 5 (u8s (wz [] N))::_) ro:=H
 refine ⟨_,(H.b1.at0 rfl),?_⟩
 refine call_j (put32 H (by rfl) hs (by omega) (by omega)) ?_
 clear H;rintro _ w ⟨rfl,H⟩
 refine ⟨rfl,?_⟩
 refine ⟨by omega,by omega,?_⟩
 replace H:=H.drew;generalize w.drew=w at H ⊢
 refine ⟨_,(H.b1.at0 rfl),?_⟩
 rw [cutW (q:=4) (by omega) (by rfl)]
 refine call_j (put32 H (by rfl) hm (by omega) (by omega)) ?_
 clear H;rintro _ w ⟨rfl,H⟩
 refine ⟨rfl,?_⟩
 refine ⟨_,_,_,(H.b1.at0 rfl),?_⟩
 refine ⟨fun i q w=>∃j:Nat,i=(j:Int)/\j+q=L.length/\Sat F w (.blk g 5 (u8s (wz (b32 s++b32 m++(L.take j).flatMap wSli) (N - 8 - 4*j)))::.blk b1 227 [.int .u32 s,.int .u32 m,.slice l L.length k]::ex) ro,⟨L.length,0,rfl,by omega,H.sub (ak _) (fun _ h=>h)⟩,?_⟩
 clear H;rintro dd i q w ⟨j,rfl,hjq,H⟩
 have hBl:(b32 s++b32 m++(L.take j).flatMap wSli).length=8+4*j:=by
  rw [ae,ae,b32_len,b32_len,flat_bd wSli_len,bq]
  omega
 refine ⟨fun hc=>?_,fun hc=>?_⟩
 ·rw [ah] at hc
  have hjl:j < L.length:=by omega
  have htk:L.take (j+1)=L.take j++[L[j]]:=by rw [am,ai hjl];rfl
  have hRj:=hR L[j] (ax hjl)
  obtain ⟨p,us,e,hus,hcell,H1⟩:=H.eltF Sli.dat_lenK (by decide) hl (j:=j) hjl
  generalize L[j]=E at H1 htk hRj
  obtain ⟨e0,e1,e2⟩:=E
  replace hRj:(0<=e0/\e0 < 8192)/\(0<=e1/\e1 < 8192)/\0<=e2/\e2 < 64:=hRj
  obtain rfl:=H1.ones (us:=[.int .u16 e0,.int .u16 e1,.int .u8 e2]) ms
  clear H
  have H:Sat F w _ (.deep (Sli.dat (e0,e1,e2)) [.int .u16 e0,.int .u16 e1,.int .u8 e2]::_):=H1
  clear H1
  refine ⟨p,e,by omega,by omega,?_⟩
  refine ⟨_,_,_,LdC [.int .u16 e0,.int .u16 e1,.int .u8 e2] (by kernel_rfl) (by rw [show (j:Int).toNat*3=j*3 by omega];exact hcell),?_⟩
  clear hcell
  refine sNew H ?_;clear H;intro b24 w _ H
  refine sSw0 H (h:=?_);clear H;intro w _ H
  refine ⟨_,(H.b0.at0 rfl),?_⟩
  refine ⟨_,(H.b0.at0 rfl),?_⟩
  refine ⟨_,(H.b0.at0 rfl),?_⟩
  rw [wi64_of (n:=4*(j:Int)) (by omega) (by omega),wi64_of (n:=8+4*(j:Int)) (by omega) (by omega),show (8+4*(j:Int)).toNat=8+4*j by omega]
  refine ⟨by omega,by omega,?_⟩
  rw [cutW (l:=8+4*j) (q:=8+4*j) (by omega) (by omega),sli_v hRj.1 hRj.2.1 hRj.2.2]
  refine call_j (put32 H.r1 hBl.symm (by omega) (by omega) (by omega)) ?_
  clear H;rintro _ w ⟨rfl,H⟩
  refine ⟨rfl,?_⟩
  refine ⟨q - 1,by omega,j+1,?_,by omega,?_⟩
  ·rw [wi64_of (by omega) (by omega)];simp
  ·rw [htk,aj]
   simp only [fm1,fm2,fm3]
   have e4:N - 8 - 4*j - 4=N - 8 - 4*(j+1):=by omega
   rw [e4] at H
   rw [<-an]
   exact H.dq (fun r h=>mt h)
 ·rw [af] at hc
  obtain rfl:j=L.length:=by omega
  rw [ao] at H hBl
  refine call_j (c208 H (by omega)) ?_
  clear H;rintro _ w ⟨rfl,H⟩
  refine ⟨_,_,_,_,rfl,?_⟩
  have e0:N - 8 - 4*L.length=0:=by omega
  rw [e0] at H
  have H1:=H
  clear H
  rw [show wz (b32 s++b32 m++L.flatMap wSli) 0=b32 s++b32 m++L.flatMap wSli by simp [wz]] at H1
  have H:=H1.blkRow 1 N (ob (b32 s++b32 m++L.flatMap wSli)) (by rw [u8s_length,hBl,hN,bd]) (by unfold maxLen;omega) (fun G h=>by
   have e2:∀B:List Int,ob B=(u8s B).map .one:=fun B=>by simp [ob,u8s]
   rw [e2];exact DeepL.ones _)
  clear H1
  refine call_j (hdrOwn H (by decide) (by decide) (by omega)) ?_
  clear H;rintro _ w ⟨g2,rfl,H⟩
  refine ⟨_,_,_,_,rfl,?_⟩
  refine ⟨by simp [isIf],?_⟩
  refine fF ?_
  refine sAppR H ms (by omega) (by omega) ?_
  clear H;intro a2 n2 c2 r2 w hn2 _ H
  exact MPost.own H sl1 (fun r h=>mt h) (by rw [hn2,hN];unfold wrFb;rw [ae,hBl];rfl)
theorem c211 (hc:w.cell? ⟨b,2,none⟩=some (.slice l n k)) (hn:n<=100000):Calls pg 211 #[.pointer (some ⟨b,0,none⟩)] w fun en w'=>en=.returned (.int .i64 ((12+8*n:Nat):Int))/\w'=w:=by
 apply of211
 refine ⟨_,rfl,?_⟩
 refine ⟨_,_,_,hc,?_⟩
 refine ⟨?_,rfl⟩
 rw [wi64_of (n:=(n:Int)*8) (by omega) (by omega),wi64_of (by omega) (by omega)]
 congr 2
 omega
theorem c213 {v0 v1:Value} (H:Sat F w (e0::.blk b T [v0,v1,.slice l n k]::ex) ro) (hn:n<=30000) :
  Calls pg 213 #[.pointer (some ⟨b,0,none⟩)] w fun en w'=>en=.returned (.agg #[.bool false,.int .u8 4,.int .u8 206,.int .u16 ((2+2*n:Nat):Int)])/\Sat F w' (e0::.blk b T [v0,v1,.slice l n k]::ex) ro:=by
 apply of213
 refine sNew H ?_;clear H;intro b9 w _ H
 refine call_j (c211 (show w.cell? ⟨b,2,none⟩=some (.slice l n k) from H.b2.cell rfl) (by omega)) ?_
 rintro _ w' ⟨rfl,rfl⟩
 refine ⟨_,rfl,?_⟩
 refine ⟨by decide,?_⟩
 have e:u16.wrap (i64.wrap (i64.wrap ((((12+8*n:Nat):Int).tdiv 4)) - 1))=((2+2*n:Nat):Int):=by
  rw [aY (by omega),wi64_of (n:=((12+8*n:Nat):Int) / 4) (by omega) (by omega),wi64_of (by omega) (by omega),wu16]
  omega
 rw [e]
 refine sSw0 H (h:=?_);clear H;intro w _ H
 refine ⟨_,_,_,_,H.b0.ld,?_⟩
 exact ⟨rfl,H.d1⟩
theorem c210 {m:Int} {L:List Ent} (H:Sat F w ex ro) (hs:0<=s/\s < 4294967296) (hm:0<=m/\m < 4294967296) (hl:Ro.deep [.row 2 (L.flatMap Ent.dat)] [.slice l L.length k]∈ro) (hn:L.length<=30000) (hR:∀x∈L,0<=x.1/\x.1 < 4294967296) :
  Calls pg 210 #[.agg #[.int .u32 s,.int .u32 m,.slice l L.length k]] w (MPost F ex ro (wrFb 4 206 ((2+2*L.length:Nat):Int) s m (L.flatMap wEnt))):=by
 apply of210
 refine sNew H ?_;clear H;intro b1 w _ H
 refine ⟨_,_,_,(H.b0.at0 rfl),?_⟩
 refine sMk H (e:=5) (z:=.int .u8 0) (bytes:=1) (by kernel_rfl) (by kernel_rfl) (by rfl) (by unfold maxLen;omega) (by omega) (n:=8+8*L.length) (by rw [wi64_of (n:=(L.length:Int)*8) (by omega) (by omega),wi64_of (by omega) (by omega)];omega) (by rw [wi64_of (n:=(L.length:Int)*8) (by omega) (by omega),wi64_of (by omega) (by omega)];omega) ?_
 clear H;intro g w _ H
 obtain ⟨N,hN⟩:∃N,N=8+8*L.length:=⟨_,rfl⟩
 rw [<-hN] at H ⊢
 rw [u8s_z] at H
 replace H:Sat F w (.blk g 5 (u8s (wz [] N))::_) ro:=H
 refine ⟨_,(H.b1.at0 rfl),?_⟩
 refine call_j (put32 H (by rfl) hs (by omega) (by omega)) ?_
 clear H;rintro _ w ⟨rfl,H⟩
 refine ⟨rfl,?_⟩
 refine ⟨by omega,by omega,?_⟩
 replace H:=H.drew;generalize w.drew=w at H ⊢
 refine ⟨_,(H.b1.at0 rfl),?_⟩
 rw [cutW (q:=4) (by omega) (by rfl)]
 refine call_j (put32 H (by rfl) hm (by omega) (by omega)) ?_
 clear H;rintro _ w ⟨rfl,H⟩
 refine ⟨rfl,?_⟩
 refine ⟨_,_,_,(H.b1.at0 rfl),?_⟩
 refine ⟨fun i q w=>∃j:Nat,i=(j:Int)/\j+q=L.length/\Sat F w (.blk g 5 (u8s (wz (b32 s++b32 m++(L.take j).flatMap wEnt) (N - 8 - 8*j)))::.blk b1 232 [.int .u32 s,.int .u32 m,.slice l L.length k]::ex) ro,⟨L.length,0,rfl,by omega,H.sub (ak _) (fun _ h=>h)⟩,?_⟩
 clear H;rintro dd i q w ⟨j,rfl,hjq,H⟩
 have hBl:(b32 s++b32 m++(L.take j).flatMap wEnt).length=8+8*j:=by
  rw [ae,ae,b32_len,b32_len,flat_bd wEnt_len,bq]
  omega
 refine ⟨fun hc=>?_,fun hc=>?_⟩
 ·rw [ah] at hc
  have hjl:j < L.length:=by omega
  have htk:L.take (j+1)=L.take j++[L[j]]:=by rw [am,ai hjl];rfl
  have hRj:=hR L[j] (ax hjl)
  obtain ⟨p,us,e,hus,hcell,H1⟩:=H.eltF Ent.dat_lenK (by decide) hl (j:=j) hjl
  generalize L[j]=E at H1 htk hRj
  obtain ⟨e0,e1⟩:=E
  replace hRj:0<=e0/\e0 < 4294967296:=hRj
  obtain rfl:=H1.ones (us:=[.int .u32 e0,.int .u8 e1]) ms
  clear H
  have H:Sat F w _ (.deep (Ent.dat (e0,e1)) [.int .u32 e0,.int .u8 e1]::_):=H1
  clear H1
  refine ⟨p,e,by omega,by omega,?_⟩
  refine ⟨_,_,LdC [.int .u32 e0,.int .u8 e1] (by kernel_rfl) (by rw [show (j:Int).toNat*2=j*2 by omega];exact hcell),?_⟩
  clear hcell
  refine sNew H ?_;clear H;intro b21 w _ H
  refine sSw0 H (h:=?_);clear H;intro w _ H
  rw [wi64_of (n:=8*(j:Int)) (by omega) (by omega),wi64_of (n:=8+8*(j:Int)) (by omega) (by omega),wi64_of (n:=8+8*(j:Int)+4) (by omega) (by omega),show (8+8*(j:Int)).toNat=8+8*j by omega,show (8+8*(j:Int)+4).toNat=12+8*j by omega]
  refine ⟨by omega,by omega,?_⟩
  replace H:=H.drew;generalize w.drew=w at H ⊢
  refine ⟨_,(H.b0.at0 rfl),?_⟩
  rw [cutW (l:=8+8*j) (q:=8+8*j) (by omega) (by omega)]
  refine call_j (put32 H.r1 hBl.symm hRj (by omega) (by omega)) ?_
  clear H;rintro _ w ⟨rfl,H⟩
  refine ⟨rfl,?_⟩
  refine ⟨_,(H.b1.at0 rfl),?_⟩
  refine ⟨_,rfl,by omega,by omega,?_⟩
  refine sStW H (by rw [add_flat,ae,hBl,b32_len];congr 1;omega) (by omega) ?_
  clear H;intro w H
  refine ⟨q - 1,by omega,j+1,?_,by omega,?_⟩
  ·rw [wi64_of (by omega) (by omega)];simp
  ·rw [htk,aj]
   simp only [fm1,fm2,fm3]
   have e4:N - 8 - 8*j - 4 - 1 - 3=N - 8 - 8*(j+1):=by omega
   rw [wz_pad _ 3 (by omega),e4,an,an] at H
   rw [<-an]
   exact H.dq (fun r h=>mt h)
 ·rw [af] at hc
  obtain rfl:j=L.length:=by omega
  rw [ao] at H hBl
  refine call_j (c213 H (by omega)) ?_
  clear H;rintro _ w ⟨rfl,H⟩
  refine ⟨_,_,_,_,rfl,?_⟩
  refine sNew H ?_;clear H;intro b33 w _ H
  refine sSw0 H (h:=?_);clear H;intro w _ H
  refine ⟨_,_,_,_,H.b0.ld,?_⟩
  have e0:N - 8 - 8*L.length=0:=by omega
  rw [e0] at H
  have H1:=H.r1
  clear H
  rw [show wz (b32 s++b32 m++L.flatMap wEnt) 0=b32 s++b32 m++L.flatMap wEnt by simp [wz]] at H1
  have H:=H1.blkRow 1 N (ob (b32 s++b32 m++L.flatMap wEnt)) (by rw [u8s_length,hBl,hN,bd]) (by unfold maxLen;omega) (fun G h=>by
   have e2:∀B:List Int,ob B=(u8s B).map .one:=fun B=>by simp [ob,u8s]
   rw [e2];exact DeepL.ones _)
  clear H1
  refine call_j (hdrOwn H (by decide) (by decide) (by omega)) ?_
  clear H;rintro _ w ⟨g2,rfl,H⟩
  refine ⟨_,_,_,_,rfl,?_⟩
  refine ⟨by simp [isIf],?_⟩
  refine fF ?_
  refine sAppR H ms (by omega) (by omega) ?_
  clear H;intro a2 n2 c2 r2 w hn2 _ H
  exact MPost.own H sl1 (fun r h=>mt h) (by rw [hn2,hN];unfold wrFb;rw [ae,hBl];rfl)
theorem copy0 {d s:Option Addr} {dLen dCap sCap:Nat}:(Builtin.copy_ #[22,22] ty #[.slice d dLen dCap,.slice s 0 sCap]).run pg w=.ok (.int .i64 0) w:=by
 obtain ⟨ht,i,z,hi,_,hs,_⟩:=apT_spec (show apT pg 22 5 1 1=true by kernel_rfl)
 cases s with
 | none=>cases d<;>simp [Builtin.copy_,aH ht,Builtin.lenOf,Builtin.firstCells,sizeOf,typeInfo,hi,hs,storeCells,goInt]
 | some a=>cases d<;>simp [Builtin.copy_,aH ht,Builtin.lenOf,Builtin.firstCells,sizeOf,typeInfo,hi,hs,storeCells,goInt,loadCells,loadCellsFrom]
theorem sCpV {D:List Int} {z:Nat} (H:Sat F w (.blk g t (u8s (wz A z))::ex) ro) {dLen dCap sLen sCap:Nat} {d s:Option Addr} (hD:Ro.B D s sLen sCap∈ro)
  (ho:0 < sLen->d=some ⟨g,A.length,none⟩) (hd:sLen<=dLen) (hz:D.length<=z) {K:Int->World->Prop} (h:∀w',w.grownBy w' (some g)->Sat F w' (.blk g t (u8s (wz (A++D) (z - D.length)))::ex) ro->K sLen w') :
  ∃n,∃w',(Builtin.copy_ #[22,22] ty #[.slice d dLen dCap,.slice s sLen sCap]).run pg w=.ok (.int .i64 n) w'/\K n w':=by
 rcases bL sLen with h0 | h0
 ·subst h0
  obtain rfl:D=[]:=aF (H.lenB hD)
  exact ⟨0,w,copy0,h w (grew_refl _ _) (by simpa using H)⟩
 ·rw [ho h0]
  exact sCpW H hD h0 rfl hd hz h
theorem Sat.bm (H:Sat F w ex ro) (hb:Ex.blk b T cells∈ex):Blk w b T cells:=H.he _ hb
def wRep:Rep->List Int
 | (a,b,c,d,e,f,g)=>b32 a++[b,c / 65536,c / 256 % 256,c % 256]++b32 d++b32 e++b32 f++b32 g
theorem wRep_len (x:Rep):(wRep x).length=24:=rfl
abbrev u32R (x:Int):Prop:=0<=x/\x < 4294967296
def RepR (x:Rep):Prop:=u32R x.1/\(0<=x.2.2.1/\x.2.2.1 < 16777216)/\u32R x.2.2.2.1/\u32R x.2.2.2.2.1/\u32R x.2.2.2.2.2.1/\u32R x.2.2.2.2.2.2
theorem c146 (H:Sat F w ex ro) {r0 r1 r2 r3 r4 r5 r6:Int} (hR:RepR (r0,r1,r2,r3,r4,r5,r6)) :
  Calls pg 146 #[.agg #[.int .u32 r0,.int .u8 r1,.int .u32 r2,.int .u32 r3,.int .u32 r4,.int .u32 r5,.int .u32 r6]] w (MPost F ex ro (wRep (r0,r1,r2,r3,r4,r5,r6))):=by
 obtain ⟨h0,h2,h3,h4,h5,h6⟩:u32R r0/\(0<=r2/\r2 < 16777216)/\u32R r3/\u32R r4/\u32R r5/\u32R r6:=hR
 apply of146
 refine sNew H ?_;clear H;intro b1 w _ H
 refine sMk H (e:=5) (z:=.int .u8 0) (bytes:=1) (by kernel_rfl) (by kernel_rfl) (by rfl) (by unfold maxLen;omega) (by omega) (n:=24) (by rfl) (by rfl) ?_
 clear H;intro g w _ H
 rw [u8s_z] at H
 replace H:Sat F w (.blk g 5 (u8s (wz [] 24))::_) ro:=H
 refine ⟨_,(H.b1.at0 rfl),?_⟩
 refine call_j (put32 H (by rfl) h0 (by decide) (by decide)) ?_
 clear H;rintro _ w ⟨rfl,H⟩
 refine ⟨rfl,?_⟩
 refine ⟨_,(H.b1.at0 rfl),?_⟩
 refine ⟨_,rfl,by omega,by omega,?_⟩
 refine sStW H (by rfl) (by decide) ?_
 clear H;intro w H
 refine ⟨_,(H.b1.at0 rfl),?_⟩
 refine ⟨fun h=>by rw [ah] at h;omega,fun _=>?_⟩
 refine ⟨by omega,by omega,?_⟩
 refine ⟨_,(H.b1.at0 rfl),?_⟩
 rw [cutW (l:=5) (q:=5) (by decide) rfl]
 rw [ishr_of (b:=(16:Int)) 16 (by rfl) (by decide),wu8,show r2 / 2 ^ 16 % 256=r2 / 65536 by omega]
 refine ⟨_,rfl,by omega,by omega,?_⟩
 refine sStW H (by rfl) (by decide) ?_
 clear H;intro w H
 refine ⟨_,(H.b1.at0 rfl),?_⟩
 rw [ishr_of (b:=(8:Int)) 8 (by rfl) (by decide),wu8,show r2 / 2 ^ 8 % 256=r2 / 256 % 256 by omega]
 refine ⟨_,rfl,by omega,by omega,?_⟩
 refine sStW H (by rfl) (by decide) ?_
 clear H;intro w H
 refine ⟨_,(H.b1.at0 rfl),?_⟩
 rw [wu8]
 refine ⟨_,rfl,by omega,by omega,?_⟩
 refine sStW H (by rfl) (by decide) ?_
 clear H;intro w H
 refine ⟨by omega,by omega,?_⟩
 replace H:=H.drew;generalize w.drew=w at H ⊢
 refine ⟨_,(H.b1.at0 rfl),?_⟩
 rw [cutW (l:=8) (q:=8) (by decide) rfl]
 refine call_j (put32 H (by rfl) h3 (by decide) (by decide)) ?_
 clear H;rintro _ w ⟨rfl,H⟩
 refine ⟨rfl,?_⟩
 refine ⟨by omega,by omega,?_⟩
 replace H:=H.drew;generalize w.drew=w at H ⊢
 refine ⟨_,(H.b1.at0 rfl),?_⟩
 rw [cutW (l:=12) (q:=12) (by decide) rfl]
 refine call_j (put32 H (by rfl) h4 (by decide) (by decide)) ?_
 clear H;rintro _ w ⟨rfl,H⟩
 refine ⟨rfl,?_⟩
 refine ⟨by omega,by omega,?_⟩
 replace H:=H.drew;generalize w.drew=w at H ⊢
 refine ⟨_,(H.b1.at0 rfl),?_⟩
 rw [cutW (l:=16) (q:=16) (by decide) rfl]
 refine call_j (put32 H (by rfl) h5 (by decide) (by decide)) ?_
 clear H;rintro _ w ⟨rfl,H⟩
 refine ⟨rfl,?_⟩
 refine ⟨by omega,by omega,?_⟩
 replace H:=H.drew;generalize w.drew=w at H ⊢
 refine ⟨_,(H.b1.at0 rfl),?_⟩
 rw [cutW (l:=20) (q:=20) (by decide) rfl]
 refine call_j (put32 H (by rfl) h6 (by decide) (by decide)) ?_
 clear H;rintro _ w ⟨rfl,H⟩
 refine ⟨rfl,?_⟩
 refine MPost.blk (bs:=wRep (r0,r1,r2,r3,r4,r5,r6)) H (sc1) (fun _ h=>h) (by rfl) (by decide)
theorem c148 {v:Option Addr}:Calls pg 148 #[.pointer v] w fun en w'=>en=.returned (.int .i64 24)/\w'=w:=by
 apply of148
 exact ⟨rfl,rfl⟩
theorem pad0 (h:n % 4=0):Calls pg 149 #[.int .i64 (n:Int)] w fun en w'=>en=.returned (.int .i64 0)/\w.grownBy w' none:=c149 h
theorem c142 {xn xk:Nat} {L:List Rep} {x:Option Addr} (H:Sat F w ex ro) (hb:Ex.blk b T cells∈ex) (h5:cells[5]?=some (.slice l L.length k)) (h6:cells[6]?=some (.slice x xn xk))
  (hl:Ro.deep [.row 7 (L.flatMap Rep.dat)] [.slice l L.length k]∈ro) (hn:L.length<=100000) (hx:xn<=10000000) (hx4:xn % 4=0) :
  Calls pg 142 #[.pointer (some ⟨b,0,none⟩)] w fun en w'=>en=.returned (.int .i64 ((28+24*L.length+xn:Nat):Int))/\Sat F w' ex ro:=by
 apply of142
 refine ⟨_,rfl,?_⟩
 refine ⟨_,_,_,(H.bm hb).cell h5,?_⟩
 refine ⟨fun a i q w=>∃j:Nat,a=((24*j:Nat):Int)/\i=(j:Int)/\j+q=L.length/\Sat F w ex ro,⟨L.length,0,rfl,rfl,by omega,H⟩,?_⟩
 clear H;rintro dd a i q w ⟨j,rfl,rfl,hjq,H⟩
 refine ⟨fun hc=>?_,fun hc=>?_⟩
 ·rw [ah] at hc
  have hjl:j < L.length:=by omega
  obtain ⟨p,us,e,hus,hcell,H1⟩:=H.eltF Rep.dat_len' (by decide) hl (j:=j) hjl
  generalize L[j]=D at H1
  obtain ⟨d0,d1,d2,d3,d4,d5,d6⟩:=D
  obtain rfl:=H1.ones (us:=[.int .u32 d0,.int .u8 d1,.int .u32 d2,.int .u32 d3,.int .u32 d4,.int .u32 d5,.int .u32 d6]) ms
  clear H1
  refine ⟨p,e,by omega,by omega,?_⟩
  refine ⟨_,_,_,_,_,_,_,LdC [.int .u32 d0,.int .u8 d1,.int .u32 d2,.int .u32 d3,.int .u32 d4,.int .u32 d5,.int .u32 d6] (by kernel_rfl) (by rw [show (j:Int).toNat*7=j*7 by omega];exact hcell),?_⟩
  clear hcell
  refine sNew H ?_;clear H;intro b19 w _ H
  refine sSw0 H (h:=?_);clear H;intro w _ H
  refine call_j c148 ?_
  rintro _ w' ⟨rfl,rfl⟩
  refine ⟨_,rfl,?_⟩
  refine ⟨q - 1,by omega,j+1,?_,?_,by omega,H.d1⟩
  ·rw [wi64_of (by omega) (by omega)];omega
  ·rw [wi64_of (by omega) (by omega)];simp
 ·rw [af] at hc
  obtain rfl:j=L.length:=by omega
  refine ⟨_,rfl,?_⟩
  refine ⟨_,_,_,(H.bm hb).cell h6,?_⟩
  refine call_j (pad0 hx4) ?_
  rintro _ w ⟨rfl,g⟩
  refine ⟨_,rfl,?_⟩
  refine ⟨?_,H.grow g⟩
  rw [wi64_of (n:=28+((24*L.length:Nat):Int)) (by omega) (by omega),wi64_of (n:=28+((24*L.length:Nat):Int)+(xn:Int)) (by omega) (by omega),wi64_of (by omega) (by omega)]
  congr 2<;>omega
theorem c147 {xn xk:Nat} {L:List Rep} {x:Option Addr} (H:Sat F w ex ro) (hb:Ex.blk b T cells∈ex) (h5:cells[5]?=some (.slice l L.length k)) (h6:cells[6]?=some (.slice x xn xk))
  (hl:Ro.deep [.row 7 (L.flatMap Rep.dat)] [.slice l L.length k]∈ro) (hn:L.length<=31) (hx4:xn % 4=0) (hx:28+24*L.length+xn<=262144) :
  Calls pg 147 #[.pointer (some ⟨b,0,none⟩)] w fun en w'=>en=.returned (.agg #[.bool false,.int .u8 (L.length:Int),.int .u8 200,.int .u16 (((28+24*L.length+xn) / 4 - 1:Nat):Int)])/\Sat F w' ex ro:=by
 apply of147
 refine sNew H ?_;clear H;intro b9 w _ H
 refine ⟨none,?_⟩
 replace H:=H.drew
 generalize w.drew=wd at H ⊢
 obtain ⟨ex2,S,back,hmem⟩:=Sat.still3 (E0:=[]) H none (by simp [foots])
 replace S:Sat _ _ ex2 ro:=S
 have hb9:=hmem b9 _ _ ms
 have hb1:=hmem b _ _ (mt hb)
 refine ⟨_,rfl,aC _,⟨_,_,_,(S.bm hb1).eq⟩,?_⟩
 refine ⟨_,_,_,(S.bm hb1).cell h5,?_⟩
 refine call_j (c142 S hb1 h5 h6 hl (by omega) (by omega) hx4) ?_
 rintro _ w ⟨rfl,S⟩
 obtain ⟨g,H1⟩:=back [] w ro S
 clear H S hb9 hb1 hmem back
 have H:Sat F w (.blk b9 109 _::ex) ro:=H1
 clear H1
 refine ⟨_,rfl,?_⟩
 refine ⟨g,?_⟩
 refine ⟨by decide,?_⟩
 rw [aY (by omega),wi64_of (n:=((28+24*L.length+xn:Nat):Int) / 4) (by omega) (by omega),wi64_of (n:=((28+24*L.length+xn:Nat):Int) / 4 - 1) (by omega) (by omega),wu16,wu8,show (L.length:Int) % 256=L.length by omega,
  show (((28+24*L.length+xn:Nat):Int) / 4 - 1) % 65536=(((28+24*L.length+xn) / 4 - 1:Nat):Int) by omega]
 refine sSw0 H (h:=?_);clear H;intro w _ H
 refine ⟨_,_,_,_,H.b0.ld,?_⟩
 exact ⟨rfl,H.d1⟩
def wrSR (s tn tr pk oc:Int) (L:List Rep) (xs:List Int):List Int:=hdrB (L.length:Int) 200 (((28+24*L.length+xs.length) / 4 - 1:Nat):Int)++(b32 s++b64 tn++b32 tr++b32 pk++b32 oc++L.flatMap wRep++xs)
theorem c141 {xn xk:Nat} {tn tr pk oc:Int} {L:List Rep} {x:Option Addr} (H:Sat F w ex ro) (hs:u32R s) (htn:0<=tn/\tn < 18446744073709551616) (htr:u32R tr) (hpk:u32R pk) (hoc:u32R oc)
  (hl:Ro.deep [.row 7 (L.flatMap Rep.dat)] [.slice l L.length k]∈ro) (hxs:Ro.B xs x xn xk∈ro) (hn:L.length<=31) (hx4:xn % 4=0) (hx:28+24*L.length+xn<=262144) (hR:∀y∈L,RepR y) :
  Calls pg 141 #[.agg #[.int .u32 s,.int .u64 tn,.int .u32 tr,.int .u32 pk,.int .u32 oc,.slice l L.length k,.slice x xn xk]] w (MPost F ex ro (wrSR s tn tr pk oc L xs)):=by
 apply of141
 have hxl:=H.lenB hxs
 refine sNew H ?_;clear H;intro b1 w _ H
 refine call_j (c142 (x:=x) (xn:=xn) (xk:=xk) H ms rfl rfl hl (by omega) (by omega) hx4) ?_
 clear H;rintro _ w ⟨rfl,H⟩
 refine ⟨_,rfl,?_⟩
 obtain ⟨N,hN⟩:∃N,N=28+24*L.length+xn:=⟨_,rfl⟩
 rw [<-hN]
 refine sMk H (e:=5) (z:=.int .u8 0) (bytes:=1) (by kernel_rfl) (by kernel_rfl) (by rfl) (by unfold maxLen;omega) (by omega) (n:=N) (by rfl) (by rfl) ?_
 clear H;intro g w _ H
 rw [u8s_z,wz_start (by omega)] at H
 refine ⟨by omega,by omega,?_⟩
 refine ⟨by omega,by omega,?_⟩
 replace H:=H.drew;generalize w.drew=w at H ⊢
 refine ⟨_,(H.b1.at0 rfl),?_⟩
 rw [cutW (b:=g) (o:=0) (l:=4) (q:=4) (by omega) rfl]
 rw [cutW (b:=g) (l:=0) (q:=4) (by omega) rfl]
 refine call_j (put32 H (by rfl) hs (by omega) (by omega)) ?_
 clear H;rintro _ w ⟨rfl,H⟩
 refine ⟨rfl,?_⟩
 refine ⟨by omega,by omega,?_⟩
 replace H:=H.drew;generalize w.drew=w at H ⊢
 refine ⟨_,(H.b1.at0 rfl),?_⟩
 rw [cutW (b:=g) (l:=4) (q:=8) (by omega) rfl]
 refine call_j (put64 H (by rfl) htn (by omega) (by omega) (by omega)) ?_
 clear H;rintro _ w ⟨rfl,H⟩
 refine ⟨rfl,?_⟩
 refine ⟨by omega,by omega,?_⟩
 replace H:=H.drew;generalize w.drew=w at H ⊢
 refine ⟨_,(H.b1.at0 rfl),?_⟩
 rw [cutW (b:=g) (l:=12) (q:=16) (by omega) rfl]
 refine call_j (put32 H (by rfl) htr (by omega) (by omega)) ?_
 clear H;rintro _ w ⟨rfl,H⟩
 refine ⟨rfl,?_⟩
 refine ⟨by omega,by omega,?_⟩
 replace H:=H.drew;generalize w.drew=w at H ⊢
 refine ⟨_,(H.b1.at0 rfl),?_⟩
 rw [cutW (b:=g) (l:=16) (q:=20) (by omega) rfl]
 refine call_j (put32 H (by rfl) hpk (by omega) (by omega)) ?_
 clear H;rintro _ w ⟨rfl,H⟩
 refine ⟨rfl,?_⟩
 refine ⟨by omega,by omega,?_⟩
 replace H:=H.drew;generalize w.drew=w at H ⊢
 refine ⟨_,(H.b1.at0 rfl),?_⟩
 rw [cutW (b:=g) (l:=20) (q:=24) (by omega) rfl]
 refine call_j (put32 H (by rfl) hoc (by omega) (by omega)) ?_
 clear H;rintro _ w ⟨rfl,H⟩
 refine ⟨rfl,?_⟩
 obtain ⟨P,hP⟩:∃P,P=[0,0,0,0]++(b32 s++b64 tn++b32 tr++b32 pk++b32 oc):=⟨_,rfl⟩
 have hPl:P.length=28:=by rw [hP];rfl
 replace H:Sat F w (.blk g 5 (u8s (wz P (N - 28)))::.blk b1 194 [.int .u32 s,.int .u64 tn,.int .u32 tr,.int .u32 pk,.int .u32 oc,.slice l L.length k,.slice x xn xk]::ex) ro:=by
  rw [hP]
  have e:N - 4 - 4 - 8 - 4 - 4 - 4=N - 28:=by omega
  rw [<-e]
  simpa only [an] using H
 refine ⟨_,_,_,(H.b1.at0 rfl),?_⟩
 refine ⟨fun off i q w=>∃j:Nat,off=((24+24*j:Nat):Int)/\i=(j:Int)/\j+q=L.length/\∃ro',(∀r∈ro,r∈ro')/\Sat F w (.blk g 5 (u8s (wz (P++(L.take j).flatMap wRep) (N - 28 - 24*j)))::.blk b1 194 [.int .u32 s,.int .u64 tn,.int .u32 tr,.int .u32 pk,.int .u32 oc,.slice l L.length k,.slice x xn xk]::ex) ro',⟨L.length,0,rfl,rfl,by omega,ro,fun _ h=>h,by simpa using H⟩,?_⟩
 clear H;rintro dd off i q w ⟨j,rfl,rfl,hjq,ro',hr,H⟩
 have hBl:(P++(L.take j).flatMap wRep).length=28+24*j:=by
  rw [ae,hPl,flat_bd wRep_len,bq]
  omega
 refine ⟨fun hc=>?_,fun hc=>?_⟩
 ·rw [ah] at hc
  have hjl:j < L.length:=by omega
  have htk:L.take (j+1)=L.take j++[L[j]]:=by rw [am,ai hjl];rfl
  have hRj:=hR L[j] (ax hjl)
  obtain ⟨p,us,e,hus,hcell,H1⟩:=H.eltF Rep.dat_len' (by decide) (hr _ hl) (j:=j) hjl
  generalize L[j]=D at H1 htk hRj
  obtain ⟨d0,d1,d2,d3,d4,d5,d6⟩:=D
  obtain rfl:=H1.ones (us:=[.int .u32 d0,.int .u8 d1,.int .u32 d2,.int .u32 d3,.int .u32 d4,.int .u32 d5,.int .u32 d6]) ms
  clear H1
  refine ⟨p,e,by omega,by omega,?_⟩
  refine ⟨_,_,_,_,_,_,_,LdC [.int .u32 d0,.int .u8 d1,.int .u32 d2,.int .u32 d3,.int .u32 d4,.int .u32 d5,.int .u32 d6] (by kernel_rfl) (by rw [show (j:Int).toNat*7=j*7 by omega];exact hcell),?_⟩
  clear hcell
  refine sNew H ?_;clear H;intro b34 w _ H
  refine sSw0 H (h:=?_);clear H;intro w _ H
  refine ⟨_,_,_,_,_,_,_,H.b0.ld,?_⟩
  refine call_j (c146 H hRj) ?_
  clear H;rintro _ w ⟨da,dcz,ro2,rfl,hr2,H,hd⟩
  refine ⟨_,_,_,_,rfl,?_⟩
  refine ⟨by simp [isIf],?_⟩
  refine fF ?_
  refine ⟨by omega,by omega,?_⟩
  rw [au,cutW (b:=g) (l:=24+24*j) (q:=28+24*j) (by omega) (by omega)]
  refine sCpW H.r1 hd (by rw [wRep_len];decide) hBl.symm (by rw [wRep_len];omega) (by rw [wRep_len];omega) ?_
  clear H;intro w _ H
  refine ⟨q - 1,by omega,j+1,by rw [wi64_of (by omega) (by omega)];omega,by rw [wi64_of (by omega) (by omega)];simp,by omega,ro2,fun r h=>hr2 r (hr r h),?_⟩
  rw [htk,aj]
  simp only [fm1,fm2,fm3]
  rw [wRep_len,an,show N - 28 - 24*j - 24=N - 28 - 24*(j+1) by omega] at H
  exact H.dr
 ·rw [af] at hc
  obtain rfl:j=L.length:=by omega
  rw [ao] at H hBl
  refine ⟨_,_,_,(H.b1.at0 rfl),?_⟩
  refine ⟨fun h=>by rw [ah] at h;omega,fun _=>?_⟩
  refine ⟨by omega,by omega,?_⟩
  replace H:=H.drew;generalize w.drew=w at H ⊢
  refine ⟨_,_,_,(H.b1.at0 rfl),?_⟩
  rw [au]
  refine sCpV H (hr _ hxs) (fun h0=>by rw [cutW (b:=g) (l:=24+24*L.length) (q:=28+24*L.length) (by omega) (by omega),hBl]) (by omega) (by omega) ?_
  clear H;intro w _ H
  refine call_j (c147 (x:=x) (xn:=xn) (xk:=xk) H (mt ms) rfl rfl (hr _ hl) (by omega) hx4 (by omega)) ?_
  clear H;rintro _ w ⟨rfl,H⟩
  refine ⟨_,_,_,_,rfl,?_⟩
  refine call_j (hdrM H (by omega) (by decide) (by omega)) ?_
  clear H;rintro _ w ⟨g2,rfl,H⟩
  refine ⟨_,_,_,_,rfl,?_⟩
  refine ⟨by simp [isIf],?_⟩
  refine fF ?_
  rw [hP,show N - 28 - 24*L.length - xs.length=0 by omega] at H
  have H1:Sat F w (.blk g 5 (u8s (wz ([0,0,0,0]++(b32 s++b64 tn++b32 tr++b32 pk++b32 oc++L.flatMap wRep++xs)) 0))::.blk b1 194 [.int .u32 s,.int .u64 tn,.int .u32 tr,.int .u32 pk,.int .u32 oc,.slice l L.length k,.slice x xn xk]::ex) (Ro.B (hdrB (L.length:Int) 200 (((28+24*L.length+xn) / 4 - 1:Nat):Int)) (some ⟨g2,0,none⟩) 4 4::ro'):=by simpa only [an] using H
  clear H;have H:=H1;clear H1
  refine sCpH H ms (by omega) ?_
  clear H;intro w H
  have e9:hdrB (L.length:Int) 200 (((28+24*L.length+xn) / 4 - 1:Nat):Int)++(b32 s++b64 tn++b32 tr++b32 pk++b32 oc++L.flatMap wRep++xs)=wrSR s tn tr pk oc L xs:=by unfold wrSR;rw [hxl]
  have l9:(wrSR s tn tr pk oc L xs).length=N:=by
   rw [<-e9,ae,ae,ae,flat_bd wRep_len,hxl,hN]
   have:(b32 s++b64 tn++b32 tr++b32 pk++b32 oc).length=24:=rfl
   have h4:(hdrB (L.length:Int) 200 (((28+24*L.length+xn) / 4 - 1:Nat):Int)).length=4:=rfl
   omega
  rw [e9] at H
  exact MPost.blk H (sc1) (fun r h=>mt (hr r h)) l9.symm (by unfold maxLen;omega)
theorem c155 {xn xk:Nat} {L:List Rep} {x:Option Addr} (H:Sat F w ex ro) (hb:Ex.blk b T cells∈ex) (h5:cells[1]?=some (.slice l L.length k)) (h6:cells[2]?=some (.slice x xn xk))
  (hl:Ro.deep [.row 7 (L.flatMap Rep.dat)] [.slice l L.length k]∈ro) (hn:L.length<=100000) (hx:xn<=10000000) (hx4:xn % 4=0) :
  Calls pg 155 #[.pointer (some ⟨b,0,none⟩)] w fun en w'=>en=.returned (.int .i64 ((8+24*L.length+xn:Nat):Int))/\Sat F w' ex ro:=by
 apply of155
 refine ⟨_,rfl,?_⟩
 refine ⟨_,_,_,(H.bm hb).cell h5,?_⟩
 refine ⟨fun a i q w=>∃j:Nat,a=((24*j:Nat):Int)/\i=(j:Int)/\j+q=L.length/\Sat F w ex ro,⟨L.length,0,rfl,rfl,by omega,H⟩,?_⟩
 clear H;rintro dd a i q w ⟨j,rfl,rfl,hjq,H⟩
 refine ⟨fun hc=>?_,fun hc=>?_⟩
 ·rw [ah] at hc
  have hjl:j < L.length:=by omega
  obtain ⟨p,us,e,hus,hcell,H1⟩:=H.eltF Rep.dat_len' (by decide) hl (j:=j) hjl
  generalize L[j]=D at H1
  obtain ⟨d0,d1,d2,d3,d4,d5,d6⟩:=D
  obtain rfl:=H1.ones (us:=[.int .u32 d0,.int .u8 d1,.int .u32 d2,.int .u32 d3,.int .u32 d4,.int .u32 d5,.int .u32 d6]) ms
  clear H1
  refine ⟨p,e,by omega,by omega,?_⟩
  refine ⟨_,_,_,_,_,_,_,LdC [.int .u32 d0,.int .u8 d1,.int .u32 d2,.int .u32 d3,.int .u32 d4,.int .u32 d5,.int .u32 d6] (by kernel_rfl) (by rw [show (j:Int).toNat*7=j*7 by omega];exact hcell),?_⟩
  clear hcell
  refine sNew H ?_;clear H;intro b19 w _ H
  refine sSw0 H (h:=?_);clear H;intro w _ H
  refine call_j c148 ?_
  rintro _ w' ⟨rfl,rfl⟩
  refine ⟨_,rfl,?_⟩
  refine ⟨q - 1,by omega,j+1,?_,?_,by omega,H.d1⟩
  ·rw [wi64_of (by omega) (by omega)];omega
  ·rw [wi64_of (by omega) (by omega)];simp
 ·rw [af] at hc
  obtain rfl:j=L.length:=by omega
  refine ⟨_,rfl,?_⟩
  refine ⟨_,_,_,(H.bm hb).cell h6,?_⟩
  refine call_j (pad0 hx4) ?_
  rintro _ w ⟨rfl,g⟩
  refine ⟨_,rfl,?_⟩
  refine ⟨?_,H.grow g⟩
  rw [wi64_of (n:=8+((24*L.length:Nat):Int)) (by omega) (by omega),wi64_of (n:=8+((24*L.length:Nat):Int)+(xn:Int)) (by omega) (by omega),wi64_of (by omega) (by omega)]
  congr 2<;>omega
theorem c157 {xn xk:Nat} {L:List Rep} {x:Option Addr} (H:Sat F w ex ro) (hb:Ex.blk b T cells∈ex) (h5:cells[1]?=some (.slice l L.length k)) (h6:cells[2]?=some (.slice x xn xk))
  (hl:Ro.deep [.row 7 (L.flatMap Rep.dat)] [.slice l L.length k]∈ro) (hn:L.length<=31) (hx4:xn % 4=0) (hx:8+24*L.length+xn<=262144) :
  Calls pg 157 #[.pointer (some ⟨b,0,none⟩)] w fun en w'=>en=.returned (.agg #[.bool false,.int .u8 (L.length:Int),.int .u8 201,.int .u16 (((8+24*L.length+xn) / 4 - 1:Nat):Int)])/\Sat F w' ex ro:=by
 apply of157
 refine sNew H ?_;clear H;intro b9 w _ H
 refine ⟨none,?_⟩
 replace H:=H.drew
 generalize w.drew=wd at H ⊢
 obtain ⟨ex2,S,back,hmem⟩:=Sat.still3 (E0:=[]) H none (by simp [foots])
 replace S:Sat _ _ ex2 ro:=S
 have hb9:=hmem b9 _ _ ms
 have hb1:=hmem b _ _ (mt hb)
 refine ⟨_,rfl,aC _,⟨_,_,_,(S.bm hb1).eq⟩,?_⟩
 refine ⟨_,_,_,(S.bm hb1).cell h5,?_⟩
 refine call_j (c155 S hb1 h5 h6 hl (by omega) (by omega) hx4) ?_
 rintro _ w ⟨rfl,S⟩
 obtain ⟨g,H1⟩:=back [] w ro S
 clear H S hb9 hb1 hmem back
 have H:Sat F w (.blk b9 109 _::ex) ro:=H1
 clear H1
 refine ⟨_,rfl,?_⟩
 refine ⟨g,?_⟩
 refine ⟨by decide,?_⟩
 rw [aY (by omega),wi64_of (n:=((8+24*L.length+xn:Nat):Int) / 4) (by omega) (by omega),wi64_of (n:=((8+24*L.length+xn:Nat):Int) / 4 - 1) (by omega) (by omega),wu16,wu8,show (L.length:Int) % 256=L.length by omega,
  show (((8+24*L.length+xn:Nat):Int) / 4 - 1) % 65536=(((8+24*L.length+xn) / 4 - 1:Nat):Int) by omega]
 refine sSw0 H (h:=?_);clear H;intro w _ H
 refine ⟨_,_,_,_,H.b0.ld,?_⟩
 exact ⟨rfl,H.d1⟩
def wrRR (s:Int) (L:List Rep) (xs:List Int):List Int:=hdrB (L.length:Int) 201 (((8+24*L.length+xs.length) / 4 - 1:Nat):Int)++(b32 s++L.flatMap wRep++xs)
theorem c154 {xn xk:Nat} {L:List Rep} {x:Option Addr} (H:Sat F w ex ro) (hs:u32R s)
  (hl:Ro.deep [.row 7 (L.flatMap Rep.dat)] [.slice l L.length k]∈ro) (hxs:Ro.B xs x xn xk∈ro) (hn:L.length<=31) (hx4:xn % 4=0) (hx:8+24*L.length+xn<=262144) (hR:∀y∈L,RepR y) :
  Calls pg 154 #[.agg #[.int .u32 s,.slice l L.length k,.slice x xn xk]] w (MPost F ex ro (wrRR s L xs)):=by
 apply of154
 have hxl:=H.lenB hxs
 refine sNew H ?_;clear H;intro b1 w _ H
 refine call_j (c155 (x:=x) (xn:=xn) (xk:=xk) H ms rfl rfl hl (by omega) (by omega) hx4) ?_
 clear H;rintro _ w ⟨rfl,H⟩
 refine ⟨_,rfl,?_⟩
 obtain ⟨N,hN⟩:∃N,N=8+24*L.length+xn:=⟨_,rfl⟩
 rw [<-hN]
 refine sMk H (e:=5) (z:=.int .u8 0) (bytes:=1) (by kernel_rfl) (by kernel_rfl) (by rfl) (by unfold maxLen;omega) (by omega) (n:=N) (by rfl) (by rfl) ?_
 clear H;intro g w _ H
 rw [u8s_z,wz_start (by omega)] at H
 refine ⟨by omega,by omega,?_⟩
 refine ⟨_,(H.b1.at0 rfl),?_⟩
 rw [cutW (b:=g) (o:=0) (l:=4) (q:=4) (by omega) rfl]
 refine call_j (put32 H (by rfl) hs (by omega) (by omega)) ?_
 clear H;rintro _ w ⟨rfl,H⟩
 refine ⟨rfl,?_⟩
 obtain ⟨P,hP⟩:∃P,P=[0,0,0,0]++(b32 s):=⟨_,rfl⟩
 have hPl:P.length=8:=by rw [hP];rfl
 replace H:Sat F w (.blk g 5 (u8s (wz P (N - 8)))::.blk b1 197 [.int .u32 s,.slice l L.length k,.slice x xn xk]::ex) ro:=by
  rw [hP]
  have e:N - 4 - 4=N - 8:=by omega
  rw [<-e]
  simpa only [an] using H
 refine ⟨_,_,_,(H.b1.at0 rfl),?_⟩
 refine ⟨fun i q w=>∃j:Nat,i=(j:Int)/\j+q=L.length/\∃ro',(∀r∈ro,r∈ro')/\Sat F w (.blk g 5 (u8s (wz (P++(L.take j).flatMap wRep) (N - 8 - 24*j)))::.blk b1 197 [.int .u32 s,.slice l L.length k,.slice x xn xk]::ex) ro',⟨L.length,0,rfl,by omega,ro,fun _ h=>h,by simpa using H⟩,?_⟩
 clear H;rintro dd i q w ⟨j,rfl,hjq,ro',hr,H⟩
 have hBl:(P++(L.take j).flatMap wRep).length=8+24*j:=by
  rw [ae,hPl,flat_bd wRep_len,bq]
  omega
 refine ⟨fun hc=>?_,fun hc=>?_⟩
 ·rw [ah] at hc
  have hjl:j < L.length:=by omega
  have htk:L.take (j+1)=L.take j++[L[j]]:=by rw [am,ai hjl];rfl
  have hRj:=hR L[j] (ax hjl)
  obtain ⟨p,us,e,hus,hcell,H1⟩:=H.eltF Rep.dat_len' (by decide) (hr _ hl) (j:=j) hjl
  generalize L[j]=D at H1 htk hRj
  obtain ⟨d0,d1,d2,d3,d4,d5,d6⟩:=D
  obtain rfl:=H1.ones (us:=[.int .u32 d0,.int .u8 d1,.int .u32 d2,.int .u32 d3,.int .u32 d4,.int .u32 d5,.int .u32 d6]) ms
  clear H1
  refine ⟨p,e,by omega,by omega,?_⟩
  refine ⟨_,_,_,_,_,_,_,LdC [.int .u32 d0,.int .u8 d1,.int .u32 d2,.int .u32 d3,.int .u32 d4,.int .u32 d5,.int .u32 d6] (by kernel_rfl) (by rw [show (j:Int).toNat*7=j*7 by omega];exact hcell),?_⟩
  clear hcell
  refine sNew H ?_;clear H;intro b34 w _ H
  refine sSw0 H (h:=?_);clear H;intro w _ H
  refine ⟨_,_,_,_,_,_,_,H.b0.ld,?_⟩
  refine call_j (c146 H hRj) ?_
  clear H;rintro _ w ⟨da,dcz,ro2,rfl,hr2,H,hd⟩
  refine ⟨_,_,_,_,rfl,?_⟩
  refine ⟨by simp [isIf],?_⟩
  refine fF ?_
  rw [wi64_of (n:=24*(j:Int)) (by omega) (by omega),wi64_of (n:=4+24*(j:Int)) (by omega) (by omega),show (4+24*(j:Int)).toNat=4+24*j by omega]
  refine ⟨by omega,by omega,?_⟩
  rw [cutW (b:=g) (l:=4+24*j) (q:=8+24*j) (by omega) (by omega)]
  refine sCpW H.r1 hd (by rw [wRep_len];decide) hBl.symm (by rw [wRep_len];omega) (by rw [wRep_len];omega) ?_
  clear H;intro w _ H
  refine ⟨q - 1,by omega,j+1,by rw [wi64_of (by omega) (by omega)];simp,by omega,ro2,fun r h=>hr2 r (hr r h),?_⟩
  rw [htk,aj]
  simp only [fm1,fm2,fm3]
  rw [wRep_len,an,show N - 8 - 24*j - 24=N - 8 - 24*(j+1) by omega] at H
  exact H.dr
 ·rw [af] at hc
  obtain rfl:j=L.length:=by omega
  rw [ao] at H hBl
  refine ⟨_,_,_,(H.b1.at0 rfl),?_⟩
  refine ⟨fun h=>by rw [ah] at h;omega,fun _=>?_⟩
  refine ⟨some g,?_⟩;replace H:=H.drew;generalize w.drew=wd2 at H ⊢;have K:=grew_refl wd2 (some g)
  have hne:b1≠g:=by
   have:=H.nd
   simp only [foots,Ex.foot,av,bX,bI,List.nodup_cons,aI,not_or] at this
   exact fun e=>this.1.1 e.symm
  refine ⟨fun e=>by injection e with e;exact hne e,H.b1.row,?_⟩
  refine ⟨_,_,_,(H.b1.at0 rfl),?_⟩
  rw [wi64_of (n:=24*(L.length:Int)) (by omega) (by omega),wi64_of (n:=4+24*(L.length:Int)) (by omega) (by omega),show (4+24*(L.length:Int)).toNat=4+24*L.length by omega]
  refine ⟨by omega,by omega,?_⟩
  refine ⟨fun e=>by injection e with e;exact hne e,H.b1.row,?_⟩
  refine ⟨_,_,_,(H.b1.at0 rfl),?_⟩
  refine sCpV H (hr _ hxs) (fun h0=>by rw [cutW (b:=g) (l:=4+24*L.length) (q:=8+24*L.length) (by omega) (by omega),hBl]) (by omega) (by omega) ?_
  clear H;intro w g H
  replace K:=gtr K g;clear g
  refine ⟨K,?_⟩
  clear K
  refine call_j (c157 (x:=x) (xn:=xn) (xk:=xk) H (mt ms) rfl rfl (hr _ hl) (by omega) hx4 (by omega)) ?_
  clear H;rintro _ w ⟨rfl,H⟩
  refine ⟨_,_,_,_,rfl,?_⟩
  refine call_j (hdrM H (by omega) (by decide) (by omega)) ?_
  clear H;rintro _ w ⟨g2,rfl,H⟩
  refine ⟨_,_,_,_,rfl,?_⟩
  refine ⟨by simp [isIf],?_⟩
  refine fF ?_
  rw [hP,show N - 8 - 24*L.length - xs.length=0 by omega] at H
  have H1:Sat F w (.blk g 5 (u8s (wz ([0,0,0,0]++(b32 s++L.flatMap wRep++xs)) 0))::.blk b1 197 [.int .u32 s,.slice l L.length k,.slice x xn xk]::ex) (Ro.B (hdrB (L.length:Int) 201 (((8+24*L.length+xn) / 4 - 1:Nat):Int)) (some ⟨g2,0,none⟩) 4 4::ro'):=by simpa only [an] using H
  clear H;have H:=H1;clear H1
  refine sCpH H ms (by omega) ?_
  clear H;intro w H
  have e9:hdrB (L.length:Int) 201 (((8+24*L.length+xn) / 4 - 1:Nat):Int)++(b32 s++L.flatMap wRep++xs)=wrRR s L xs:=by unfold wrRR;rw [hxl]
  have l9:(wrRR s L xs).length=N:=by
   rw [<-e9,ae,ae,ae,flat_bd wRep_len,hxl,hN]
   have:(b32 s).length=4:=rfl
   have h4:(hdrB (L.length:Int) 201 (((8+24*L.length+xn) / 4 - 1:Nat):Int)).length=4:=rfl
   omega
  rw [e9] at H
  exact MPost.blk H (sc1) (fun r h=>mt (hr r h)) l9.symm (by unfold maxLen;omega)
theorem zeroC_list (k:Nat):(Builtin.zeroCells #[Value.int .u8 0] k)=(List.replicate k (Value.int .u8 0)).toArray:=by
 apply Array.ext
 ·simp [Builtin.zeroCells]
 ·intro i h1 h2
  simp [Builtin.zeroCells,Nat.mod_one]
theorem u8Info:∃i,pg.info? 5=some i/\i.zero=some (.int .u8 0)/\i.size=1/\i.bytes=1:=by
 obtain ⟨_,i,z,hi,hz,hs,hb,_⟩:=apT_spec (show apT pg 22 5 1 1=true by kernel_rfl)
 have h0:(pg.info? 5).bind (·.zero)=some (Value.int .u8 0):=by kernel_rfl
 rw [hi] at h0
 exact ⟨i,hi,h0,hs,hb⟩
theorem uInt:pg.underlying 3=some (.int .i64):=by kernel_rfl
theorem appZ_room {sLen sCap:Nat} {cur:Array Value} (hg:w.heap[g]?=some (.cells cur 5 (0,0))) (hroom:sLen+k<=sCap) (hfit:sLen+k<=cur.size) (hk0:k≠0) (hk:k<=3) :
  (Builtin.append_ #[22,3] ty #[.slice (some ⟨g,0,none⟩) sLen sCap,.int .i64 k]).run pg w =
   .ok (.slice (some ⟨g,0,none⟩) (sLen+k) sCap) (w.setRow g (cur.toList.take sLen++List.replicate k (Value.int .u8 0)++cur.toList.drop (sLen+k)).toArray):=by
 obtain ⟨i,hi,hz,hs,hb⟩:=u8Info
 have hst:=run_storeCells_at pg g sLen 5 (List.replicate k (Value.int .u8 0)) 0 cur w hg (by simpa using hfit) (fun u hu=>by rw [List.eq_of_mem_replicate hu];rfl)
 simp only [Nat.add_zero,bi] at hst
 have hw:i64.wrap (k:Int)=k:=wi64_of (by omega) (by omega)
 have hneg:¬((k:Int) < 0):=by omega
 have h48:¬(281474976710656 < (k:Int)):=by omega
 simp [Builtin.append_,aH uSl,aH uInt,sizeOf,typeInfo,zeroValue,hi,hz,hs,hb,asInt,asIntOf,hw,hneg,h48,hk0,hroom,Addr.add_lit,Value.cells,zeroC_list,hst]
theorem appZ_0 (h:n<=c):(Builtin.append_ #[22,3] ty #[.slice a n c,.int .i64 ((0:Nat):Int)]).run pg w=.ok (.slice a n c) w:=by
 obtain ⟨i,hi,hz,hs,hb⟩:=u8Info
 have hw:i64.wrap 0=0:=wi64_of (by omega) (by omega)
 cases a<;>simp [Builtin.append_,aH uSl,aH uInt,sizeOf,typeInfo,zeroValue,hi,hz,hs,hb,asInt,asIntOf,hw,h,storeCells]
theorem appZ_grow {sLen sCap:Nat} {olds:List Value} (hlo:olds.length=sLen) (holds:∀j v,olds[j]?=some v->w.cell? ((⟨g,0,none⟩:Addr).add j)=some v)
  (hg:sCap < sLen+k) (h63:sLen+k<=100000000) (hk0:k≠0) (hk:k<=3) (hfit:Builtin.nextslicecap (sLen+k) sCap*1<=281474976710656) :
  (Builtin.append_ #[22,3] ty #[.slice (some ⟨g,0,none⟩) sLen sCap,.int .i64 k]).run pg w =
   .ok (.slice (some ⟨w.heap.size,0,none⟩) (sLen+k) (grownCap w (sLen+k) sCap 5))
    (w.drew.alloc (.cells (olds.toArray++(List.replicate k (Value.int .u8 0)).toArray++Builtin.zeroCells #[Value.int .u8 0] (grownCap w (sLen+k) sCap 5 - (sLen+k))) 5)):=by
 obtain ⟨i,hi,hz,hs,hb⟩:=u8Info
 have hw:i64.wrap (k:Int)=k:=wi64_of (by omega) (by omega)
 have hneg:¬((k:Int) < 0):=by omega
 have h48:¬(281474976710656 < (k:Int)):=by omega
 have hn:¬(sLen+k<=sCap):=by omega
 have h63':¬(9223372036854775807 < ((sLen:Int)+(k:Int))):=by omega
 have h48':¬(281474976710656 < Builtin.nextslicecap (sLen+k) sCap):=by omega
 have hfo:=run_firstCells_some (P:=pg) w.drew 1 sLen ⟨g,0,none⟩ sLen sCap olds (by omega) (by simpa using holds)
 simp [Builtin.append_,aH uSl,aH uInt,sizeOf,typeInfo,zeroValue,hi,hz,hs,hb,asInt,asIntOf,hw,hneg,h48,hk0,hn,h63',h48',Question.forced,hfo,newRow,grownCap,Value.cells,zeroC_list]
theorem sAppZ (H:Sat F w (.own 5 1 a n c r (ob A)::ex) ro) (h0:0 < n) (hk:k<=3) (hn:n<=10000000)
  (hK:∀a' c' r' w',Sat F w' (.own 5 1 a' (n+k) c' r' (ob (A++List.replicate k 0))::ex) ro->K a' (n+k) c' w') :
  ∃a' n' c',∃w',(Builtin.append_ #[22,3] ty #[.slice a n c,.int .i64 k]).run pg w=.ok (.slice a' n' c') w'/\K a' n' c' w':=by
 obtain ⟨xs,ho,hxs⟩:=H.he (.own 5 1 a n c r (ob A)) (by simp)
 have hlen0:=ho.own.1
 have hdl:DeepL w (fun b=>b ∉ foots (.own 5 1 a n c r (ob A)::ex)) (ob (List.replicate k 0)) (List.replicate k (Value.int .u8 0)):=by
  have e:ob (List.replicate k 0)=(List.replicate k (Value.int .u8 0)).map .one:=by simp [ob]
  rw [e];exact DeepL.ones _
 have fin:∀(a':Option Addr) (c':Nat) (r':Option Nat) (w':World),w.grownBy w' r->OS w' 0 5 1 a' (n+k) c' r' (xs++List.replicate k (Value.int .u8 0))->(r'=r\/r'=some w.heap.size)->K a' (n+k) c' w':=by
  intro a' c' r' w' hg ho' hr
  refine hK a' c' r' w' ?_
  rw [ob_append]
  exact H.owned hxs hdl hg ho' (hr.imp id fun h=>⟨_,h,aN _⟩)
 have hlen:(xs++List.replicate k (Value.int .u8 0)).length=(n+k)*1:=by rw [ae,hlen0,bi];omega
 rcases ho.own.2 with ⟨hv,h1⟩ | ⟨g,cap,cur,hv,hbg,hg,hnc,hcm,hcs,htake⟩
 ·omega
 ·have hvb:=ho.blk
  rw [hv] at hvb
  simp only [bN] at hv
  obtain ⟨rfl,_,rfl⟩:=hv
  have hr:r=some g:=by simpa [Value.ownBlock] using hvb
  by_cases hk0:k=0
  ·subst hk0
   refine ⟨_,_,_,_,appZ_0 (by omega),?_⟩
   have:=hK (some ⟨g,0,none⟩) c r w (by simpa using H)
   simpa using this
  by_cases hroom:n+k<=c
  ·have hrun:=appZ_room (ty:=ty) hg hroom (by rw [hcs];omega) hk0 hk
   refine ⟨_,_,_,_,hrun,fin _ _ r _ ⟨rfl,rfl,rfl,by simp [World.setRow],fun j _ hj=>setRow_other w g j _ (fun e=>hj (by rw [hr,e]))⟩ ⟨⟨hlen,.inr ⟨g,c,_,rfl,hbg,setRow_heap w g cur _ 5 _ hg,hroom,hcm,?_,?_⟩⟩,?_⟩ (.inl rfl)⟩
   ·simp only [List.size_toArray,ae,bq,az,bD,bi]
    omega
   ·rw [bd] at htake ⊢
    rw [htake,show n+k=(xs++List.replicate k (Value.int .u8 0)).length by omega]
    exact List.take_left
   ·rw [hr];rfl
  ·have holds:∀j u,xs[j]?=some u->w.cell? ((⟨g,0,none⟩:Addr).add j)=some u:=ho.own.cells (g:=g) rfl
   have hfits:Builtin.nextslicecap (n+k) c*1<=281474976710656:=growslice_fits (by omega) (by omega)
   have hrun:=appZ_grow (ty:=ty) (olds:=xs) (by omega) holds (by omega) (by omega) hk0 hk hfits
   have hge:=grownCap_ge w (n+k) c 5
   have hcm2:grownCap w (n+k) c 5<=maxLen:=grownCap_le_maxLen w (n+k) c 5 (by unfold maxLen;omega)
   refine ⟨_,_,_,_,hrun,fin _ _ (some w.heap.size) _ ⟨rfl,rfl,rfl,by simp,fun j hj _=>heap_alloc_old w.drew _ hj⟩ ⟨⟨hlen,.inr ⟨w.heap.size,_,_,rfl,bE _,heap_alloc_new w.drew _,hge,hcm2,?_,?_⟩⟩,rfl⟩ (.inr rfl)⟩
   ·simp only [Array.size_append,List.size_toArray,size_zeroCells,hlen0,bi]
    simp
    omega
   ·simp only [Array.toList_append,an]
    rw [<-an,<-hlen]
    exact List.take_left
theorem app00 {s:Option Addr} (h:n<=c):(Builtin.append_ #[22,22] ty #[.slice a n c,.slice s 0 k]).run pg w=.ok (.slice a n c) w:=by
 obtain ⟨i,hi,hz,hs,hb⟩:=u8Info
 cases s<;>cases a<;>simp [Builtin.append_,aH uSl,sizeOf,typeInfo,zeroValue,hi,hz,hs,hb,h,Builtin.lenOf,Builtin.firstCells,loadCells,loadCellsFrom,storeCells]
theorem sAppV {D:List Int} {s:Option Addr} {sn sc:Nat} (H:Sat F w (.own 5 1 a n c r (ob A)::ex) ro) (hD:Ro.B D s sn sc∈ro) (hs:n+sn<=100000000)
  (hK:∀a' n' c' r' w',n'=n+sn->w.grownBy w' r->Sat F w' (.own 5 1 a' n' c' r' (ob (A++D))::ex) ro->K a' n' c' w') :
  ∃a' n' c',∃w',(Builtin.append_ #[22,22] ty #[.slice a n c,.slice s sn sc]).run pg w=.ok (.slice a' n' c') w'/\K a' n' c' w':=by
 rcases bL sn with h0 | h0
 ·subst h0
  obtain rfl:D=[]:=aF (H.lenB hD)
  obtain ⟨xs,ho,_⟩:=H.he (.own 5 1 a n c r (ob A)) (by simp)
  have hnc:n<=c:=by
   rcases ho.own.2 with ⟨hv,h1⟩ | ⟨g,cap,cur,hv,_,_,hnc,_⟩
   ·omega
   ·simp only [bN] at hv
    obtain ⟨_,_,rfl⟩:=hv
    exact hnc
  exact ⟨_,_,_,_,app00 hnc,hK a n c r w rfl (grew_refl _ _) (by simpa using H)⟩
 ·exact sAppR H hD h0 hs hK
theorem sbs_get {s:ByteArray} (h:(sbs s)[i]?=some x):(s.data.map (fun b=>Value.int .u8 b.toNat))[i]?=some (.int .u8 x):=by
 unfold sbs at h
 rw [aW] at h
 rw [Array.getElem?_map,<-bH]
 cases hi:s.data.toList[i]? with
 | none=>rw [hi] at h;cases h
 | some b=>rw [hi] at h;cases h;rfl
theorem sToB (H:Sat F w ex ro) (s:ByteArray) (hs:s.size<=1000000)
  (hK:∀a c w',w.grownBy w' none->Sat F w' ex (Ro.B (sbs s) a s.size c::ro)->K a s.size c w') :
  ∃a n c,∃w',(convert 9 22 (.string s)).run pg w=.ok (.slice a n c) w'/\K a n c w':=by
 have hg:=gtr (grew_drew w none) (World.grownBy_alloc w.drew (.cells (bytesRow s (grownCap w s.size 0 5)) 5 ((bytesRow s (grownCap w s.size 0 5)).size,(bytesRow s (grownCap w s.size 0 5)).size+1)) none)
 refine ⟨_,_,_,_,run_bytes_of_string w 9 22 5 s uStr uSl uU8,hK _ _ _ hg ?_⟩
 have hge:=grownCap_ge w s.size 0 5
 have hcm:=grownCap_le_maxLen w s.size 0 5 (by unfold maxLen;omega)
 have H1:=H.grow hg
 refine H1.addRo (dc ?_ dn)
 have e:ob (sbs s)=((sbs s).map (Value.int .u8)).map .one:=by simp [ob]
 have hl:(sbs s).length=s.size:=sbs_len s
 refine .row 1 w.heap.size 0 s.size _ _ ((sbs s).map (Value.int .u8)) hge hcm (by simp) (fun h=>?_) (by rw [ob_length,hl,bd]) (by rw [List.length_map,ob_length]) (fun i v hv=>?_) (by rw [e];exact (DeepL.ones _).2)
 ·have:=(H.lt _ h).1
  omega
 ·rw [aW] at hv
  cases hx:(sbs s)[i]? with
  | none=>rw [hx] at hv;cases hv
  | some x=>
   rw [hx] at hv
   cases hv
   have h2:=sbs_get hx
   have hi:i < s.data.size:=by
    have:=(cm.1 hx).1
    rw [hl] at this
    exact this
   have h3:(bytesRow s (grownCap w s.size 0 5))[i]?=some (.int .u8 x):=by
    unfold bytesRow
    rw [Array.getElem?_append_left (by simpa using hi)]
    exact h2
   have hb:(w.drew.alloc (.cells (bytesRow s (grownCap w s.size 0 5)) 5 ((bytesRow s (grownCap w s.size 0 5)).size,(bytesRow s (grownCap w s.size 0 5)).size+1))).heap[w.heap.size]?=some (.cells (bytesRow s (grownCap w s.size 0 5)) 5 ((bytesRow s (grownCap w s.size 0 5)).size,(bytesRow s (grownCap w s.size 0 5)).size+1)):=heap_alloc_new w.drew _
   unfold World.cell?
   simp only
   rw [hb]
   simpa using h3
def wItm:Itm->List Int
 | (t,s)=>[t,(s.size:Int)]++sbs s
theorem wItm_len (x:Itm):(wItm x).length=2+x.2.size:=by
 obtain ⟨t,s⟩:=x
 simp only [wItm,ae,sbs_len,aA,ay]
theorem c166 (H:Sat F w ex ro) {t:Int} {s:ByteArray} (ht:t≠0) (hs:s.size<=255) :
  Calls pg 166 #[.agg #[.int .u8 t,.string s]] w (MPost F ex ro (wItm (t,s))):=by
 apply of166
 refine sNew H ?_;clear H;intro b1 w _ H
 refine ⟨_,(H.b0.at0 rfl),?_⟩
 refine ⟨fun h=>absurd (by simpa using h) ht,fun _=>?_⟩
 refine sMk H (e:=5) (z:=.int .u8 0) (bytes:=1) (by kernel_rfl) (by kernel_rfl) (by rfl) (by unfold maxLen;omega) (by omega) (n:=2) (by rfl) (by rfl) ?_
 clear H;intro g w _ H
 rw [u8s_z] at H
 replace H:Sat F w (.blk g 5 (u8s (wz [] 2))::.blk b1 258 [.int .u8 t,.string s]::ex) ro:=H
 refine ⟨_,(H.b1.at0 rfl),?_⟩
 refine ⟨_,rfl,by omega,by omega,?_⟩
 refine sStW H (by rfl) (by decide) ?_
 clear H;intro w H
 refine ⟨_,(H.b1.at0 rfl),?_⟩
 refine sToB H s (by omega) ?_
 clear H;intro ba bc w _ H
 refine ⟨fun h=>by rw [ah] at h;omega,fun _=>?_⟩
 refine ⟨_,rfl,by omega,by omega,?_⟩
 rw [wu8,show ((s.size:Nat):Int) % 256=s.size by omega]
 refine sStW H (by rfl) (by decide) ?_
 clear H;intro w H
 have H1:=H.toOwn 1 2 (ob [t,(s.size:Int)]) (by rfl) (by decide) (fun G h=>DeepL.ones [_,_])
 clear H
 refine sAppV H1 ms (by omega) ?_
 clear H1;intro a2 n2 c2 r2 w hn2 _ H
 exact MPost.own H (sc1) (fun r h=>mt h) (by rw [hn2,wItm_len])
theorem padG (hn:n<=10000000):Calls pg 149 #[.int .i64 (n:Int)] w fun en w'=>en=.returned (.int .i64 ((pad4 n:Nat):Int))/\w'=w:=by
 apply of149
 refine ⟨by decide,?_⟩
 have ht:((n:Nat):Int).tmod 4=((n % 4:Nat):Int):=by rw [bz (by omega)];omega
 rw [ht]
 refine ⟨fun h=>?_,fun h=>⟨by decide,?_⟩⟩
 ·have h:((n % 4:Nat):Int)=0:=by simpa using h
  refine ⟨?_,rfl⟩
  have:pad4 n=0:=by unfold pad4;omega
  rw [this];rfl
 ·have h:¬((n % 4:Nat):Int)=0:=by simpa using h
  refine ⟨?_,rfl⟩
  rw [wi64_of (by omega) (by omega)]
  congr 2
  unfold pad4
  omega
def wChk:Chk->List Int
 | (s,l)=>(b32 s++l.flatMap wItm++[0])++List.replicate (pad4 (b32 s++l.flatMap wItm++[0]).length) 0
theorem wItm_it:∀l:List Itm,(l.flatMap wItm).length=itLen l
 | []=>rfl
 | x::r=>by
  have:=wItm_it r
  simp only [itLen] at this ⊢
  rw [av,ae,wItm_len,this]
  simp only [aX,bP]
theorem wChk_len (x:Chk):(wChk x).length=up4 (4+itLen x.2+1):=by
 obtain ⟨s,l⟩:=x
 simp only [wChk,ae,b32_len,wItm_it,bi,aA,ay]
 unfold pad4 up4
 omega
def ItmR (i:Itm):Prop:=i.1≠0/\i.2.size<=255
def ChkR (c:Chk):Prop:=u32R c.1/\∀i∈c.2,ItmR i
theorem c162 {l:List Itm} {o:Option Addr} {oc:Nat} (H:Sat F w ex ro) (hl:Ro.deep [.row 2 (l.flatMap Itm.dat)] [.slice o l.length oc]∈ro) (hR:ChkR (s,l)) (hn:itLen l<=1000000) (hln:l.length<=1000000) :
  Calls pg 162 #[.agg #[.int .u32 s,.slice o l.length oc]] w (MPost F ex ro (wChk (s,l))):=by
 apply of162
 obtain ⟨hs,hI⟩:u32R s/\∀i∈l,ItmR i:=hR
 refine sNew H ?_;clear H;intro b1 w _ H
 refine sMk H (e:=5) (z:=.int .u8 0) (bytes:=1) (by kernel_rfl) (by kernel_rfl) (by rfl) (by unfold maxLen;omega) (by omega) (n:=4) (by rfl) (by rfl) ?_
 clear H;intro g w _ H
 rw [u8s_z] at H
 replace H:Sat F w (.blk g 5 (u8s (wz [] 4))::.blk b1 255 [.int .u32 s,.slice o l.length oc]::ex) ro:=H
 refine ⟨_,(H.b1.at0 rfl),?_⟩
 refine call_j (put32 H (by rfl) hs (by decide) (by decide)) ?_
 clear H;rintro _ w ⟨rfl,H⟩
 refine ⟨rfl,?_⟩
 refine ⟨_,_,_,(H.b1.at0 rfl),?_⟩
 have H1:=H.toOwn 1 4 (ob (b32 s)) (by rfl) (by decide) (fun G h=>DeepL.ones [_,_,_,_])
 clear H
 have H:=H1
 clear H1
 refine ⟨fun a n c i q w=>∃(j:Nat) (r:Option Nat) (ro':List Ro),i=(j:Int)/\j+q=l.length/\n=4+itLen (l.take j)/\(∀r∈ro,r∈ro')/\Sat F w (.own 5 1 a n c r (ob (b32 s++(l.take j).flatMap wItm))::.blk b1 255 [.int .u32 s,.slice o l.length oc]::ex) ro',
  ⟨l.length,0,some g,ro,rfl,by omega,rfl,fun _ h=>h,by simpa using H⟩,?_⟩
 clear H;rintro dd a n c i q w ⟨j,r,ro',rfl,hjq,rfl,hr,H⟩
 have hpre:itLen (l.take j)<=itLen l:=by
  have h1:=wItm_it l
  have h2:=wItm_it (l.take j)
  have h3:(l.flatMap wItm).length=((l.take j).flatMap wItm).length+((l.drop j).flatMap wItm).length:=by
   rw [<-ae,<-aj,ck]
  omega
 refine ⟨fun hc=>?_,fun hc=>?_⟩
 ·rw [ah] at hc
  have hjl:j < l.length:=by omega
  have htk:l.take (j+1)=l.take j++[l[j]]:=by rw [am,ai hjl];rfl
  have hRj:=hI l[j] (ax hjl)
  obtain ⟨p,us,e,hus,hcell,H1⟩:=H.eltF Itm.dat_len (by decide) (hr _ hl) (j:=j) hjl
  generalize l[j]=E at H1 htk hRj
  obtain ⟨t,ss⟩:=E
  obtain ⟨ht,hss⟩:t≠0/\ss.size<=255:=hRj
  obtain rfl:=H1.ones (us:=[.int .u8 t,.string ss]) ms
  clear H1
  refine ⟨p,e,by omega,by omega,?_⟩
  refine ⟨_,_,LdC [.int .u8 t,.string ss] (by kernel_rfl) (by rw [show (j:Int).toNat*2=j*2 by omega];exact hcell),?_⟩
  clear hcell
  refine sNew H ?_;clear H;intro b19 w _ H
  refine sSw0 H (h:=?_);clear H;intro w _ H
  refine ⟨_,_,H.b0.ld,?_⟩
  refine call_j (c166 H ht hss) ?_
  clear H;rintro _ w ⟨da,dcz,ro2,rfl,hr2,H,hd⟩
  refine ⟨_,_,_,_,rfl,?_⟩
  refine ⟨by simp [isIf],?_⟩
  refine fF ?_
  have hil:(wItm (t,ss)).length=2+ss.size:=wItm_len _
  refine sAppV H.r1 hd (by omega) ?_
  clear H;intro a2 n2 c2 r2 w hn2 _ H
  refine ⟨q - 1,by omega,j+1,r2,ro2,by rw [wi64_of (by omega) (by omega)];simp,by omega,?_,fun r h=>hr2 r (hr r h),?_⟩
  ·rw [hn2,htk,hil]
   have h1:=wItm_it (l.take j++[(t,ss)])
   rw [aj,ae] at h1
   simp only [av,aD,aE,hil,wItm_it] at h1
   omega
  ·rw [htk,aj]
   simp only [fm1,fm2,fm3]
   rw [<-an]
   exact H.sub (List.Sublist.cons_cons _ (sc1)) (fun _ h=>h)
 ·rw [af] at hc
  obtain rfl:j=l.length:=by omega
  rw [ao] at H ⊢
  refine ⟨rfl,?_⟩
  refine sPush0 H (bytes:=1) (nds:=(ob [0])) (hD:=(fun G h=>DeepL.ones [_])) (hK:=?_)
  clear H;intro a2 n2 c2 r2 w hn2 _ H
  subst hn2
  rw [<-ob_append] at H
  refine call_j (padG (n:=4+itLen l+1) (by omega)) ?_
  rintro _ w' ⟨rfl,rfl⟩
  refine ⟨_,rfl,?_⟩
  refine sAppZ H (by omega) (by unfold pad4;omega) (by omega) ?_
  clear H;intro a3 c3 r3 w H
  have hB:(b32 s++l.flatMap wItm++[0]).length=4+itLen l+1:=by
   rw [ae,ae,b32_len,wItm_it];rfl
  have e9:(b32 s++l.flatMap wItm++[0])++List.replicate (pad4 (4+itLen l+1)) 0=wChk (s,l):=by
   show _=(b32 s++l.flatMap wItm++[0])++List.replicate (pad4 (b32 s++l.flatMap wItm++[0]).length) 0
   rw [hB]
  rw [e9] at H
  refine MPost.own H (sc1) (fun r h=>hr r h) ?_
  rw [<-e9,ae,hB,bi]
theorem flat_take {α:Type} {f:α->List Int} (L:List α) (j:Nat):((L.take j).flatMap f).length<=(L.flatMap f).length:=by
 have h:(L.flatMap f).length=((L.take j).flatMap f).length+((L.drop j).flatMap f).length:=by
  rw [<-ae,<-aj,ck]
 omega
theorem Sat.chk {L:List Chk} (H:Sat F w ex ro) (hl:Ro.deep [.row 2 (L.flatMap Chk.dat)] [.slice l L.length k]∈ro) (hj:j < L.length) {d0:Int} {msz:List Itm} (hE:L[j]=(d0,msz)) :
  ∃p sa sc,l=some p/\LdV pg 255 (p.add ((j:Int).toNat*2)) (.agg #[.int .u32 d0,.slice sa msz.length sc]) w/\Sat F w ex (.deep [.row 2 (msz.flatMap Itm.dat)] [.slice sa msz.length sc]::ro):=by
 obtain ⟨p,us,e,hus,hcell,H1⟩:=H.eltF Chk.dat_len' (by decide) hl (j:=j) hj
 rw [hE] at H1
 obtain ⟨x0,us0,rfl,H2⟩:=H1.uncons ms
 obtain ⟨x1,us1,rfl,H3⟩:=H2.uncons (mt ms)
 obtain rfl:us1=[]:=by simpa using hus
 obtain rfl:=H2.one1 ms
 obtain ⟨sa,sn,sc,rfl,hsl⟩:=H3.rowS ms
 rw [flat_len Itm.dat_len] at hsl
 obtain rfl:sn=msz.length:=by omega
 refine ⟨p,sa,sc,e,LdC [.int .u32 d0,.slice sa msz.length sc] (by kernel_rfl) (by rw [show (j:Int).toNat*2=j*2 by omega];exact hcell),?_⟩
 exact H3.sub (ak _) (fun r h=>by
  rcases aI.1 h with rfl | h
  ·exact ms
  ·simp [h])
theorem c160 {L:List Chk} (H:Sat F w ex ro) (hb:Ex.blk b T cells∈ex) (h0:cells[0]?=some (.slice l L.length k))
  (hl:Ro.deep [.row 2 (L.flatMap Chk.dat)] [.slice l L.length k]∈ro) (hn:L.length<=100000) (hN:(L.flatMap wChk).length<=500000) :
  Calls pg 160 #[.pointer (some ⟨b,0,none⟩)] w fun en w'=>en=.returned (.int .i64 ((4+(L.flatMap wChk).length:Nat):Int))/\Sat F w' ex ro:=by
 apply of160
 refine ⟨_,rfl,?_⟩
 refine ⟨_,_,_,(H.bm hb).cell h0,?_⟩
 refine ⟨fun a i q w=>∃(j:Nat),a=(((L.take j).flatMap wChk).length:Int)/\i=(j:Int)/\j+q=L.length/\Sat F w ex ro,⟨L.length,0,rfl,rfl,by omega,H⟩,?_⟩
 clear H;rintro dd a i q w ⟨j,rfl,rfl,hjq,H⟩
 refine ⟨fun hc=>?_,fun hc=>?_⟩
 ·rw [ah] at hc
  have hjl:j < L.length:=by omega
  have htk:L.take (j+1)=L.take j++[L[j]]:=by rw [am,ai hjl];rfl
  have hat:=flat_at (f:=wChk) hjl
  obtain ⟨⟨d0,msz⟩,hE⟩:∃E,L[j]=E:=⟨_,rfl⟩
  rw [hE] at htk hat
  have hwl:=wChk_len (d0,msz)
  have hup:itLen msz<=up4 (4+itLen msz+1):=by unfold up4;omega
  replace hwl:(wChk (d0,msz)).length=up4 (4+itLen msz+1):=hwl
  obtain ⟨p,sa,sc,e,hld,H1⟩:=H.chk hl hjl hE
  refine ⟨p,e,by omega,by omega,?_⟩
  refine ⟨_,_,_,_,hld,?_⟩
  clear H hld
  have H:=H1
  clear H1
  refine sNew H ?_;clear H;intro b14 w _ H
  refine sSw0 H (h:=?_);clear H;intro w _ H
  refine ⟨_,_,_,_,H.b0.ld,?_⟩
  refine call_j (c164 H ms (by omega)) ?_
  clear H;rintro _ w ⟨rfl,H⟩
  refine ⟨_,rfl,?_⟩
  refine ⟨q - 1,by omega,j+1,?_,?_,by omega,H.sub (sc1) (fun r h=>mt h)⟩
  ·rw [wi64_of (by omega) (by omega),htk,aj,ae]
   simp only [fm1,fm2,fm3]
   omega
  ·rw [wi64_of (by omega) (by omega)];simp
 ·rw [af] at hc
  obtain rfl:j=L.length:=by omega
  rw [ao]
  refine ⟨?_,H⟩
  rw [wi64_of (by omega) (by omega)]
  congr 2
theorem c163 {L:List Chk} (H:Sat F w ex ro) (hb:Ex.blk b T cells∈ex) (h0:cells[0]?=some (.slice l L.length k))
  (hl:Ro.deep [.row 2 (L.flatMap Chk.dat)] [.slice l L.length k]∈ro) (hn:L.length<=31) (hN:(L.flatMap wChk).length<=262140) :
  Calls pg 163 #[.pointer (some ⟨b,0,none⟩)] w fun en w'=>en=.returned (.agg #[.bool false,.int .u8 (L.length:Int),.int .u8 202,.int .u16 (((4+(L.flatMap wChk).length) / 4 - 1:Nat):Int)])/\Sat F w' ex ro:=by
 apply of163
 refine sNew H ?_;clear H;intro b9 w _ H
 refine ⟨none,?_⟩
 replace H:=H.drew
 generalize w.drew=wd at H ⊢
 obtain ⟨ex2,S,back,hmem⟩:=Sat.still3 (E0:=[]) H none (by simp [foots])
 replace S:Sat _ _ ex2 ro:=S
 have hb1:=hmem b _ _ (mt hb)
 refine ⟨_,rfl,aC _,⟨_,_,_,(S.bm hb1).eq⟩,?_⟩
 refine ⟨_,_,_,(S.bm hb1).cell h0,?_⟩
 refine call_j (c160 S hb1 h0 hl (by omega) (by omega)) ?_
 rintro _ w ⟨rfl,S⟩
 obtain ⟨g,H1⟩:=back [] w ro S
 clear H S hb1 hmem back
 have H:Sat F w (.blk b9 109 _::ex) ro:=H1
 clear H1
 refine ⟨_,rfl,?_⟩
 refine ⟨g,?_⟩
 refine ⟨by decide,?_⟩
 generalize (L.flatMap wChk).length=N at hN ⊢
 rw [aY (by omega),wi64_of (n:=((4+N:Nat):Int) / 4) (by omega) (by omega),wi64_of (n:=((4+N:Nat):Int) / 4 - 1) (by omega) (by omega),wu16,wu8,show (L.length:Int) % 256=L.length by omega,
  show (((4+N:Nat):Int) / 4 - 1) % 65536=(((4+N) / 4 - 1:Nat):Int) by omega]
 refine sSw0 H (h:=?_);clear H;intro w _ H
 refine ⟨_,_,_,_,H.b0.ld,?_⟩
 exact ⟨rfl,H.d1⟩
def wrSD (L:List Chk):List Int:=hdrB (L.length:Int) 202 (((4+(L.flatMap wChk).length) / 4 - 1:Nat):Int)++L.flatMap wChk
theorem c159 {L:List Chk} (H:Sat F w ex ro) (hl:Ro.deep [.row 2 (L.flatMap Chk.dat)] [.slice l L.length k]∈ro) (hn:L.length<=31) (hN:(L.flatMap wChk).length<=262140) (hR:∀y∈L,ChkR y) :
  Calls pg 159 #[.agg #[.slice l L.length k]] w (MPost F ex ro (wrSD L)):=by
 apply of159
 refine sNew H ?_;clear H;intro b1 w _ H
 refine call_j (c160 H ms rfl hl (by omega) (by omega)) ?_
 clear H;rintro _ w ⟨rfl,H⟩
 refine ⟨_,rfl,?_⟩
 obtain ⟨N,hNe⟩:∃N,N=4+(L.flatMap wChk).length:=⟨_,rfl⟩
 rw [<-hNe]
 refine sMk H (e:=5) (z:=.int .u8 0) (bytes:=1) (by kernel_rfl) (by kernel_rfl) (by rfl) (by unfold maxLen;omega) (by omega) (n:=N) (by rfl) (by rfl) ?_
 clear H;intro g w _ H
 rw [u8s_z,wz_start (by omega)] at H
 refine ⟨by omega,by omega,?_⟩
 refine ⟨_,_,_,(H.b1.at0 rfl),?_⟩
 refine ⟨fun off i q w=>∃j:Nat,off=(((L.take j).flatMap wChk).length:Int)/\i=(j:Int)/\j+q=L.length/\∃ro',(∀r∈ro,r∈ro')/\Sat F w (.blk g 5 (u8s (wz ([0,0,0,0]++(L.take j).flatMap wChk) (N - 4 - ((L.take j).flatMap wChk).length)))::.blk b1 252 [.slice l L.length k]::ex) ro',
  ⟨L.length,0,rfl,rfl,by omega,ro,fun _ h=>h,H⟩,?_⟩
 clear H;rintro dd off i q w ⟨j,rfl,rfl,hjq,ro',hr,H⟩
 have hpre:=flat_take (f:=wChk) L j
 refine ⟨fun hc=>?_,fun hc=>?_⟩
 ·rw [ah] at hc
  have hjl:j < L.length:=by omega
  have htk:L.take (j+1)=L.take j++[L[j]]:=by rw [am,ai hjl];rfl
  have hat:=flat_at (f:=wChk) hjl
  have hRj:=hR L[j] (ax hjl)
  obtain ⟨⟨d0,msz⟩,hE⟩:∃E,L[j]=E:=⟨_,rfl⟩
  rw [hE] at htk hat hRj
  have hwl:(wChk (d0,msz)).length=up4 (4+itLen msz+1):=wChk_len (d0,msz)
  have hup:itLen msz+4<=up4 (4+itLen msz+1):=by unfold up4;omega
  have hml:=itLen_le msz
  obtain ⟨p,sa,sc,e,hld,H1⟩:=H.chk (hr _ hl) hjl hE
  refine ⟨p,e,by omega,by omega,?_⟩
  refine ⟨_,_,_,_,hld,?_⟩
  clear H hld
  have H:=H1
  clear H1
  refine sNew H ?_;clear H;intro b19 w _ H
  refine sSw0 H (h:=?_);clear H;intro w _ H
  refine ⟨_,_,_,_,H.b0.ld,?_⟩
  refine call_j (c162 H ms hRj (by omega) (by omega)) ?_
  clear H;rintro _ w ⟨da,dcz,ro2,rfl,hr2,H,hd⟩
  refine ⟨_,_,_,_,rfl,?_⟩
  refine ⟨by simp [isIf],?_⟩
  refine fF ?_
  rw [au]
  refine ⟨by omega,by omega,?_⟩
  rw [cutW (b:=g) (o:=0) (l:=4) (q:=4) (by omega) rfl,cutW (b:=g) (l:=((L.take j).flatMap wChk).length) (q:=4+((L.take j).flatMap wChk).length) (by omega) (by omega)]
  refine sCpW H.r1 hd (by omega) (by rw [ae];rfl) (by omega) (by omega) ?_
  clear H;intro w _ H
  refine ⟨q - 1,by omega,j+1,?_,by rw [wi64_of (by omega) (by omega)];simp,by omega,ro2,fun r h=>hr2 r (mt (hr r h)),?_⟩
  ·rw [wi64_of (by omega) (by omega),htk,aj,ae]
   simp only [fm1,fm2,fm3]
   omega
  ·rw [htk,aj,ae]
   simp only [fm1,fm2,fm3]
   rw [an] at H
   rw [show N - 4 - (((L.take j).flatMap wChk).length+(wChk (d0,msz)).length)=N - 4 - ((L.take j).flatMap wChk).length - (wChk (d0,msz)).length by omega]
   exact H.dr
 ·rw [af] at hc
  obtain rfl:j=L.length:=by omega
  rw [ao] at H
  refine ⟨_,_,_,(H.b1.at0 rfl),?_⟩
  refine ⟨fun h=>by rw [ah] at h;omega,fun _=>?_⟩
  refine call_j (c163 H (mt ms) rfl (hr _ hl) (by omega) (by omega)) ?_
  clear H;rintro _ w ⟨rfl,H⟩
  refine ⟨_,_,_,_,rfl,?_⟩
  refine call_j (hdrM H (by omega) (by decide) (by omega)) ?_
  clear H;rintro _ w ⟨g2,rfl,H⟩
  refine ⟨_,_,_,_,rfl,?_⟩
  refine ⟨by simp [isIf],?_⟩
  refine fF ?_
  rw [show N - 4 - (L.flatMap wChk).length=0 by omega] at H
  refine sCpH H ms (by omega) ?_
  clear H;intro w H
  have l9:(wrSD L).length=N:=by
   unfold wrSD
   rw [ae,hNe]
   rfl
  exact MPost.blk H (sc1) (fun r h=>mt (hr r h)) l9.symm (by unfold maxLen;omega)
theorem strOf_sbs (s:ByteArray):strOfNums (sbs s)=s:=by
 have:(strOfNums (sbs s)).data=s.data:=by
  apply Array.ext'
  simp only [strOfNums,sbs,List.map_map]
  conv=>rhs;rw [<-List.map_id s.data.toList]
  apply List.map_congr_left
  intro c _
  simp
 cases s with
 | mk d=>simpa [strOfNums] using this
theorem noStr (s:ByteArray):(s.toList == (ByteArray.mk #[]).toList)=decide (s.size=0):=by
 have e:(ByteArray.mk #[])=strOfNums []:=rfl
 have h2:=sbs_len s
 rw [<-strOf_sbs s,e,Lib.strOfNums_toList,Lib.strOfNums_toList,ca]
 cases sbs s with
 | nil=>rfl
 | cons x r=>simp [Lib.bytesOf]
theorem cpS_i {dLen dCap:Nat} {s:ByteArray} {l:List Value} (hB:Blk w g t l) (hle:s.size<=dLen) (hfit:o+s.size<=l.length) {K:Int->World->Prop}
  (hK:∀w',w.grownBy w' (some g)->Blk w' g t (l.take o++u8s (sbs s)++l.drop (o+s.size))->K s.size w') :
  ∃n,∃w',(Builtin.copy_ #[22,9] ty #[.slice (some ⟨g,o,none⟩) dLen dCap,.string s]).run pg w=.ok (.int .i64 n) w'/\K n w':=by
 obtain ⟨i,hi,_,hs,_⟩:=u8Info
 have hr:=Lib.run_copy_row_string (P:=pg) w 22 9 ty 5 g o dLen dCap s l.toArray t uSl (by rw [hi];simp [hs]) hB.eq hle (by simpa using hfit)
 have hbc:Lib.byteCells s.data.toList=u8s (sbs s):=by simp [Lib.byteCells,u8s,sbs]
 rw [hbc] at hr
 refine ⟨_,_,hr,hK _ ⟨rfl,rfl,rfl,?_,fun k _ hk=>setRow_other w g k _ (fun e=>hk (by rw [e]))⟩ ?_⟩
 ·simp [World.setRow]
 ·have:=setRow_heap w g l.toArray ((l.take o++u8s (sbs s)++l.drop (o+s.size)).toArray) t (0,0) hB.eq
  exact ⟨by simpa using this⟩
theorem sCpS {z:Nat} {s:ByteArray} (H:Sat F w (.blk g t (u8s (wz A z))::ex) ro) {dLen dCap:Nat} (ho:o=A.length) (hd:s.size<=dLen) (hz:s.size<=z)
  {K:Int->World->Prop} (h:∀w',Sat F w' (.blk g t (u8s (wz (A++sbs s) (z - s.size)))::ex) ro->K s.size w') :
  ∃n,∃w',(Builtin.copy_ #[22,9] ty #[.slice (some ⟨g,o,none⟩) dLen dCap,.string s]).run pg w=.ok (.int .i64 n) w'/\K n w':=by
 subst ho
 refine cpS_i H.b0 hd (by rw [u8s_length,wz_len];omega) fun w' hg hB=>h w' ?_
 have H':=H.turn hg hB
 have hl:=sbs_len s
 have e:(u8s (wz A z)).take A.length++u8s (sbs s)++(u8s (wz A z)).drop (A.length+s.size)=u8s (wz (A++sbs s) (z - s.size)):=by
  unfold u8s wz
  rw [<-List.map_take,<-List.map_drop,<-bM,<-bM,ce,List.drop_append,List.drop_replicate]
  ·congr 1
   rw [List.drop_eq_nil_of_le (by omega)]
   simp
  ·rfl
 rw [e] at H'
 exact H'
def wBye (s:ByteArray):List Int:=if s.size=0 then [] else [(s.size:Int)]++sbs s++List.replicate (pad4 (1+s.size)) 0
theorem wBye_len (s:ByteArray):(wBye s).length=if s.size=0 then 0 else 1+s.size+pad4 (1+s.size):=by
 unfold wBye
 split
 ·rfl
 ·simp only [ae,aA,ay,sbs_len,bi]
theorem c171 {s:ByteArray} (H:Sat F w ex ro) (hb:Ex.blk b T cells∈ex) (h0:cells[0]?=some (.slice l n k)) (h1:cells[1]?=some (.string s)) (hn:n<=100000) (hs:s.size<=1000000) :
  Calls pg 171 #[.pointer (some ⟨b,0,none⟩)] w fun en w'=>en=.returned (.int .i64 ((4+4*n+(wBye s).length:Nat):Int))/\Sat F w' ex ro:=by
 apply of171
 refine ⟨_,rfl,?_⟩
 refine ⟨_,_,_,(H.bm hb).cell h0,?_⟩
 refine ⟨_,rfl,?_⟩
 refine ⟨_,(H.bm hb).cell h1,?_⟩
 rw [wBye_len]
 rw [wi64_of (n:=(n:Int)*4) (by omega) (by omega),wi64_of (n:=4+(n:Int)*4) (by omega) (by omega)]
 refine ⟨fun h=>?_,fun h=>?_⟩
 ·rw [ah] at h
  rw [wi64_of (n:=(s.size:Int)+1) (by omega) (by omega),wi64_of (n:=4+(n:Int)*4+((s.size:Int)+1)) (by omega) (by omega),show 4+(n:Int)*4+((s.size:Int)+1)=((4+4*n+(1+s.size):Nat):Int) by omega]
  refine call_j (padG (by omega)) ?_
  rintro _ w' ⟨rfl,rfl⟩
  refine ⟨_,rfl,?_⟩
  refine ⟨?_,H⟩
  have e:pad4 (4+4*n+(1+s.size))=pad4 (1+s.size):=by unfold pad4;omega
  have e2:pad4 (1+s.size)<=3:=by unfold pad4;omega
  rw [ap (by omega),e,wi64_of (by omega) (by omega)]
  congr 2
  omega
 ·rw [af] at h
  have hs0:s.size=0:=by omega
  rw [hs0,wi64_of (n:=4+(n:Int)*4+((0:Nat):Int)) (by omega) (by omega),show 4+(n:Int)*4+((0:Nat):Int)=((4+4*n:Nat):Int) by omega]
  refine call_j (padG (by omega)) ?_
  rintro _ w' ⟨rfl,rfl⟩
  refine ⟨_,rfl,?_⟩
  refine ⟨?_,H⟩
  have e:pad4 (4+4*n)=0:=by unfold pad4;omega
  rw [aG rfl,e,wi64_of (by omega) (by omega)]
  congr 2
theorem c173 {s:ByteArray} (H:Sat F w ex ro) (hb:Ex.blk b T cells∈ex) (h0:cells[0]?=some (.slice l n k)) (h1:cells[1]?=some (.string s)) (hn:n<=31) (hs:s.size<=255) :
  Calls pg 173 #[.pointer (some ⟨b,0,none⟩)] w fun en w'=>en=.returned (.agg #[.bool false,.int .u8 (n:Int),.int .u8 203,.int .u16 (((4+4*n+(wBye s).length) / 4 - 1:Nat):Int)])/\Sat F w' ex ro:=by
 apply of173
 refine sNew H ?_;clear H;intro b9 w _ H
 refine ⟨none,?_⟩
 replace H:=H.drew
 generalize w.drew=wd at H ⊢
 obtain ⟨ex2,S,back,hmem⟩:=Sat.still3 (E0:=[]) H none (by simp [foots])
 replace S:Sat _ _ ex2 ro:=S
 have hb1:=hmem b _ _ (mt hb)
 refine ⟨_,rfl,aC _,⟨_,_,_,(S.bm hb1).eq⟩,?_⟩
 refine ⟨_,_,_,(S.bm hb1).cell h0,?_⟩
 refine call_j (c171 S hb1 h0 h1 (by omega) (by omega)) ?_
 rintro _ w ⟨rfl,S⟩
 obtain ⟨g,H1⟩:=back [] w ro S
 clear H S hb1 hmem back
 have H:Sat F w (.blk b9 109 _::ex) ro:=H1
 clear H1
 refine ⟨_,rfl,?_⟩
 refine ⟨g,?_⟩
 refine ⟨by decide,?_⟩
 have hw:(wBye s).length<=300:=by
  rw [wBye_len]
  split
  ·omega
  ·have:pad4 (1+s.size)<=3:=by unfold pad4;omega
   omega
 generalize (wBye s).length=N at hw ⊢
 rw [aY (by omega),wi64_of (n:=((4+4*n+N:Nat):Int) / 4) (by omega) (by omega),wi64_of (n:=((4+4*n+N:Nat):Int) / 4 - 1) (by omega) (by omega),wu16,wu8,show (n:Int) % 256=n by omega,
  show (((4+4*n+N:Nat):Int) / 4 - 1) % 65536=(((4+4*n+N) / 4 - 1:Nat):Int) by omega]
 refine sSw0 H (h:=?_);clear H;intro w _ H
 refine ⟨_,_,_,_,H.b0.ld,?_⟩
 exact ⟨rfl,H.d1⟩
def wrBye (L:List Int) (s:ByteArray):List Int:=hdrB (L.length:Int) 203 (((4+4*L.length+(wBye s).length) / 4 - 1:Nat):Int)++(L.flatMap b32++wBye s)
theorem fl32 (L:List Int):(L.flatMap b32).length=4*L.length:=flat_bd (f:=b32) (fun _=>rfl) L
theorem c170 {L:List Int} {s:ByteArray} (H:Sat F w ex ro) (hl:Ro.deep [.row 1 (oi .u32 L)] [.slice l L.length k]∈ro) (hn:L.length<=31) (hs:s.size<=255) (hR:∀y∈L,u32R y) :
  Calls pg 170 #[.agg #[.slice l L.length k,.string s]] w (MPost F ex ro (wrBye L s)):=by
 apply of170
 refine sNew H ?_;clear H;intro b1 w _ H
 refine call_j (c171 (s:=s) H ms rfl rfl (by omega) (by omega)) ?_
 clear H;rintro _ w ⟨rfl,H⟩
 refine ⟨_,rfl,?_⟩
 have hp3:pad4 (1+s.size)<=3:=by unfold pad4;omega
 have hwl:=wBye_len s
 have hw:(wBye s).length<=300:=by
  rw [hwl]
  split<;>omega
 obtain ⟨N,hN⟩:∃N,N=4+4*L.length+(wBye s).length:=⟨_,rfl⟩
 rw [<-hN]
 refine sMk H (e:=5) (z:=.int .u8 0) (bytes:=1) (by kernel_rfl) (by kernel_rfl) (by rfl) (by unfold maxLen;omega) (by omega) (n:=N) (by rfl) (by rfl) ?_
 clear H;intro g w _ H
 rw [u8s_z,wz_start (by omega)] at H
 refine ⟨by omega,by omega,?_⟩
 refine ⟨_,_,_,(H.b1.at0 rfl),?_⟩
 refine ⟨fun h=>by rw [ah] at h;omega,fun _=>?_⟩
 refine ⟨_,_,_,(H.b1.at0 rfl),?_⟩
 refine ⟨fun i q w=>∃j:Nat,i=(j:Int)/\j+q=L.length/\Sat F w (.blk g 5 (u8s (wz ([0,0,0,0]++(L.take j).flatMap b32) (N - 4 - 4*j)))::.blk b1 203 [.slice l L.length k,.string s]::ex) ro,⟨L.length,0,rfl,by omega,H⟩,?_⟩
 clear H;rintro dd i q w ⟨j,rfl,hjq,H⟩
 have hBl:([0,0,0,0]++(L.take j).flatMap b32).length=4+4*j:=by
  rw [ae,fl32,bq]
  show 4+_=_
  omega
 refine ⟨fun hc=>?_,fun hc=>?_⟩
 ·rw [ah] at hc
  have hjl:j < L.length:=by omega
  have htk:L.take (j+1)=L.take j++[L[j]]:=by rw [am,ai hjl];rfl
  have hRj:=hR L[j] (ax hjl)
  obtain ⟨bb,oo,hle,hcell⟩:=H.elt hl (by omega)
  have hc1:=hcell j (.int .u32 L[j]) (by rw [oi_get _ _ _ hjl];simp [List.getD,ai hjl])
  refine ⟨_,hle,by omega,by omega,?_⟩
  refine ⟨_,(by rw [show (j:Int).toNat*1=j by omega,add_flat];exact hc1),?_⟩
  clear hcell hc1
  rw [wi64_of (n:=(j:Int)*4) (by omega) (by omega),show ((j:Int)*4).toNat=4*j by omega]
  refine ⟨by omega,by omega,?_⟩
  rw [cutW (b:=g) (o:=0) (l:=4) (q:=4) (by omega) rfl,cutW (b:=g) (l:=4*j) (q:=4+4*j) (by omega) (by omega)]
  refine call_j (put32 H hBl.symm hRj (by omega) (by omega)) ?_
  clear H;rintro _ w ⟨rfl,H⟩
  refine ⟨rfl,?_⟩
  refine ⟨q - 1,by omega,j+1,by rw [wi64_of (by omega) (by omega)];simp,by omega,?_⟩
  rw [htk,aj]
  simp only [fm1,fm2,fm3]
  rw [an,show N - 4 - 4*j - 4=N - 4 - 4*(j+1) by omega] at H
  exact H
 ·rw [af] at hc
  obtain rfl:j=L.length:=by omega
  rw [ao] at H hBl
  have l9:(wrBye L s).length=N:=by
   unfold wrBye
   rw [ae,ae,fl32,hN]
   show 4+_=_
   omega
  refine ⟨_,(H.b1.at0 rfl),?_⟩
  rw [noStr]
  refine ⟨fun h0=>?_,fun h0=>?_⟩
  ·have hs0:s.size≠0:=by simpa using h0
   rw [ap hs0] at hwl
   refine ⟨_,(H.b1.at0 rfl),?_⟩
   refine sToB H s (by omega) ?_
   clear H;intro ba bc w _ H
   refine ⟨fun h=>by rw [ah] at h;omega,fun _=>?_⟩
   refine ⟨_,_,_,(H.b1.at0 rfl),?_⟩
   rw [wi64_of (n:=(L.length:Int)*4) (by omega) (by omega),wi64_of (n:=(L.length:Int)*4+1) (by omega) (by omega),show ((L.length:Int)*4).toNat=4*L.length by omega,show ((L.length:Int)*4+1).toNat=4*L.length+1 by omega,wu8,show ((s.size:Nat):Int) % 256=s.size by omega]
   rw [cutW (b:=g) (o:=0) (l:=4) (q:=4) (by omega) rfl]
   refine ⟨_,rfl,by omega,by omega,?_⟩
   refine sStW H (by rw [add_flat,hBl];congr 1;omega) (by omega) ?_
   clear H;intro w H
   refine ⟨by omega,by omega,?_⟩
   rw [cutW (b:=g) (l:=4*L.length+1) (q:=5+4*L.length) (by omega) (by omega)]
   refine sCpW H ms (by omega) (by rw [ae,hBl];show _=4+4*L.length+1;omega) (by omega) (by rw [sbs_len];omega) ?_
   clear H;intro w _ H
   refine call_j (c173 (s:=s) H (mt ms) rfl rfl (by omega) hs) ?_
   clear H;rintro _ w ⟨rfl,H⟩
   refine ⟨_,_,_,_,rfl,?_⟩
   refine call_j (hdrM H (by omega) (by decide) (by omega)) ?_
   clear H;rintro _ w ⟨g2,rfl,H⟩
   refine ⟨_,_,_,_,rfl,?_⟩
   refine ⟨by simp [isIf],?_⟩
   refine fF ?_
   rw [wz_pad _ (pad4 (1+s.size)) (by rw [sbs_len];omega),sbs_len,show N - 4 - 4*L.length - 1 - s.size - pad4 (1+s.size)=0 by omega,an,an,an] at H
   have e9:(L.flatMap b32++([(s.size:Int)]++(sbs s++List.replicate (pad4 (1+s.size)) 0)))=L.flatMap b32++wBye s:=by
    unfold wBye
    rw [ap hs0,an]
   rw [e9] at H
   refine sCpH H ms (by omega) ?_
   clear H;intro w H
   exact MPost.blk H (sc1) (fun r h=>mt (mt h)) l9.symm (by unfold maxLen;omega)
  ·have hs0:s.size=0:=by simpa using h0
   rw [aG hs0] at hwl
   refine call_j (c173 (s:=s) H (mt ms) rfl rfl (by omega) hs) ?_
   clear H;rintro _ w ⟨rfl,H⟩
   refine ⟨_,_,_,_,rfl,?_⟩
   refine call_j (hdrM H (by omega) (by decide) (by omega)) ?_
   clear H;rintro _ w ⟨g2,rfl,H⟩
   refine ⟨_,_,_,_,rfl,?_⟩
   refine ⟨by simp [isIf],?_⟩
   refine fF ?_
   rw [show N - 4 - 4*L.length=0 by omega] at H
   have e9:L.flatMap b32=L.flatMap b32++wBye s:=by
    unfold wBye
    rw [aG hs0,aE]
   rw [e9] at H
   refine sCpH H ms (by omega) ?_
   clear H;intro w H
   exact MPost.blk H (sc1) (fun r h=>mt h) l9.symm (by unfold maxLen;omega)
def wrApp (sub s:Int) (nm:ByteArray) (xs:List Int):List Int:=hdrB sub 204 ((2+xs.length / 4:Nat):Int)++(b32 s++sbs nm++xs)
theorem c176 (hc:w.cell? ⟨b,3,none⟩=some (.slice l n k)) (hn:n<=100000) (h4:n % 4=0):Calls pg 176 #[.pointer (some ⟨b,0,none⟩)] w fun en w'=>en=.returned (.int .i64 ((12+n:Nat):Int))/\w'=w:=by
 apply of176
 refine ⟨_,rfl,?_⟩
 refine ⟨_,_,_,hc,?_⟩
 refine ⟨by decide,?_⟩
 have ht:((n:Nat):Int).tmod 4=0:=by rw [bz (by omega)];omega
 rw [ht]
 refine fT ?_
 refine ⟨?_,rfl⟩
 rw [wi64_of (n:=12+(n:Int)) (by omega) (by omega),wi64_of (by omega) (by omega)]
 congr 2<;>omega
end Go.Proofs.YtkdialecadjedaaGreatDoor
