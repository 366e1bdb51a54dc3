/- A part of a proof, joined by a program out of smaller texts (conditions: those that each theorem names). -/
import Derived.Test.YtkdialecadjedaaGreatDoorB2
namespace Go.Proofs.YtkdialecadjedaaGreatDoor
set_option linter.unusedVariables false
set_option linter.unusedSimpArgs false
set_option linter.unusedSectionVars false
set_option maxRecDepth 100000
set_option maxHeartbeats 8000000
open Go
theorem c181 {F:Fr} {w:World} {ex:List Ex} {ro:List Ro} {xs:List Int} {a:Option Addr} {n c:Nat} {b:Nat} {T:TypeId} {c0 c1:Value} (H:Sat F w (.blk b T [c0,c1,.slice none 0 0]::ex) ro)
  (hx:Ro.B xs a n c∈ro) (hb:By xs) (hE:ErrC (gd xs=none) ro) (hd:Hd xs 205 1) (hn:n<=1000000):Calls pg 181 #[.pointer (some ⟨b,0,none⟩),.slice a n c] w (UPost F b T 3 ex ro (gd xs)):=by
 apply of181
 have hlen:=H.lenB hx
 have hk:kindOf (hT xs) (hC xs)=6:=by rw [hd.typ,hd.cnt];rfl
 have hU:=rdBody_fb hk (by decide)
 rw [List.length_drop] at hU
 have hLn:=hd.len
 rw [hlen] at hLn
 obtain ⟨e1,e2⟩:=u_size hLn hn
 refine ⟨fun hc=>?_,fun hc=>?_⟩
 ·rw [decide_eq_true_eq] at hc
  exact uErr H (List.Sublist.refl _) (fun _ h=>h) hE rfl (gd_none (by rw [hU,if_pos (by omega)])) (by decide)
 rw [decide_eq_false_iff_not] at hc
 refine sNew H ?_;clear H;intro b2 w _ H
 refine call_j (c55 H hx hb hd.ok) ?_
 rintro _ w ⟨rfl,H⟩
 refine ⟨_,rfl,by simp [isIf],fun h=>absurd h (by decide),fun _=>?_⟩
 refine ⟨_,(H.b0.at0 rfl),?_⟩
 rw [e1]
 refine ⟨fun h=>by rw [decide_eq_true_eq] at h;omega,fun _=>?_⟩
 refine ⟨_,(H.b0.at0 rfl),?_⟩
 rw [hd.typ]
 refine fF ?_
 refine ⟨_,(H.b0.at0 rfl),?_⟩
 rw [hd.cnt]
 refine fF ?_
 refine ⟨_,(H.b0.at0 rfl),?_⟩
 rw [e2]
 refine ⟨fun h=>?_,fun h=>?_⟩
 ·rw [decide_eq_true_eq] at h
  refine uErr H (sc1) (fun _ h=>h) hE rfl (gd_none ?_) (by decide)
  rw [hU]
  split
  ·rfl
  ·unfold rdFb
   simp only
   rw [if_neg (by decide),if_pos trivial,if_pos (by simp;omega)]
 rw [decide_eq_false_iff_not] at h
 refine ⟨by omega,by omega,?_⟩
 refine call_j (c150 (by exact Rd.skip (Sat.rd H (by assumption)) _ (by omega)) (hb.drop 4) (by omega)) ?_
 rintro _ w ⟨rfl,g⟩
 replace H:=H.grow g;clear g
 refine ⟨_,rfl,?_⟩
 refine ⟨_,rfl,?_⟩
 refine sSt1 H (by exact add_flat _ _ _) (by kernel_rfl) (by rfl) (by rfl) ?_;clear H;intro w _ H
 refine ⟨by omega,by omega,?_⟩
 refine call_j (c150 (by exact Rd.skip (Sat.rd H (by assumption)) _ (by omega)) (hb.drop 8) (by omega)) ?_
 rintro _ w ⟨rfl,g⟩
 replace H:=H.grow g;clear g
 refine ⟨_,rfl,?_⟩
 refine ⟨_,rfl,?_⟩
 refine sSt1 H (by exact add_flat _ _ _) (by kernel_rfl) (by rfl) (by rfl) ?_;clear H;intro w _ H
 obtain ⟨k,hk2⟩:∃k,n=12+4*k:=⟨(n - 12) / 4,by omega⟩
 refine ⟨fun i28 m_24 w=>∃(i:Nat) (o:Option Addr) (oc:Nat) (r:Option Nat),i28=((12+4*i:Nat):Int)/\i+m_24=k /\
  Sat F w (.blk b2 109 [.bool (hP xs),.int .u8 (hC xs),.int .u8 (hT xs),.int .u16 (hL xs)]::.blk b T [.int .u32 (n32 (xs.drop 4)),.int .u32 (n32 (xs.drop 8)),.slice o i oc]::.own 213 2 o i oc r ((pairsL i (xs.drop 12)).flatMap Par.dat)::ex) ro,⟨k,0,none,0,none,rfl,by omega,(H.nilOwn 213 2).u2⟩,?_⟩
 clear H;rintro dd23 i28 m_24 w ⟨i,o,oc,r,rfl,him,H⟩
 refine ⟨_,(H.b0.at0 rfl),?_⟩
 rw [e1]
 refine ⟨fun h=>?_,fun h=>?_⟩
 ·rw [decide_eq_true_eq] at h
  refine ⟨r,?_⟩;replace H:=H.drew;generalize w.drew=wd1 at H ⊢;have K:=grew_refl wd1 (r)
  refine ⟨_,rfl,?_⟩
  refine ⟨(H.ne (mt ms) (mt (mt ms))),?_⟩
  refine ⟨H.b1.row,?_⟩
  refine ⟨_,_,_,(H.b1.at0 rfl),?_⟩
  rw [wi64_of (n:=((12+4*i:Nat):Int)+2) (by omega) (by omega),show (((12+4*i:Nat):Int)+2).toNat=14+4*i by omega,Int.toNat_natCast]
  refine ⟨by omega,by omega,?_⟩
  refine ⟨by omega,by omega,?_⟩
  refine call_j (c90 (by exact Rd.skip (Sat.rd H (by assumption)) _ (by omega)) (hb.drop (12+4*i)) (by omega)) ?_
  rintro _ w ⟨rfl,g⟩
  replace H:=H.grow g;replace K:=gtr K (grew_none _ g);clear g
  refine ⟨_,rfl,?_⟩
  refine ⟨K,?_⟩
  refine call_j (c90 (by exact Rd.skip (Sat.rd H (by assumption)) _ (by omega)) (hb.drop (14+4*i)) (by omega)) ?_
  rintro _ w ⟨rfl,g⟩
  replace H:=H.grow g;replace K:=gtr K (grew_none _ g);clear g
  refine ⟨_,rfl,?_⟩
  refine ⟨K,?_⟩
  refine ⟨rfl,?_⟩
  refine sNew H ?_;clear H;intro b37 w g H;replace K:=gtr K (grew_none _ g);clear g
  refine ⟨K,?_⟩
  refine sApp3 H (bytes:=4) (by kernel_rfl) [.int .u16 (n16 (xs.drop (12+4*i))),.int .u16 (n16 (xs.drop (14+4*i)))] (Par.dat (n16 (xs.drop (12+4*i)),n16 (xs.drop (14+4*i)))) (by rfl) (fun j u hu=>by rw [add_flat,Nat.zero_add];exact H.b0.cell hu) (fun G h=>by repeat (exact DeepL.ones _)) (by simp [Value.oneCell']) (by unfold maxLen;omega) (by omega) ?_
  clear H;intro x39 x39l x39c x39r w ex39 g H
  replace K:=gtr K g;clear g;replace H:=H.d1
  refine ⟨K,?_⟩
  refine ⟨_,rfl,?_⟩
  refine sSt1 H (by exact add_flat _ _ _) (by kernel_rfl) (by rfl) (by rfl) ?_;clear H;intro w _ H
  subst ex39
  refine ⟨m_24 - 1,by omega,i+1,x39,x39c,x39r,?_,by omega,?_⟩
  ·rw [wi64_of (by omega) (by omega)];omega
  ·rw [pairsL_snoc,List.flatMap_append,List.drop_drop,List.drop_drop,show 12+4*i+2=14+4*i by omega]
   exact H
 ·rw [decide_eq_false_iff_not] at h
  obtain rfl:i=k:=by omega
  replace H:=H.r2.freeze
  refine uOk (cells:=[.int .u32 (n32 (xs.drop 4)),.int .u32 (n32 (xs.drop 8)),.slice o i oc]) H (sc1) (fun r hr=>by simp [hr]) rfl ?_
  intro p hp
  obtain ⟨_,hp⟩:=gd_some hp
  rw [hU,if_neg (by omega)] at hp
  unfold rdFb at hp
  simp only at hp
  rw [if_neg (by decide),if_pos trivial] at hp
  split at hp
  ·cases hp
  ·cases hp
   rw [List.drop_drop,List.drop_drop,List.length_drop,show (xs.length - (4+8)) / 4=i by omega]
   exact fun G h=>dc (.one _) (dc (.one _) (dc (h (.deep [_] [_]) ms).head dn))
theorem sli_bits2 {v:Int} (h:0<=v/\v < 4294967296):IntKind.u16.wrap (iand .u32 (ishr .u32 v (19:Int)) (8191:Int))=v / 524288/\IntKind.u16.wrap (iand .u32 (ishr .u32 v (6:Int)) (8191:Int))=v / 64 % 8192/\IntKind.u8.wrap (iand .u32 v (63:Int))=v % 64:=by
 have e1:ishr .u32 v (19:Int)=v / 524288:=ishr_of 19 (by rfl) (by decide)
 have e2:ishr .u32 v (6:Int)=v / 64:=ishr_of 6 (by rfl) (by decide)
 have e3:iand .u32 (v / 64) (8191:Int)=v / 64 % 8192:=iand_low (k:=.u32) (by rfl) 13 (by omega) (by simp only [IntKind.bits];omega) (by omega) (by decide)
 have e4:iand .u32 v (63:Int)=v % 64:=iand_low (k:=.u32) (by rfl) 6 h.1 (by simp only [IntKind.bits];omega) (by omega) (by decide)
 have e5:iand .u32 (v / 524288) (8191:Int)=v / 524288 % 8192:=iand_low (k:=.u32) (by rfl) 13 (by omega) (by simp only [IntKind.bits];omega) (by omega) (by decide)
 rw [e1,e2,e3,e4,e5,wu16,wu16,wu8]
 omega
theorem c207 {F:Fr} {w:World} {ex:List Ex} {ro:List Ro} {xs:List Int} {a:Option Addr} {n c:Nat} {b:Nat} {T:TypeId} {c0 c1:Value} (H:Sat F w (.blk b T [c0,c1,.slice none 0 0]::ex) ro)
  (hx:Ro.B xs a n c∈ro) (hb:By xs) (hE:ErrC (gd xs=none) ro) (hd:Hd xs 206 2) (hn:n<=1000000):Calls pg 207 #[.pointer (some ⟨b,0,none⟩),.slice a n c] w (UPost F b T 3 ex ro (gd xs)):=by
 apply of207
 have hlen:=H.lenB hx
 have hk:kindOf (hT xs) (hC xs)=10:=by rw [hd.typ,hd.cnt];rfl
 have hU:=rdBody_fb hk (by decide)
 rw [List.length_drop] at hU
 have hLn:=hd.len
 rw [hlen] at hLn
 obtain ⟨e1,e2⟩:=u_size hLn hn
 refine ⟨fun hc=>?_,fun hc=>?_⟩
 ·rw [decide_eq_true_eq] at hc
  exact uErr H (List.Sublist.refl _) (fun _ h=>h) hE rfl (gd_none (by rw [hU,if_pos (by omega)])) (by decide)
 rw [decide_eq_false_iff_not] at hc
 refine sNew H ?_;clear H;intro b2 w _ H
 refine call_j (c55 H hx hb hd.ok) ?_
 rintro _ w ⟨rfl,H⟩
 refine ⟨_,rfl,by simp [isIf],fun h=>absurd h (by decide),fun _=>?_⟩
 refine ⟨_,(H.b0.at0 rfl),?_⟩
 rw [e1]
 refine ⟨fun h=>by rw [decide_eq_true_eq] at h;omega,fun _=>?_⟩
 refine ⟨_,(H.b0.at0 rfl),?_⟩
 rw [hd.typ]
 refine fF ?_
 refine ⟨_,(H.b0.at0 rfl),?_⟩
 rw [hd.cnt]
 refine fF ?_
 refine ⟨by omega,by omega,?_⟩
 refine call_j (c150 (by exact Rd.skip (Sat.rd H (by assumption)) _ (by omega)) (hb.drop 4) (by omega)) ?_
 rintro _ w ⟨rfl,g⟩
 replace H:=H.grow g;clear g
 refine ⟨_,rfl,?_⟩
 refine ⟨_,rfl,?_⟩
 refine sSt1 H (by exact add_flat _ _ _) (by kernel_rfl) (by rfl) (by rfl) ?_;clear H;intro w _ H
 refine ⟨by omega,by omega,?_⟩
 refine call_j (c150 (by exact Rd.skip (Sat.rd H (by assumption)) _ (by omega)) (hb.drop 8) (by omega)) ?_
 rintro _ w ⟨rfl,g⟩
 replace H:=H.grow g;clear g
 refine ⟨_,rfl,?_⟩
 refine ⟨_,rfl,?_⟩
 refine sSt1 H (by exact add_flat _ _ _) (by kernel_rfl) (by rfl) (by rfl) ?_;clear H;intro w _ H
 obtain ⟨k,hk2⟩:∃k,n=12+4*k:=⟨(n - 12) / 4,by omega⟩
 refine ⟨fun i26 m_22 w=>∃(i:Nat) (o:Option Addr) (oc:Nat) (r:Option Nat),i26=((12+4*i:Nat):Int)/\i+m_22=k /\
  Sat F w (.blk b2 109 [.bool (hP xs),.int .u8 (hC xs),.int .u8 (hT xs),.int .u16 (hL xs)]::.blk b T [.int .u32 (n32 (xs.drop 4)),.int .u32 (n32 (xs.drop 8)),.slice o i oc]::.own 228 3 o i oc r ((sliceL i (xs.drop 12)).flatMap Sli.dat)::ex) ro,⟨k,0,none,0,none,rfl,by omega,(H.nilOwn 228 3).u2⟩,?_⟩
 clear H;rintro dd21 i26 m_22 w ⟨i,o,oc,r,rfl,him,H⟩
 refine ⟨_,(H.b0.at0 rfl),?_⟩
 rw [e1]
 refine ⟨fun h=>?_,fun h=>?_⟩
 ·rw [decide_eq_true_eq] at h
  rw [Int.toNat_natCast]
  refine ⟨by omega,by omega,?_⟩
  refine call_j (c150 (by exact Rd.skip (Sat.rd H (by assumption)) _ (by omega)) (hb.drop (12+4*i)) (by omega)) ?_
  rintro _ w ⟨rfl,g⟩
  replace H:=H.grow g;clear g
  obtain ⟨f1,f2,f3⟩:=sli_bits2 (n32_lt (hb.drop (12+4*i)))
  refine ⟨_,rfl,?_⟩
  rw [f1,f2,f3]
  refine ⟨_,rfl,?_⟩
  refine ⟨_,_,_,(H.b1.at0 rfl),?_⟩
  refine ⟨rfl,?_⟩
  refine sPush2 H (bytes:=6) (by kernel_rfl) (Sli.dat (sli1 (n32 (xs.drop (12+4*i))))) (by rfl) (fun G h=>by repeat (exact DeepL.ones _)) (by rfl) (by unfold maxLen;omega) (by omega) ?_
  clear H;intro x34 x34l x34c x34r w ex34 _ H
  refine ⟨_,rfl,?_⟩
  refine sSt1 H (by exact add_flat _ _ _) (by kernel_rfl) (by rfl) (by rfl) ?_;clear H;intro w _ H
  subst ex34
  refine ⟨m_22 - 1,by omega,i+1,x34,x34c,x34r,?_,by omega,?_⟩
  ·rw [wi64_of (by omega) (by omega)];omega
  ·rw [sliceL_snoc,List.flatMap_append,List.drop_drop]
   simp only [fm1,fm2,fm3]
   exact H
 ·rw [decide_eq_false_iff_not] at h
  obtain rfl:i=k:=by omega
  replace H:=H.r2.freeze
  refine uOk (cells:=[.int .u32 (n32 (xs.drop 4)),.int .u32 (n32 (xs.drop 8)),.slice o i oc]) H (sc1) (fun r hr=>by simp [hr]) rfl ?_
  intro p hp
  obtain ⟨_,hp⟩:=gd_some hp
  rw [hU,if_neg (by omega)] at hp
  unfold rdFb at hp
  simp only at hp
  rw [if_neg (by decide),if_neg (by decide),if_pos trivial] at hp
  split at hp
  ·cases hp
  ·cases hp
   rw [List.drop_drop,List.drop_drop,List.length_drop,show (xs.length - (4+8)) / 4=i by omega]
   exact fun G h=>dc (.one _) (dc (.one _) (dc (h (.deep [_] [_]) ms).head dn))
def entsL:Nat->List Int->List Ent
 | 0,_=>[]
 | n+1,xs=>(n32 xs,xs.getD 4 0)::entsL n (xs.drop 8)
theorem entsL_snoc:∀(i:Nat) (xs:List Int),entsL (i+1) xs=entsL i xs++[(n32 (xs.drop (8*i)),(xs.drop (8*i)).getD 4 0)]
 | 0,xs=>by simp [entsL]
 | i+1,xs=>by
  rw [entsL,entsL_snoc i,entsL]
  simp only [List.cons_append,List.drop_drop]
  rw [show 8+8*i=8*(i+1) by omega]
theorem entryL_ents:∀(k:Nat) (xs:List Int) (l:List Ent),entryL k xs=some l->l=entsL k xs
 | 0,xs,l,h=>by
  unfold entryL at h
  split at h
  ·cases h;rfl
  ·cases h
 | k+1,xs,l,h=>by
  unfold entryL at h
  split at h
  ·cases h
  ·cases h2:entryL k (xs.drop 8) with
   | none=>rw [h2] at h;cases h
   | some q=>
    rw [h2] at h
    simp only [Option.map_some,Option.some.injEq] at h
    subst h
    rw [entryL_ents k _ _ h2,entsL]
theorem getD_take {ys:List Int} {j m:Nat} (h:j < m):(ys.take m).getD j 0=ys.getD j 0:=by
 rw [List.getD_eq_getElem?_getD,List.getElem?_take,if_pos h,<-List.getD_eq_getElem?_getD]
theorem n32_take8 {ys:List Int}:n32 (ys.take 8)=n32 ys/\(ys.take 8).getD 4 0=ys.getD 4 0:=by
 refine ⟨?_,getD_take (by decide)⟩
 unfold n32 n16
 rw [getD_drop,getD_drop,getD_drop,getD_drop,getD_take (by decide),getD_take (by decide),getD_take (by decide),getD_take (by decide)]
theorem c212 {F:Fr} {w:World} {ex:List Ex} {ro:List Ro} {xs:List Int} {a:Option Addr} {n c:Nat} {b:Nat} {T:TypeId} {c0 c1:Value} (H:Sat F w (.blk b T [c0,c1,.slice none 0 0]::ex) ro)
  (hx:Ro.B xs a n c∈ro) (hb:By xs) (hE:ErrC (gd xs=none) ro) (hd:Hd xs 206 4) (hn:n<=1000000):Calls pg 212 #[.pointer (some ⟨b,0,none⟩),.slice a n c] w (UPost F b T 3 ex ro (gd xs)):=by
 apply of212
 have hlen:=H.lenB hx
 have hk:kindOf (hT xs) (hC xs)=11:=by rw [hd.typ,hd.cnt];rfl
 have hU:=rdBody_fb hk (by decide)
 rw [List.length_drop] at hU
 have hLn:=hd.len
 rw [hlen] at hLn
 obtain ⟨e1,e2⟩:=u_size hLn hn
 have hU2:¬xs.length - 4 < 8->rdBody xs=match entryL ((xs.length - 12) / 8) (xs.drop 12) with
   | some l=>if l=[] then none else some { kind:=11,sender:=n32 (xs.drop 4),media:=n32 (xs.drop 8),entries:=l }
   | none=>none:=by
  intro h
  rw [hU,if_neg h]
  unfold rdFb
  simp only
  rw [if_neg (by decide),if_neg (by decide),if_neg (by decide),if_pos trivial,List.drop_drop,List.drop_drop,List.length_drop]
  rfl
 refine ⟨fun hc=>?_,fun hc=>?_⟩
 ·rw [decide_eq_true_eq] at hc
  exact uErr H (List.Sublist.refl _) (fun _ h=>h) hE rfl (gd_none (by rw [hU,if_pos (by omega)])) (by decide)
 rw [decide_eq_false_iff_not] at hc
 refine sNew H ?_;clear H;intro b2 w _ H
 refine call_j (c55 H hx hb hd.ok) ?_
 rintro _ w ⟨rfl,H⟩
 refine ⟨_,rfl,by simp [isIf],fun h=>absurd h (by decide),fun _=>?_⟩
 refine ⟨_,(H.b0.at0 rfl),?_⟩
 rw [e1]
 refine ⟨fun h=>by rw [decide_eq_true_eq] at h;omega,fun _=>?_⟩
 refine ⟨_,(H.b0.at0 rfl),?_⟩
 rw [hd.typ]
 refine fF ?_
 refine ⟨_,(H.b0.at0 rfl),?_⟩
 rw [hd.cnt]
 refine fF ?_
 refine ⟨_,(H.b0.at0 rfl),?_⟩
 rw [e2,wi64_of (n:=(n:Int) - 4 - 8) (by omega) (by omega)]
 refine ⟨fun h=>?_,fun h=>?_⟩
 ·rw [decide_eq_true_eq] at h
  refine uErr H (sc1) (fun _ h=>h) hE rfl (gd_none ?_) (by decide)
  by_cases h8:xs.length - 4 < 8
  ·rw [hU,if_pos h8]
  ·rw [hU2 h8,show (xs.length - 12) / 8=0 by omega]
   unfold entryL
   split<;>simp_all
 rw [decide_eq_false_iff_not] at h
 refine ⟨_,(H.b0.at0 rfl),?_⟩
 rw [e2]
 refine ⟨by decide,?_⟩
 have ht:((n:Int) - 4).tmod 8=(((n - 4) % 8:Nat):Int):=by rw [Int.tmod_eq_emod_of_nonneg (by omega)];omega
 rw [ht]
 refine ⟨fun h2=>?_,fun h2=>?_⟩
 ·have h3:¬(((n - 4) % 8:Nat):Int)=0:=by simpa using h2
  refine uErr H (sc1) (fun _ h=>h) hE rfl (gd_none ?_) (by decide)
  rw [hU2 (by omega)]
  have key:∀(k:Nat) (ys:List Int),8*k < ys.length->entryL k ys=none:=by
   intro k
   induction k with
   | zero=>intro ys hy;unfold entryL;rw [if_neg (by omega)]
   | succ k ih=>
    intro ys hy
    unfold entryL
    split
    ·rfl
    ·rw [ih (ys.drop 8) (by rw [List.length_drop];omega)];rfl
  rw [key _ _ (by rw [List.length_drop];omega)]
 have h3:(((n - 4) % 8:Nat):Int)=0:=by simpa using h2
 refine ⟨by omega,by omega,?_⟩
 refine call_j (c150 (by exact Rd.skip (Sat.rd H (by assumption)) _ (by omega)) (hb.drop 4) (by omega)) ?_
 rintro _ w ⟨rfl,g⟩
 replace H:=H.grow g;clear g
 refine ⟨_,rfl,?_⟩
 refine ⟨_,rfl,?_⟩
 refine sSt1 H (by exact add_flat _ _ _) (by kernel_rfl) (by rfl) (by rfl) ?_;clear H;intro w _ H
 refine ⟨by omega,by omega,?_⟩
 refine call_j (c150 (by exact Rd.skip (Sat.rd H (by assumption)) _ (by omega)) (hb.drop 8) (by omega)) ?_
 rintro _ w ⟨rfl,g⟩
 replace H:=H.grow g;clear g
 refine ⟨_,rfl,?_⟩
 refine ⟨_,rfl,?_⟩
 refine sSt1 H (by exact add_flat _ _ _) (by kernel_rfl) (by rfl) (by rfl) ?_;clear H;intro w _ H
 have hnc:n<=c:=(H.deep1 hx).len.2.1
 obtain ⟨k,hk2⟩:∃k,n=12+8*k:=⟨(n - 12) / 8,by omega⟩
 refine ⟨fun i30 m_26 w=>∃(i:Nat) (o:Option Addr) (oc:Nat) (r:Option Nat),i30=((12+8*i:Nat):Int)/\i+m_26=k /\
  Sat F w (.blk b2 109 [.bool (hP xs),.int .u8 (hC xs),.int .u8 (hT xs),.int .u16 (hL xs)]::.blk b T [.int .u32 (n32 (xs.drop 4)),.int .u32 (n32 (xs.drop 8)),.slice o i oc]::.own 234 2 o i oc r ((entsL i (xs.drop 12)).flatMap Ent.dat)::ex) ro,⟨k,0,none,0,none,rfl,by omega,(H.nilOwn 234 2).u2⟩,?_⟩
 clear H;rintro dd25 i30 m_26 w ⟨i,o,oc,r,rfl,him,H⟩
 refine ⟨_,(H.b0.at0 rfl),?_⟩
 rw [e1]
 refine ⟨fun h=>?_,fun h=>?_⟩
 ·rw [decide_eq_true_eq] at h
  rw [wi64_of (n:=((12+8*i:Nat):Int)+8) (by omega) (by omega),show (((12+8*i:Nat):Int)+8).toNat=20+8*i by omega,Int.toNat_natCast,show 20+8*i - (12+8*i)=8 by omega]
  refine ⟨by omega,by omega,?_⟩
  refine ⟨by omega,by omega,?_⟩
  replace H:=H.cutB hx (12+8*i) (20+8*i) (by omega) (by omega)
  rw [show 20+8*i - (12+8*i)=8 by omega] at H
  have hby:By ((xs.drop (12+8*i)).take 8):=(hb.drop _).take _
  have hyy:=n32_take8 (ys:=xs.drop (12+8*i))
  refine ⟨r,?_⟩;replace H:=H.drew;generalize w.drew=wd1 at H ⊢;have K:=grew_refl wd1 (r)
  refine ⟨_,rfl,?_⟩
  refine ⟨(H.ne (mt ms) (mt (mt ms))),?_⟩
  refine ⟨H.b1.row,?_⟩
  refine ⟨_,_,_,(H.b1.at0 rfl),?_⟩
  obtain ⟨p_35,ep_35,hp_35,kp_35,fp_35⟩:=H.at_ (a:=cutA a (12+8*i) c 1) ms (by omega)
  refine ⟨p_35,ep_35,by omega,by omega,?_⟩
  refine ⟨H.ne_own (mt (mt ms)) (fp_35 _),?_⟩
  refine ⟨kp_35 _,?_⟩
  refine ⟨_,hp_35 4 (by omega),?_⟩
  refine call_j (c150 (Sat.rd H ms) hby (by omega)) ?_
  clear ep_35 hp_35 kp_35 fp_35
  rintro _ w ⟨rfl,g⟩
  replace H:=H.grow g;replace K:=gtr K (grew_none _ g);clear g
  rw [hyy.1,hyy.2]
  refine ⟨_,rfl,?_⟩
  refine ⟨K,?_⟩
  refine ⟨rfl,?_⟩
  refine sNew H ?_;clear H;intro b39 w g H;replace K:=gtr K (grew_none _ g);clear g
  refine ⟨K,?_⟩
  refine sApp3 H (bytes:=8) (by kernel_rfl) [.int .u32 (n32 (xs.drop (12+8*i))),.int .u8 ((xs.drop (12+8*i)).getD 4 0)] (Ent.dat (n32 (xs.drop (12+8*i)),(xs.drop (12+8*i)).getD 4 0)) (by rfl) (fun j u hu=>by rw [add_flat,Nat.zero_add];exact H.b0.cell hu) (fun G h=>by repeat (exact DeepL.ones _)) (by simp [Value.oneCell']) (by unfold maxLen;omega) (by omega) ?_
  clear H;intro x41 x41l x41c x41r w ex41 g H
  replace K:=gtr K g;clear g;replace H:=H.d1
  refine ⟨K,?_⟩
  refine ⟨_,rfl,?_⟩
  refine sSt1 H (by exact add_flat _ _ _) (by kernel_rfl) (by rfl) (by rfl) ?_;clear H;intro w _ H
  subst ex41
  refine ⟨m_26 - 1,by omega,i+1,x41,x41c,x41r,?_,by omega,?_⟩
  ·omega
  ·rw [entsL_snoc,List.flatMap_append,List.drop_drop]
   simp only [fm1,fm2,fm3]
   exact H.sub (List.Sublist.refl _) (fun r hr=>mt hr)
 ·rw [decide_eq_false_iff_not] at h
  obtain rfl:i=k:=by omega
  replace H:=H.r2.freeze
  refine uOk (cells:=[.int .u32 (n32 (xs.drop 4)),.int .u32 (n32 (xs.drop 8)),.slice o i oc]) H (sc1) (fun r hr=>by simp [hr]) rfl ?_
  intro p hp
  obtain ⟨_,hp⟩:=gd_some hp
  rw [hU2 (by omega),show (xs.length - 12) / 8=i by omega] at hp
  cases h5:entryL i (xs.drop 12) with
  | none=>rw [h5] at hp;cases hp
  | some l=>
   rw [h5] at hp
   simp only at hp
   split at hp
   ·cases hp
   ·cases hp
    rw [entryL_ents _ _ _ h5]
    exact fun G h=>dc (.one _) (dc (.one _) (dc (h (.deep [_] [_]) ms).head dn))
theorem c151 {F:Fr} {w:World} {ex:List Ex} {ro:List Ro} {xs:List Int} {a:Option Addr} {n c:Nat} (H:Sat F w ex ro) (hx:Ro.B xs a n c∈ro) (hb:By xs) (hn:8<=n) :
  Calls pg 151 #[.slice a n c] w fun en w'=>en=.returned (.int .u64 (n64 xs))/\Sat F w' ex ro:=by
 apply of151
 obtain ⟨p_1,ep_1,hp_1,kp_1,fp_1⟩:=H.at_ (a:=a) hx (by omega)
 refine ⟨p_1,ep_1,by omega,by omega,?_⟩
 refine ⟨_,hp_1 7 (by omega),?_⟩
 refine ⟨by omega,by omega,?_⟩
 clear ep_1 hp_1 kp_1 fp_1
 replace H:=H.drew;generalize w.drew=w at H ⊢
 refine call_j (c150 (Sat.rd H hx) hb (by omega)) ?_
 rintro _ w ⟨rfl,g⟩
 replace H:=H.grow g;clear g
 refine ⟨_,rfl,?_⟩
 refine call_j (c150 (Rd.skip (Sat.rd H hx) _ (by omega)) (hb.drop 4) (by omega)) ?_
 rintro _ w ⟨rfl,g⟩
 replace H:=H.grow g;clear g
 refine ⟨_,rfl,?_,H⟩
 have h1:=n32_lt hb
 have h2:=n32_lt (hb.drop 4)
 have e:ior .u64 (ishl .u64 (IntKind.u64.wrap (n32 xs)) (32:Int)) (IntKind.u64.wrap (n32 (xs.drop 4)))=n64 xs:=by
  rw [ishl_of (b:=(32:Int)) 32 (by rfl) (by decide),wu64,wu64,wu64,show n32 xs % 18446744073709551616*2 ^ 32 % 18446744073709551616=n32 xs*4294967296 by omega,show n32 (xs.drop 4) % 18446744073709551616=n32 (xs.drop 4) by omega]
  rw [ior_add (k:=.u64) (by rfl) 32 (n32 xs) (by rfl) h1.1 h2.1 (by omega) (by simp only [IntKind.bits];omega)]
  rfl
 rw [e]
def repV (ys:List Int):List Value:=[.int .u32 (n32 ys),.int .u8 (ys.getD 4 0),.int .u32 (n24 (ys.drop 5)),.int .u32 (n32 (ys.drop 8)),.int .u32 (n32 (ys.drop 12)),.int .u32 (n32 (ys.drop 16)),.int .u32 (n32 (ys.drop 20))]
theorem c152 {P:Prop} {F:Fr} {w:World} {ex:List Ex} {ro:List Ro} {ys:List Int} {a:Option Addr} {n c:Nat} {b:Nat} {T:TypeId} {c0 c1 c2 c3 c4 c5 c6:Value} (H:Sat F w (.blk b T [c0,c1,c2,c3,c4,c5,c6]::ex) ro)
  (hx:Ro.B ys a n c∈ro) (hb:By ys) (hE:ErrC P ro):Calls pg 152 #[.pointer (some ⟨b,0,none⟩),.slice a n c] w fun en w'=>
   (n < 24/\∃e,en=.returned e/\isIf e/\isNilI e=false/\Sat F w' (.blk b T [c0,c1,c2,c3,c4,c5,c6]::ex) ro)\/(24<=n/\en=.returned .nilIface/\Sat F w' (.blk b T (repV ys)::ex) ro):=by
 apply of152
 have hlen:=H.lenB hx
 refine ⟨fun hc=>?_,fun hc=>?_⟩
 ·rw [decide_eq_true_eq] at hc
  obtain ⟨v,h1,h2,h3⟩:=hE.laid 1 (by decide)
  exact ⟨v,H.cell h1 rfl,.inl ⟨by omega,v,rfl,h2,h3 (by decide),H⟩⟩
 rw [decide_eq_false_iff_not] at hc
 refine call_j (c150 (Sat.rd H hx) hb (by omega)) ?_
 rintro _ w ⟨rfl,g⟩
 replace H:=H.grow g;clear g
 refine ⟨_,rfl,?_⟩
 refine ⟨_,rfl,?_⟩
 refine sSt0 H (by exact add_flat _ _ _) (by kernel_rfl) (by rfl) (by rfl) ?_;clear H;intro w _ H
 obtain ⟨p_6,ep_6,hp_6,kp_6,fp_6⟩:=H.at_ (a:=a) hx (by omega)
 refine ⟨p_6,ep_6,by omega,by omega,?_⟩
 refine ⟨_,hp_6 4 (by omega),?_⟩
 refine ⟨_,rfl,?_⟩
 clear ep_6 hp_6 kp_6 fp_6
 refine sSt0 H (by exact add_flat _ _ _) (by kernel_rfl) (by rfl) (by rfl) ?_;clear H;intro w _ H
 refine ⟨by omega,by omega,?_⟩
 have H5:=H.skipB hx 5 (by omega)
 obtain ⟨p_10,ep_10,_,_,_⟩:=H5.at_ (a:=cutA a 5 c 1) ms (by omega)
 refine ⟨p_10,ep_10,by omega,by omega,?_⟩
 replace H:=H.drew;generalize w.drew=w at H ⊢
 replace H5:=H.skipB hx 5 (by omega)
 obtain ⟨p_11,ep_11,hp_10,_,_⟩:=H5.at_ (a:=cutA a 5 c 1) ms (by omega)
 rw [ep_10] at ep_11
 cases ep_11
 refine ⟨_,hp_10 2 (by omega),?_⟩
 refine ⟨p_10,ep_10,by omega,by omega,?_⟩
 refine ⟨_,hp_10 1 (by omega),?_⟩
 refine ⟨p_10,ep_10,by omega,by omega,?_⟩
 refine ⟨_,hp_10 0 (by omega),?_⟩
 have h0:=(hb.drop 5).getD 0
 have h1:=(hb.drop 5).getD 1
 have h2:=(hb.drop 5).getD 2
 have e24:ior .u32 (ior .u32 (IntKind.u32.wrap ((ys.drop 5).getD 2 0)) (ishl .u32 (IntKind.u32.wrap ((ys.drop 5).getD 1 0)) (8:Int))) (ishl .u32 (IntKind.u32.wrap ((ys.drop 5).getD 0 0)) (16:Int))=n24 (ys.drop 5):=by
  unfold n24
  generalize (ys.drop 5).getD 0 0=x at h0 ⊢
  generalize (ys.drop 5).getD 1 0=y at h1 ⊢
  generalize (ys.drop 5).getD 2 0=z at h2 ⊢
  rw [ishl_of (b:=(16:Int)) 16 (by rfl) (by decide),ishl_of (b:=(8:Int)) 8 (by rfl) (by decide),wu32,wu32,wu32,wu32,wu32]
  rw [show z % 4294967296=z by omega,show y % 4294967296*2 ^ 8 % 4294967296=y*256 by omega,show x % 4294967296*2 ^ 16 % 4294967296=x*65536 by omega]
  rw [ior_add' (k:=.u32) (by rfl) 8 y (a:=y*256) (b:=z) (by omega) h1.1 h2.1 (by omega) (by simp only [IntKind.bits];omega)]
  rw [ior_add' (k:=.u32) (by rfl) 16 x (a:=x*65536) (b:=y*256+z) (by omega) h0.1 (by omega) (by omega) (by simp only [IntKind.bits];omega)]
  omega
 rw [e24]
 refine ⟨_,rfl,?_⟩
 clear hp_10 ep_10 H5 e24
 refine sSt0 H (by exact add_flat _ _ _) (by kernel_rfl) (by rfl) (by rfl) ?_;clear H;intro w _ H
 refine ⟨by omega,by omega,?_⟩
 refine call_j (c150 (Rd.skip (Sat.rd H hx) _ (by omega)) (hb.drop 8) (by omega)) ?_
 rintro _ w ⟨rfl,g⟩
 replace H:=H.grow g;clear g
 refine ⟨_,rfl,?_⟩
 refine ⟨_,rfl,?_⟩
 refine sSt0 H (by exact add_flat _ _ _) (by kernel_rfl) (by rfl) (by rfl) ?_;clear H;intro w _ H
 refine ⟨by omega,by omega,?_⟩
 refine call_j (c150 (Rd.skip (Sat.rd H hx) _ (by omega)) (hb.drop 12) (by omega)) ?_
 rintro _ w ⟨rfl,g⟩
 replace H:=H.grow g;clear g
 refine ⟨_,rfl,?_⟩
 refine ⟨_,rfl,?_⟩
 refine sSt0 H (by exact add_flat _ _ _) (by kernel_rfl) (by rfl) (by rfl) ?_;clear H;intro w _ H
 refine ⟨by omega,by omega,?_⟩
 refine call_j (c150 (Rd.skip (Sat.rd H hx) _ (by omega)) (hb.drop 16) (by omega)) ?_
 rintro _ w ⟨rfl,g⟩
 replace H:=H.grow g;clear g
 refine ⟨_,rfl,?_⟩
 refine ⟨_,rfl,?_⟩
 refine sSt0 H (by exact add_flat _ _ _) (by kernel_rfl) (by rfl) (by rfl) ?_;clear H;intro w _ H
 refine ⟨by omega,by omega,?_⟩
 refine call_j (c150 (Rd.skip (Sat.rd H hx) _ (by omega)) (hb.drop 20) (by omega)) ?_
 rintro _ w ⟨rfl,g⟩
 replace H:=H.grow g;clear g
 refine ⟨_,rfl,?_⟩
 refine ⟨_,rfl,?_⟩
 refine sSt0 H (by exact add_flat _ _ _) (by kernel_rfl) (by rfl) (by rfl) ?_;clear H;intro w _ H
 exact .inr ⟨by omega,rfl,H⟩
theorem repV_take {ys:List Int} (m:Nat) (h:24<=m):repV (ys.take m)=repV ys:=by
 have hg:∀j,j < 24->(ys.take m).getD j 0=ys.getD j 0:=fun j hj=>getD_take (by omega)
 unfold repV n32 n24 n16
 simp only [getD_drop]
 rw [hg 0 (by decide),hg (0+1) (by decide)]
 simp only [Nat.reduceAdd]
 simp only [hg 1 (by decide),hg 2 (by decide),hg 3 (by decide),hg 4 (by decide),hg 5 (by decide),hg 6 (by decide),hg 7 (by decide),hg 8 (by decide),hg 9 (by decide),hg 10 (by decide),hg 11 (by decide),hg 12 (by decide),hg 13 (by decide),hg 14 (by decide),hg 15 (by decide),hg 16 (by decide),hg 17 (by decide),hg 18 (by decide),hg 19 (by decide),hg 20 (by decide),hg 21 (by decide),hg 22 (by decide),hg 23 (by decide)]
theorem repV_dat (ys:List Int):(repV ys).map .one=Rep.dat (rep1 ys):=rfl
theorem c143 {F:Fr} {w:World} {ex:List Ex} {ro:List Ro} {xs:List Int} {a:Option Addr} {n c:Nat} {b:Nat} {T:TypeId} {c0 c1 c2 c3 c4:Value} (H:Sat F w (.blk b T [c0,c1,c2,c3,c4,.slice none 0 0,.slice none 0 0]::ex) ro)
  (hx:Ro.B xs a n c∈ro) (hb:By xs) (hE:ErrC (gd xs=none) ro) (hd:Hd xs 200 (hC xs)) (hn:n<=1000000):Calls pg 143 #[.pointer (some ⟨b,0,none⟩),.slice a n c] w (UPost F b T 7 ex ro (gd xs)):=by
 apply of143
 have hlen:=H.lenB hx
 have hk:kindOf (hT xs) (hC xs)=1:=by rw [hd.typ];rfl
 have hU:rdBody xs=if (xs.drop 4).length < 24+24*(hC xs).toNat then none else some { kind:=1,sender:=n32 (xs.drop 4),ntp:=n64 ((xs.drop 4).drop 4),rtp:=n32 ((xs.drop 4).drop 12),packets:=n32 ((xs.drop 4).drop 16),octets:=n32 ((xs.drop 4).drop 20),reports:=reps (hC xs).toNat ((xs.drop 4).drop 24),ext:=((xs.drop 4).drop 24).drop (24*(hC xs).toNat) }:=by
  unfold rdBody;simp only [hk];rw [if_pos trivial]
 rw [List.length_drop] at hU
 have hCr:0<=hC xs/\hC xs < 32:=by unfold hC;omega
 obtain ⟨k,hk2⟩:∃k:Nat,hC xs=(k:Int):=⟨(hC xs).toNat,by omega⟩
 rw [hk2,Int.toNat_natCast] at hU
 refine ⟨fun hc=>?_,fun hc=>?_⟩
 ·rw [decide_eq_true_eq] at hc
  exact uErr H (List.Sublist.refl _) (fun _ h=>h) hE rfl (gd_none (by rw [hU,if_pos (by omega)])) (by decide)
 rw [decide_eq_false_iff_not] at hc
 refine sNew H ?_;clear H;intro b2 w _ H
 refine call_j (c55 H hx hb hd.ok) ?_
 rintro _ w ⟨rfl,H⟩
 refine ⟨_,rfl,by simp [isIf],fun h=>absurd h (by decide),fun _=>?_⟩
 refine ⟨_,(H.b0.at0 rfl),?_⟩
 rw [hd.typ]
 refine fF ?_
 refine ⟨by omega,by omega,?_⟩
 refine ⟨by omega,by omega,?_⟩
 have hro:∀r∈ro,r∈(Ro.B (xs.drop 4) (cutA a 4 c 1) (n - 4) (c - 4)::ro):=fun r h=>mt h
 replace H:=H.skipB hx 4 (by omega)
 have hy:By (xs.drop 4):=hb.drop 4
 have hyl:(xs.drop 4).length=n - 4:=by rw [List.length_drop,hlen]
 have hnc:n - 4<=c - 4:=(H.deep1 ms).len.2.1
 generalize hys:xs.drop 4=ys at H hU hro hy hyl
 refine call_j (c150 (Rd.skip (Sat.rd H ms) 0 (by omega)) (hy.drop 0) (by omega)) ?_
 rintro _ w ⟨rfl,g⟩
 replace H:=H.grow g;clear g
 rw [List.drop_zero]
 refine ⟨_,rfl,?_⟩
 refine ⟨_,rfl,?_⟩
 refine sSt1 H (by exact add_flat _ _ _) (by kernel_rfl) (by rfl) (by rfl) ?_;clear H;intro w _ H
 refine ⟨by omega,by omega,?_⟩
 have H1:=H.skipB ms 4 (by omega)
 refine call_j (c151 H1 ms (hy.drop 4) (by omega)) ?_
 clear H1
 rintro _ w ⟨rfl,H1⟩
 replace H:=H1.sub (List.Sublist.refl _) (fun r h=>mt h)
 clear H1
 refine ⟨_,rfl,?_⟩
 refine ⟨_,rfl,?_⟩
 refine sSt1 H (by exact add_flat _ _ _) (by kernel_rfl) (by rfl) (by rfl) ?_;clear H;intro w _ H
 refine ⟨by omega,by omega,?_⟩
 refine call_j (c150 (Rd.skip (Sat.rd H ms) _ (by omega)) (hy.drop 12) (by omega)) ?_
 rintro _ w ⟨rfl,g⟩
 replace H:=H.grow g;clear g
 refine ⟨_,rfl,?_⟩
 refine ⟨_,rfl,?_⟩
 refine sSt1 H (by exact add_flat _ _ _) (by kernel_rfl) (by rfl) (by rfl) ?_;clear H;intro w _ H
 refine ⟨by omega,by omega,?_⟩
 refine call_j (c150 (Rd.skip (Sat.rd H ms) _ (by omega)) (hy.drop 16) (by omega)) ?_
 rintro _ w ⟨rfl,g⟩
 replace H:=H.grow g;clear g
 refine ⟨_,rfl,?_⟩
 refine ⟨_,rfl,?_⟩
 refine sSt1 H (by exact add_flat _ _ _) (by kernel_rfl) (by rfl) (by rfl) ?_;clear H;intro w _ H
 refine ⟨by omega,by omega,?_⟩
 refine call_j (c150 (Rd.skip (Sat.rd H ms) _ (by omega)) (hy.drop 20) (by omega)) ?_
 rintro _ w ⟨rfl,g⟩
 replace H:=H.grow g;clear g
 refine ⟨_,rfl,?_⟩
 refine ⟨_,rfl,?_⟩
 refine sSt1 H (by exact add_flat _ _ _) (by kernel_rfl) (by rfl) (by rfl) ?_;clear H;intro w _ H
 rw [hk2] at H
 refine ⟨fun off i35 m_30 w=>∃(i:Nat) (o:Option Addr) (oc:Nat) (r:Option Nat),i35=(i:Int)/\off=((24+24*i:Nat):Int)/\i+m_30=k/\24+24*i<=n - 4 /\
  Sat F w (.blk b2 109 [.bool (hP xs),.int .u8 (k:Int),.int .u8 (hT xs),.int .u16 (hL xs)]::.blk b T [.int .u32 (n32 ys),.int .u64 (n64 (ys.drop 4)),.int .u32 (n32 (ys.drop 12)),.int .u32 (n32 (ys.drop 16)),.int .u32 (n32 (ys.drop 20)),.slice o i oc,.slice none 0 0]::.own 275 7 o i oc r ((reps i (ys.drop 24)).flatMap Rep.dat)::ex) (Ro.B ys (cutA a 4 c 1) (n - 4) (c - 4)::ro),⟨k,0,none,0,none,rfl,rfl,by omega,by omega,(H.nilOwn 275 7).u2⟩,?_⟩
 clear H;rintro dd29 off i35 m_30 w ⟨i,o,oc,r,rfl,rfl,him,hio,H⟩
 refine ⟨_,(H.b0.at0 rfl),?_⟩
 rw [wi64_of (n:=(k:Int)) (by omega) (by omega)]
 refine ⟨fun h=>?_,fun h=>?_⟩
 ·rw [decide_eq_true_eq] at h
  rw [wi64_of (n:=((24+24*i:Nat):Int)+24) (by omega) (by omega)]
  refine ⟨fun h2=>?_,fun h2=>?_⟩
  ·rw [decide_eq_true_eq] at h2
   exact uErr H (by exact List.Sublist.cons _ (List.Sublist.cons_cons _ (sc1))) hro hE (by rfl) (gd_none (by rw [hU,if_pos (by omega)])) (by decide)
  rw [decide_eq_false_iff_not] at h2
  rw [show (((24+24*i:Nat):Int)+24).toNat=48+24*i by omega,Int.toNat_natCast,show 48+24*i - (24+24*i)=24 by omega]
  refine ⟨by omega,by omega,?_⟩
  refine ⟨by omega,by omega,?_⟩
  replace H:=H.cutB ms (24+24*i) (48+24*i) (by omega) (by omega)
  rw [show 48+24*i - (24+24*i)=24 by omega] at H
  refine sNew H ?_;clear H;intro b38 w _ H
  refine call_j (c152 H ms ((hy.drop _).take _) (hE.mono (fun r h=>mt (hro r h)))) ?_
  clear H
  rintro en w (⟨hbad,_⟩ | ⟨_,rfl,H⟩)
  ·omega
  rw [repV_take 24 (Nat.le_refl _)] at H
  refine ⟨_,rfl,by simp [isIf],fun h=>absurd h (by decide),fun _=>?_⟩
  refine ⟨r,?_⟩;replace H:=H.drew;generalize w.drew=wd1 at H ⊢;have K:=grew_refl wd1 (r)
  refine ⟨_,rfl,?_⟩
  refine ⟨(H.ne (mt (mt ms)) (mt (mt (mt ms)))),?_⟩
  refine ⟨H.b2.row,?_⟩
  refine ⟨_,_,_,(H.b2.at0 rfl),?_⟩
  refine ⟨(H.ne ms (mt (mt (mt ms)))),?_⟩
  refine ⟨H.b0.row,?_⟩
  refine ⟨_,_,_,_,_,_,_,H.b0.ld,?_⟩
  refine ⟨rfl,?_⟩
  refine sNew H ?_;clear H;intro b52 w g H;replace K:=gtr K (grew_none _ g);clear g
  refine ⟨K,?_⟩
  refine sApp4 H (bytes:=28) (by kernel_rfl) (repV (ys.drop (24+24*i))) (Rep.dat (rep1 (ys.drop (24+24*i)))) (by rfl) (fun j u hu=>by rw [add_flat,Nat.zero_add];exact H.b0.cell hu) (fun G h=>by rw [<-repV_dat];exact DeepL.ones _) (by simp [Value.oneCell',repV]) (by unfold maxLen;omega) (by omega) ?_
  clear H;intro x54 x54l x54c x54r w ex54 g H
  replace K:=gtr K g;clear g;replace H:=H.d1
  refine ⟨K,?_⟩
  refine ⟨_,rfl,?_⟩
  refine sSt2 H (by exact add_flat _ _ _) (by kernel_rfl) (by rfl) (by rfl) ?_;clear H;intro w _ H
  subst ex54
  refine ⟨m_30 - 1,by omega,i+1,x54,x54c,x54r,?_,?_,by omega,by omega,?_⟩
  ·rw [wi64_of (by omega) (by omega)];simp
  ·omega
  ·rw [reps_snoc,List.flatMap_append,List.drop_drop]
   simp only [fm1,fm2,fm3]
   exact H.sub (sc1) (fun r hr=>mt hr)
 ·rw [decide_eq_false_iff_not] at h
  obtain rfl:i=k:=by omega
  replace H:=H.r2.freeze
  have hU3:rdBody xs=some { kind:=1,sender:=n32 ys,ntp:=n64 (ys.drop 4),rtp:=n32 (ys.drop 12),packets:=n32 (ys.drop 16),octets:=n32 (ys.drop 20),reports:=reps i (ys.drop 24),ext:=(ys.drop 24).drop (24*i) }:=by rw [hU,if_neg (by omega)]
  refine ⟨fun h2=>?_,fun h2=>?_⟩
  ·rw [decide_eq_true_eq] at h2
   rw [Int.toNat_natCast]
   refine ⟨by omega,by omega,?_⟩
   refine ⟨_,rfl,?_⟩
   refine sSt1 H (by exact add_flat _ _ _) (by kernel_rfl) (by rfl) (by rfl) ?_;clear H;intro w _ H
   refine ⟨_,rfl,?_⟩
   replace H:=H.drew;generalize w.drew=w at H ⊢
   refine ⟨_,_,_,(H.b1.at0 rfl),?_⟩
   refine ⟨_,(H.b0.at0 rfl),?_⟩
   rw [wu8,show ((i:Nat):Int) % 256=(i:Int) by omega]
   refine ⟨fun h3=>absurd h3 (by simp),fun _=>?_⟩
   have H2:=H.skipB (xs:=ys) (a:=cutA a 4 c 1) (n:=n - 4) (c:=c - 4) (by simp) (24+24*i) (by omega)
   refine uOk (cells:=[.int .u32 (n32 ys),.int .u64 (n64 (ys.drop 4)),.int .u32 (n32 (ys.drop 12)),.int .u32 (n32 (ys.drop 16)),.int .u32 (n32 (ys.drop 20)),.slice o i oc,.slice (cutA (cutA a 4 c 1) (24+24*i) (c - 4) 1) (n - 4 - (24+24*i)) (c - 4 - (24+24*i))]) H2 (sc1) (fun r hr=>by simp [hr]) rfl ?_
   intro p hp
   obtain ⟨_,hp⟩:=gd_some hp
   rw [hU3] at hp
   cases hp
   intro G h
   have h1:=(h (.deep [_] [_]) ms).head
   have h2:=(h (.deep [_] [_]) (mt ms)).head
   refine dc (.one _) (dc (.one _) (dc (.one _) (dc (.one _) (dc (.one _) (dc h2 (dc ?_ dn))))))
   show Deep w G (.row 1 (ob ((ys.drop 24).drop (24*i)))) _
   rw [List.drop_drop]
   exact h1
  ·rw [decide_eq_false_iff_not] at h2
   refine ⟨_,rfl,?_⟩
   replace H:=H.drew;generalize w.drew=w at H ⊢
   refine ⟨_,_,_,(H.b1.at0 rfl),?_⟩
   refine ⟨_,(H.b0.at0 rfl),?_⟩
   rw [wu8,show ((i:Nat):Int) % 256=(i:Int) by omega]
   refine ⟨fun h3=>absurd h3 (by simp),fun _=>?_⟩
   refine uOk (cells:=[.int .u32 (n32 ys),.int .u64 (n64 (ys.drop 4)),.int .u32 (n32 (ys.drop 12)),.int .u32 (n32 (ys.drop 16)),.int .u32 (n32 (ys.drop 20)),.slice o i oc,.slice none 0 0]) H (sc1) (fun r hr=>by simp [hr]) rfl ?_
   intro p hp
   obtain ⟨_,hp⟩:=gd_some hp
   rw [hU3] at hp
   cases hp
   intro G h
   have h2':=(h (.deep [_] [_]) ms).head
   refine dc (.one _) (dc (.one _) (dc (.one _) (dc (.one _) (dc (.one _) (dc h2' (dc ?_ dn))))))
   have e0:ys.drop (24+24*i)=[]:=List.drop_of_length_le (by omega)
   show Deep w G (.row 1 (ob ((ys.drop 24).drop (24*i)))) _
   rw [List.drop_drop,e0]
   exact .emp _ _
theorem c156 {F:Fr} {w:World} {ex:List Ex} {ro:List Ro} {xs:List Int} {a:Option Addr} {n c:Nat} {b:Nat} {T:TypeId} {c0:Value} (H:Sat F w (.blk b T [c0,.slice none 0 0,.slice none 0 0]::ex) ro)
  (hx:Ro.B xs a n c∈ro) (hb:By xs) (hE:ErrC (gd xs=none) ro) (hd:Hd xs 201 (hC xs)) (hn:n<=1000000):Calls pg 156 #[.pointer (some ⟨b,0,none⟩),.slice a n c] w (UPost F b T 3 ex ro (gd xs)):=by
 apply of156
 have hlen:=H.lenB hx
 have hk:kindOf (hT xs) (hC xs)=2:=by rw [hd.typ];rfl
 have hU:rdBody xs=if (xs.drop 4).length < 4+24*(hC xs).toNat then none else some { kind:=2,sender:=n32 (xs.drop 4),reports:=reps (hC xs).toNat ((xs.drop 4).drop 4),ext:=((xs.drop 4).drop 4).drop (24*(hC xs).toNat) }:=by
  unfold rdBody;simp only [hk];rw [if_neg (by decide),if_pos trivial]
 rw [List.length_drop,List.drop_drop] at hU
 have hCr:0<=hC xs/\hC xs < 32:=by unfold hC;omega
 obtain ⟨k,hk2⟩:∃k:Nat,hC xs=(k:Int):=⟨(hC xs).toNat,by omega⟩
 rw [hk2,Int.toNat_natCast] at hU
 have hnc:n<=c:=(H.deep1 hx).len.2.1
 refine ⟨fun hc=>?_,fun hc=>?_⟩
 ·rw [decide_eq_true_eq] at hc
  exact uErr H (List.Sublist.refl _) (fun _ h=>h) hE rfl (gd_none (by rw [hU,if_pos (by omega)])) (by decide)
 rw [decide_eq_false_iff_not] at hc
 refine sNew H ?_;clear H;intro b2 w _ H
 refine call_j (c55 H hx hb hd.ok) ?_
 rintro _ w ⟨rfl,H⟩
 refine ⟨_,rfl,by simp [isIf],fun h=>absurd h (by decide),fun _=>?_⟩
 refine ⟨_,(H.b0.at0 rfl),?_⟩
 rw [hd.typ]
 refine fF ?_
 refine ⟨by omega,by omega,?_⟩
 refine call_j (c150 (Rd.skip (Sat.rd H hx) _ (by omega)) (hb.drop 4) (by omega)) ?_
 rintro _ w ⟨rfl,g⟩
 replace H:=H.grow g;clear g
 refine ⟨_,rfl,?_⟩
 refine ⟨_,rfl,?_⟩
 refine sSt1 H (by exact add_flat _ _ _) (by kernel_rfl) (by rfl) (by rfl) ?_;clear H;intro w _ H
 rw [hk2] at H

 have hend:∀(w:World) (i:Nat) (o:Option Addr) (oc:Nat) (r:Option Nat),i<=k->8+24*i<=n->(i < k->n < 8+24*k) ->
   Sat F w (.blk b2 109 [.bool (hP xs),.int .u8 (k:Int),.int .u8 (hT xs),.int .u16 (hL xs)]::.blk b T [.int .u32 (n32 (xs.drop 4)),.slice o i oc,.slice (cutA a (8+24*i) c 1) (n - (8+24*i)) (c - (8+24*i))]::.own 275 7 o i oc r ((reps i (xs.drop 8)).flatMap Rep.dat)::ex) ro ->
   (((IntKind.u8.wrap ((i:Nat):Int)) != (k:Int))=true->∃x,w.cell? ⟨0,0,none⟩=some x/\UPost F b T 3 ex ro (gd xs) (.returned x) w) /\
   (((IntKind.u8.wrap ((i:Nat):Int)) != (k:Int))=false->UPost F b T 3 ex ro (gd xs) (.returned .nilIface) w):=by
  intro w i o oc r hik hin hshort H
  rw [wu8,show ((i:Nat):Int) % 256=(i:Int) by omega]
  refine ⟨fun h=>?_,fun h=>?_⟩
  ·have hne:¬(i:Int)=(k:Int):=by simpa using h
   exact uErr H (by exact List.Sublist.cons _ (List.Sublist.cons_cons _ (sc1))) (fun _ h=>h) hE (by rfl) (gd_none (by rw [hU,if_pos (by have:=hshort (by omega);omega)])) (by decide)
  ·have he:(i:Int)=(k:Int):=by simpa using h
   obtain rfl:i=k:=by omega
   have H1:=(H.r2.freeze).skipB (xs:=xs) (a:=a) (n:=n) (c:=c) (by simp [hx]) (8+24*i) (by omega)
   refine uOk (cells:=[.int .u32 (n32 (xs.drop 4)),.slice o i oc,.slice (cutA a (8+24*i) c 1) (n - (8+24*i)) (c - (8+24*i))]) H1 (sc1) (fun r hr=>by simp [hr]) rfl ?_
   intro p hp
   obtain ⟨_,hp⟩:=gd_some hp
   rw [hU,if_neg (by omega)] at hp
   cases hp
   intro G h
   have h1:=(h (.deep [_] [_]) ms).head
   have h2:=(h (.deep [_] [_]) (mt ms)).head
   refine dc (.one _) (dc h2 (dc ?_ dn))
   show Deep w G (.row 1 (ob ((xs.drop 8).drop (24*i)))) _
   rw [List.drop_drop]
   exact h1
 refine ⟨fun i18 m_14 w=>∃(i:Nat) (o:Option Addr) (oc:Nat) (r:Option Nat),i18=((8+24*i:Nat):Int)/\i+m_14=k/\8+24*i<=n /\
  Sat F w (.blk b2 109 [.bool (hP xs),.int .u8 (k:Int),.int .u8 (hT xs),.int .u16 (hL xs)]::.blk b T [.int .u32 (n32 (xs.drop 4)),.slice o i oc,.slice none 0 0]::.own 275 7 o i oc r ((reps i (xs.drop 8)).flatMap Rep.dat)::ex) ro,⟨k,0,none,0,none,rfl,by omega,by omega,(H.nilOwn 275 7).u2⟩,?_⟩
 clear H;rintro dd13 i18 m_14 w ⟨i,o,oc,r,rfl,him,hio,H⟩
 have eoff:IntKind.i64.wrap ((8:Int)+(IntKind.i64.wrap (((i:Nat):Int)*(24:Int))))=((8+24*i:Nat):Int):=by rw [wi64_of (n:=(i:Int)*24) (by omega) (by omega),wi64_of (by omega) (by omega)];omega
 refine ⟨fun h=>?_,fun h=>?_⟩
 ·rw [decide_eq_true_eq] at h
  refine ⟨_,rfl,?_⟩
  replace H:=H.drew;generalize w.drew=w at H ⊢
  refine ⟨_,_,_,(H.b1.at0 rfl),?_⟩
  refine ⟨_,(H.b0.at0 rfl),?_⟩
  rw [wi64_of (n:=(k:Int)) (by omega) (by omega)]
  refine ⟨fun h2=>?_,fun h2=>?_⟩
  ·rw [decide_eq_true_eq] at h2
   refine sNew H ?_;clear H;intro b22 w _ H
   rw [Int.toNat_natCast]
   refine ⟨by omega,by omega,?_⟩
   have H1:=H.skipB hx (8+24*i) (by omega)
   refine call_j (c152 H1 ms (hb.drop _) (hE.mono (fun r h=>mt h))) ?_
   clear H H1
   rintro en w (⟨hbad,e,rfl,he1,he2,H⟩ | ⟨hgood,rfl,H⟩)
   ·refine ⟨_,rfl,he1,fun _=>?_,fun h=>by rw [he2] at h;cases h⟩
    refine ⟨e,[.int .u32 (n32 (xs.drop 4)),.slice o i oc,.slice none 0 0],ro,rfl,he1,fun _ h=>h,rfl,H.sub ?_ (fun r hr=>mt hr),?_⟩
    ·exact List.Sublist.cons _ (List.Sublist.cons _ (List.Sublist.cons_cons _ (sc1)))
    ·intro p hp
     obtain ⟨_,hp⟩:=gd_some hp
     rw [hU,if_pos (by omega)] at hp
     cases hp
   refine ⟨_,rfl,by simp [isIf],fun h=>absurd h (by decide),fun _=>?_⟩
   refine ⟨r,?_⟩;replace H:=H.drew;generalize w.drew=wd2 at H ⊢;have K:=grew_refl wd2 (r)
   refine ⟨_,rfl,?_⟩
   refine ⟨(H.ne (mt (mt ms)) (mt (mt (mt ms)))),?_⟩
   refine ⟨H.b2.row,?_⟩
   refine ⟨_,_,_,(H.b2.at0 rfl),?_⟩
   refine ⟨(H.ne ms (mt (mt (mt ms)))),?_⟩
   refine ⟨H.b0.row,?_⟩
   refine ⟨_,_,_,_,_,_,_,H.b0.ld,?_⟩
   refine ⟨rfl,?_⟩
   refine sNew H ?_;clear H;intro b36 w g H;replace K:=gtr K (grew_none _ g);clear g
   refine ⟨K,?_⟩
   refine sApp4 H (bytes:=28) (by kernel_rfl) (repV (xs.drop (8+24*i))) (Rep.dat (rep1 (xs.drop (8+24*i)))) (by rfl) (fun j u hu=>by rw [add_flat,Nat.zero_add];exact H.b0.cell hu) (fun G h=>by rw [<-repV_dat];exact DeepL.ones _) (by simp [Value.oneCell',repV]) (by unfold maxLen;omega) (by omega) ?_
   clear H;intro x38 x38l x38c x38r w ex38 g H
   replace K:=gtr K g;clear g;replace H:=H.d1
   refine ⟨K,?_⟩
   refine ⟨_,rfl,?_⟩
   refine sSt2 H (by exact add_flat _ _ _) (by kernel_rfl) (by rfl) (by rfl) ?_;clear H;intro w _ H
   subst ex38
   refine ⟨m_14 - 1,by omega,i+1,x38,x38c,x38r,?_,by omega,by omega,?_⟩
   ·rw [wi64_of (by omega) (by omega)];omega
   ·rw [reps_snoc,List.flatMap_append,List.drop_drop]
    simp only [fm1,fm2,fm3]
    exact H.sub (sc1) (fun r hr=>mt hr)
  ·rw [decide_eq_false_iff_not] at h2
   refine ⟨_,rfl,?_⟩
   refine ⟨_,_,_,(H.b1.at0 rfl),?_⟩
   rw [eoff,Int.toNat_natCast]
   refine ⟨by omega,by omega,?_⟩
   refine ⟨_,rfl,?_⟩
   refine sSt1 H (by exact add_flat _ _ _) (by kernel_rfl) (by rfl) (by rfl) ?_;clear H;intro w _ H
   refine ⟨_,rfl,?_⟩
   replace H:=H.drew;generalize w.drew=w at H ⊢
   refine ⟨_,_,_,(H.b1.at0 rfl),?_⟩
   refine ⟨_,(H.b0.at0 rfl),?_⟩
   exact hend w i o oc r (by omega) hio (fun h=>by omega) H
 ·rw [decide_eq_false_iff_not] at h
  refine ⟨_,rfl,?_⟩
  replace H:=H.drew;generalize w.drew=w at H ⊢
  refine ⟨_,_,_,(H.b1.at0 rfl),?_⟩
  rw [eoff,Int.toNat_natCast]
  refine ⟨by omega,by omega,?_⟩
  refine ⟨_,rfl,?_⟩
  refine sSt1 H (by exact add_flat _ _ _) (by kernel_rfl) (by rfl) (by rfl) ?_;clear H;intro w _ H
  refine ⟨_,rfl,?_⟩
  replace H:=H.drew;generalize w.drew=w at H ⊢
  refine ⟨_,_,_,(H.b1.at0 rfl),?_⟩
  refine ⟨_,(H.b0.at0 rfl),?_⟩
  exact hend w i o oc r (by omega) hio (fun h=>by omega) H
theorem n32_takem {ys:List Int} {m:Nat} (h:4<=m):n32 (ys.take m)=n32 ys:=by
 unfold n32 n16
 rw [getD_drop,getD_drop,getD_drop,getD_drop,getD_take (by omega),getD_take (by omega),getD_take (by omega),getD_take (by omega)]
theorem c248 {F:Fr} {w:World} {ex:List Ex} {ro:List Ro} {xs:List Int} {a:Option Addr} {n c:Nat} {b:Nat} {T:TypeId} {c0:Value} (H:Sat F w (.blk b T [c0]::ex) ro)
  (hx:Ro.B xs a n c∈ro) (hb:By xs) (hok:hdrOk xs=true):Calls pg 248 #[.pointer (some ⟨b,0,none⟩),.slice a n c] w fun en w'=>en=.returned .nilIface/\Sat F w' (.blk b T [.slice a n c]::ex) ro:=by
 apply of248
 have hlen:=H.lenB hx
 have h4:4<=xs.length:=by
  simp only [hdrOk,Bool.and_eq_true,decide_eq_true_eq] at hok
  exact hok.1
 refine ⟨fun hc=>?_,fun hc=>?_⟩
 ·rw [decide_eq_true_eq] at hc;omega
 refine ⟨_,rfl,?_⟩
 refine sSt0 H (by rfl) (by kernel_rfl) (by rfl) (by rfl) ?_;clear H;intro w _ H
 refine sNew H ?_;clear H;intro b4 w _ H
 refine call_j (c55 H hx hb hok) ?_
 rintro _ w ⟨rfl,H⟩
 refine ⟨_,rfl,?_⟩
 exact ⟨rfl,H.d1⟩
theorem c177 {F:Fr} {w:World} {ex:List Ex} {ro:List Ro} {xs:List Int} {a:Option Addr} {n c:Nat} {b:Nat} {T:TypeId} {c0 c1 c2 c3:Value} (H:Sat F w (.blk b T [c0,c1,c2,c3]::ex) ro)
  (hx:Ro.B xs a n c∈ro) (hb:By xs) (hE:ErrC (gd xs=none) ro) (hd:Hd xs 204 (hC xs)) (hn:n<=1000000):Calls pg 177 #[.pointer (some ⟨b,0,none⟩),.slice a n c] w (UPost F b T 4 ex ro (gd xs)):=by
 apply of177
 have hlen:=H.lenB hx
 have hk:kindOf (hT xs) (hC xs)=5:=by rw [hd.typ];rfl
 have hU:rdBody xs=if (xs.drop 4).length < 8 then none else some { kind:=5,sender:=n32 (xs.drop 4),text:=strOfNums (((xs.drop 4).drop 4).take 4),sub:=hC xs,data:=(xs.drop 4).drop 8 }:=by
  unfold rdBody;simp only [hk];rw [if_neg (by decide),if_neg (by decide),if_neg (by decide),if_neg (by decide),if_pos trivial]
 rw [List.length_drop,List.drop_drop,List.drop_drop] at hU
 have hLn:=hd.len
 rw [hlen] at hLn
 have hnc:n<=c:=(H.deep1 hx).len.2.1
 refine sNew H ?_;clear H;intro b1 w _ H
 refine sSw0 H rfl (by kernel_rfl) (by rfl) (by rfl) ?_;clear H;intro w _ H
 refine call_j (c55 H hx hb hd.ok) ?_
 rintro _ w ⟨rfl,H⟩
 refine ⟨_,rfl,by simp [isIf],fun h=>absurd h (by decide),fun _=>?_⟩
 refine ⟨fun hc=>?_,fun hc=>?_⟩
 ·rw [decide_eq_true_eq] at hc
  exact uErr H (sc1) (fun _ h=>h) hE rfl (gd_none (by rw [hU,if_pos (by omega)])) (by decide)
 rw [decide_eq_false_iff_not] at hc
 refine ⟨_,(H.b0.at0 rfl),?_⟩
 rw [wi64_of (n:=hL xs) (by omega) (by omega),wi64_of (n:=hL xs+1) (by omega) (by omega),wi64_of (n:=(hL xs+1)*4) (by omega) (by omega),show (hL xs+1)*4=(n:Int) by omega]
 refine ⟨fun h=>absurd h (by simp),fun _=>?_⟩
 refine ⟨_,(H.b0.at0 rfl),?_⟩
 refine ⟨_,rfl,?_⟩
 refine sSt1 H (by exact add_flat _ _ _) (by kernel_rfl) (by rfl) (by rfl) ?_;clear H;intro w _ H
 refine ⟨by omega,by omega,?_⟩
 refine ⟨by omega,by omega,?_⟩
 have H4:=H.cutB hx 4 8 (by omega) (by omega)
 refine call_j (c150 (Sat.rd H4 ms) ((hb.drop 4).take _) (by omega)) ?_
 clear H4
 rintro _ w ⟨rfl,g⟩
 have e32:n32 ((xs.drop 4).take (8 - 4))=n32 (xs.drop 4):=n32_takem (by decide)
 rw [e32]
 replace H:=H.grow g;clear g
 refine ⟨_,rfl,?_⟩
 refine ⟨_,rfl,?_⟩
 refine sSt1 H (by exact add_flat _ _ _) (by kernel_rfl) (by rfl) (by rfl) ?_;clear H;intro w _ H
 refine ⟨by omega,by omega,?_⟩
 refine ⟨by omega,by omega,?_⟩
 have H8:=H.cutB hx 8 12 (by omega) (by omega)
 refine ⟨_,_,sStr H8 ms uSl uU8 uStr,?_⟩
 clear H8
 refine ⟨_,rfl,?_⟩
 refine sSt1 H (by exact add_flat _ _ _) (by kernel_rfl) (by rfl) (by rfl) ?_;clear H;intro w _ H
 refine ⟨_,(H.b0.at0 rfl),?_⟩
 have hrest:∀pd:Nat,pd<=n - 12->(pd=0\/hP xs=true)->∃p_24,some (⟨b,0,none⟩:Addr)=some p_24/\∃w_25,StV pg 22 (p_24.add 3) (.slice (cutA a 12 c 1) (n - pd - 12) (c - 12)) w w_25/\UPost F b T 4 ex ro (gd xs) (.returned .nilIface) w_25:=by
  intro pd hpd hpz
  have hnn:(n - pd) - 12=n - pd - 12:=rfl
  refine ⟨_,rfl,?_⟩
  refine sSt1 H (by exact add_flat _ _ _) (by kernel_rfl) (by rfl) (by rfl) ?_;clear H;intro w _ H
  have H2:=H.cutB hx 12 (n - pd) (by omega) (by omega)
  refine uOk (cells:=[.int .u8 (hC xs),.int .u32 (n32 (xs.drop 4)),.string (strOfNums ((xs.drop 8).take (12 - 8))),.slice (cutA a 12 c 1) (n - pd - 12) (c - 12)]) H2 (sc1) (fun r hr=>by simp [hr]) rfl ?_
  intro p hp
  obtain ⟨hpf,hp⟩:=gd_some hp
  rw [hU,if_neg (by omega)] at hp
  cases hp
  have hp0:pd=0:=by
   rcases hpz with h | h
   ·exact h
   ·rw [hpf] at h;cases h
  subst hp0
  intro G h
  have h1:=(h (.deep [_] [_]) ms).head
  refine dc (.one _) (dc (.one _) (dc (.one _) (dc ?_ dn)))
  have et:(xs.drop 12).take (n - 0 - 12)=xs.drop 12:=List.take_of_length_le (by rw [List.length_drop];omega)
  rw [et] at h1
  exact h1
 cases hpp:hP xs with
 | true=>
  rw [hpp] at H hrest
  refine fT ?_
  have e1:IntKind.i64.wrap (((n:Nat):Int) - (1:Int))=((n - 1:Nat):Int):=by rw [wi64_of (by omega) (by omega)];omega
  have e12:IntKind.i64.wrap (((n:Nat):Int) - (12:Int))=((n - 12:Nat):Int):=by rw [wi64_of (by omega) (by omega)];omega
  rw [e1]
  obtain ⟨p_21,ep_21,hp_21,_,_⟩:=H.at_ (a:=a) hx (by omega)
  refine ⟨p_21,ep_21,by omega,by omega,?_⟩
  refine ⟨_,(by rw [Int.toNat_natCast,Nat.mul_one];exact hp_21 (n - 1) (by omega)),?_⟩
  have hl:=hb.getD (n - 1)
  generalize xs.getD (n - 1) 0=y at hl ⊢
  obtain ⟨pd,rfl⟩:=Int.eq_ofNat_of_zero_le hl.1
  rw [wi64_of (n:=(pd:Int)) (by omega) (by omega),e12]
  refine ⟨fun h=>?_,fun h=>?_⟩
  ·rw [decide_eq_true_eq] at h
   exact uErr (cells:=[.int .u8 (hC xs),.int .u32 (n32 (xs.drop 4)),.string (strOfNums ((xs.drop 8).take (12 - 8))),c3]) H (sc1) (fun _ h=>h) hE rfl (by unfold gd;rw [hpp];rfl) (by decide)
  ·rw [decide_eq_false_iff_not] at h
   have e3:IntKind.i64.wrap (((n:Nat):Int) - (pd:Int))=((n - pd:Nat):Int):=by rw [wi64_of (by omega) (by omega)];omega
   rw [e3,Int.toNat_natCast]
   refine ⟨by omega,by omega,?_⟩
   refine ⟨by omega,by omega,?_⟩
   exact hrest pd (by omega) (.inr rfl)
 | false=>
  refine fF ?_
  have e3:IntKind.i64.wrap (((n:Nat):Int) - (0:Int))=((n - 0:Nat):Int):=by rw [wi64_of (by omega) (by omega)];omega
  rw [e3,Int.toNat_natCast]
  refine ⟨by omega,by omega,?_⟩
  refine ⟨by omega,by omega,?_⟩
  exact hrest 0 (by omega) (.inl rfl)

/-! ### Bytes that are being written -/
def u8s (l:List Int):List Value:=l.map (Value.int .u8)
theorem u8s_length (l:List Int):(u8s l).length=l.length:=by simp [u8s]
def pre (ys:List Int) (k N:Nat):List Int:=ys.take k++List.replicate (N - k) 0
theorem pre_length {ys:List Int} {k N:Nat} (h:k<=N) (hy:N<=ys.length):(pre ys k N).length=N:=by simp [pre];omega
theorem pre_zero (ys:List Int) (N:Nat):pre ys 0 N=List.replicate N 0:=by simp [pre]
theorem pre_set {ys:List Int} {k N:Nat} (h:k < N) (hy:N<=ys.length):(pre ys k N).set k (ys.getD k 0)=pre ys (k+1) N:=by
 unfold pre
 have hl:(ys.take k).length=k:=by simp;omega
 have ht:ys.take (k+1)=ys.take k++[ys[k]'(by omega)]:=by rw [List.take_add_one,List.getElem?_eq_getElem (show k < ys.length by omega)];rfl
 rw [List.set_append_right _ _ (by omega),hl,Nat.sub_self,ht]
 obtain ⟨q,hq⟩:∃q,N - k=q+1:=⟨N - k - 1,by omega⟩
 rw [hq,List.replicate_succ,List.set_cons_zero,show N - (k+1)=q by omega,List.append_assoc,List.singleton_append]
 congr 2
 simp [List.getD,List.getElem?_eq_getElem (show k < ys.length by omega)]
theorem pre_full {ys:List Int} {k N:Nat} (hN:N=ys.length) (hk:k<=N) (hz:(ys.drop k).all (· == 0)=true):pre ys k N=ys:=by
 unfold pre
 have:ys.drop k=List.replicate (N - k) 0:=by
  rw [List.eq_replicate_iff]
  refine ⟨by simp [hN],fun x hx=>?_⟩
  have:=List.all_eq_true.1 hz x hx
  simpa using this
 rw [<-this,List.take_append_drop]
theorem sStB {F:Fr} {w:World} {g:Nat} {t:TypeId} {l:List Int} {ex:List Ex} {ro:List Ro} (H:Sat F w (.blk g t (u8s l)::ex) ro) {a:Addr} {i:Nat} {x:Int} {K:World->Prop} (ha:a=⟨g,i,none⟩) (hi:i < l.length)
  (h:∀w',w.grownBy w' (some g)->Sat F w' (.blk g t (u8s (l.set i x))::ex) ro->K w'):∃w',StV pg 5 a (.int .u8 x) w w'/\K w':=by
 refine sSt0 H ha (by kernel_rfl) ?_ (by rfl) ?_
 ·rw [u8s_length]
  exact Nat.ble_eq_true_of_le (show i+1<=l.length by omega)
 ·intro w' hg H1
  refine h w' hg ?_
  have e:putL (u8s l) i (Value.int .u8 x).cells.toList=u8s (l.set i x):=by
   show (u8s l).set i (Value.int .u8 x)=_
   unfold u8s
   rw [List.map_set]
  rw [e] at H1
  exact H1
theorem Sat.bcell {F:Fr} {w:World} {g:Nat} {t:TypeId} {l:List Int} {ex:List Ex} {ro:List Ro} (H:Sat F w (.blk g t (u8s l)::ex) ro) {a:Addr} {i:Nat} (ha:a=⟨g,i,none⟩) (hi:i < l.length):w.cell? a=some (.int .u8 (l.getD i 0)):=by
 subst ha
 refine H.b0.cell ?_
 unfold u8s
 rw [List.getElem?_map,List.getElem?_eq_getElem hi]
 simp [List.getD,List.getElem?_eq_getElem hi]
theorem c89 {F:Fr} {w:World} {g:Nat} {t:TypeId} {l:List Int} {ex:List Ex} {ro:List Ro} (H:Sat F w (.blk g t (u8s l)::ex) ro) {o n c:Nat} {v:Int} (hv:0<=v/\v < 65536) (hn:2<=n) (ho:o+2<=l.length) :
  Calls pg 89 #[.slice (some ⟨g,o,none⟩) n c,.int .u16 v] w fun en w'=>en=.returned (.tuple #[])/\Sat F w' (.blk g t (u8s ((l.set o (v / 256)).set (o+1) (v % 256)))::ex) ro:=by
 apply of89
 refine ⟨_,rfl,by omega,by omega,?_⟩
 refine ⟨_,H.bcell (i:=o+1) (by rw [add_flat];rfl) (by omega),?_⟩
 refine ⟨_,rfl,by omega,by omega,?_⟩
 rw [ishr_of (b:=(8:Int)) 8 (by rfl) (by decide),wu8,show v / 2 ^ 8 % 256=v / 256 by omega]
 refine sStB H (i:=o) (by rw [add_flat];rfl) (by omega) ?_
 clear H;intro w _ H
 refine ⟨_,rfl,by omega,by omega,?_⟩
 rw [wu8]
 refine sStB H (i:=o+1) (by rw [add_flat];rfl) (by simp;omega) ?_
 clear H;intro w _ H
 exact ⟨rfl,H⟩
theorem c144 {F:Fr} {w:World} {g:Nat} {t:TypeId} {l:List Int} {ex:List Ex} {ro:List Ro} (H:Sat F w (.blk g t (u8s l)::ex) ro) {o n c:Nat} {v:Int} (hv:0<=v/\v < 4294967296) (hn:4<=n) (ho:o+4<=l.length) :
  Calls pg 144 #[.slice (some ⟨g,o,none⟩) n c,.int .u32 v] w fun en w'=>en=.returned (.tuple #[])/\Sat F w' (.blk g t (u8s ((((l.set o (v / 16777216)).set (o+1) (v / 65536 % 256)).set (o+2) (v / 256 % 256)).set (o+3) (v % 256)))::ex) ro:=by
 apply of144
 refine ⟨_,rfl,by omega,by omega,?_⟩
 refine ⟨_,H.bcell (i:=o+3) (by rw [add_flat];rfl) (by omega),?_⟩
 refine ⟨_,rfl,by omega,by omega,?_⟩
 rw [ishr_of (b:=(24:Int)) 24 (by rfl) (by decide),wu8,show v / 2 ^ 24 % 256=v / 16777216 by omega]
 refine sStB H (i:=o) (by rw [add_flat];rfl) (by omega) ?_
 clear H;intro w _ H
 refine ⟨_,rfl,by omega,by omega,?_⟩
 rw [ishr_of (b:=(16:Int)) 16 (by rfl) (by decide),wu8,show v / 2 ^ 16 % 256=v / 65536 % 256 by omega]
 refine sStB H (i:=o+1) (by rw [add_flat];rfl) (by simp;omega) ?_
 clear H;intro w _ H
 refine ⟨_,rfl,by omega,by omega,?_⟩
 rw [ishr_of (b:=(8:Int)) 8 (by rfl) (by decide),wu8,show v / 2 ^ 8 % 256=v / 256 % 256 by omega]
 refine sStB H (i:=o+2) (by rw [add_flat];rfl) (by simp;omega) ?_
 clear H;intro w _ H
 refine ⟨_,rfl,by omega,by omega,?_⟩
 rw [wu8]
 refine sStB H (i:=o+3) (by rw [add_flat];rfl) (by simp;omega) ?_
 clear H;intro w _ H
 exact ⟨rfl,H⟩
/-! ### Numbers -/
theorem c199 {w:World} {src val q size start:Int} (k:Nat) {m:Nat} (hk:(k:Int)+size+start=16) (hsz:(size=1/\m=2)\/(size=2/\m=4)\/(size=13/\m=8192)) (hst:0<=start) (hs:src=q*(m*2 ^ k)) (hq:0<=q/\src+m*2 ^ k<=65536) (hv:0<=val/\val < m) :
  Calls pg 199 #[.int .u16 src,.int .u16 size,.int .u16 start,.int .u16 val] w fun en w'=>en=.returned (.tuple #[.int .u16 (src+val*2 ^ k),.nilIface])/\w.grownBy w' none:=by
 apply of199
 refine ⟨fun hc=>?_,fun hc=>?_⟩
 ·rw [decide_eq_true_eq,wu16] at hc;omega
 have ek:IntKind.u16.wrap ((IntKind.u16.wrap ((16:Int) - size)) - start)=(k:Int):=by rw [wu16,wu16];omega
 have hk16:k<=15:=by omega
 have hp:(0:Int) < 2 ^ k:=Int.pow_pos (by omega)
 have hv2:val*2 ^ k < m*2 ^ k:=Int.mul_lt_mul_of_pos_right hv.2 hp
 have hv0:0<=val*2 ^ k:=Int.mul_nonneg hv.1 (by omega)
 have hs0:0<=src:=by rw [hs];exact Int.mul_nonneg hq.1 (Int.mul_nonneg (by omega) (by omega))
 have hm:iand .u16 val (IntKind.u16.wrap ((ishl .u16 (1:Int) size) - (1:Int)))=val:=by
  rcases hsz with ⟨rfl,rfl⟩ | ⟨rfl,rfl⟩ | ⟨rfl,rfl⟩
  ·rw [ishl_of (b:=(1:Int)) 1 (by rfl) (by decide),iand_low (k:=.u16) (by rfl) 1 hv.1 (by simp only [IntKind.bits];omega) (by rfl) (by decide)];omega
  ·rw [ishl_of (b:=(2:Int)) 2 (by rfl) (by decide),iand_low (k:=.u16) (by rfl) 2 hv.1 (by simp only [IntKind.bits];omega) (by rfl) (by decide)];omega
  ·rw [ishl_of (b:=(13:Int)) 13 (by rfl) (by decide),iand_low (k:=.u16) (by rfl) 13 hv.1 (by simp only [IntKind.bits];omega) (by rfl) (by decide)];omega
 have key:ior .u16 src (ishl .u16 val (k:Int))=src+val*2 ^ k:=by
  rw [ishl_of (k:=.u16) k rfl (by simp only [IntKind.bits];omega),wu16,Int.emod_eq_of_lt hv0 (by omega)]
  have hpow:∀e:Nat,(m:Int)=2 ^ e->ior .u16 src (val*2 ^ k)=src+val*2 ^ k:=by
   intro e he
   refine ior_add (k:=.u16) (by rfl) (e+k) q ?_ hq.1 hv0 ?_ (by simp only [IntKind.bits];omega)
   ·rw [hs,he,Int.pow_add]
   ·rw [Int.pow_add,<-he];exact hv2
  rcases hsz with ⟨_,rfl⟩ | ⟨_,rfl⟩ | ⟨_,rfl⟩
  ·exact hpow 1 rfl
  ·exact hpow 2 rfl
  ·exact hpow 13 rfl
 refine ⟨by omega,by rw [ek];omega,?_⟩
 rw [ek,hm,key]
 exact ⟨rfl,grew_refl _ _⟩
def u32s (l:List Int):List Value:=l.map (Value.int .u32)
theorem u32s_length (l:List Int):(u32s l).length=l.length:=by simp [u32s]
theorem sStU {F:Fr} {w:World} {g:Nat} {t:TypeId} {l:List Int} {ex:List Ex} {ro:List Ro} (H:Sat F w (.blk g t (u32s l)::ex) ro) {a:Addr} {i:Nat} {x:Int} {K:World->Prop} (ha:a=⟨g,i,none⟩) (hi:i < l.length)
  (h:∀w',w.grownBy w' (some g)->Sat F w' (.blk g t (u32s (l.set i x))::ex) ro->K w'):∃w',StV pg 51 a (.int .u32 x) w w'/\K w':=by
 refine sSt0 H ha (by kernel_rfl) ?_ (by rfl) ?_
 ·rw [u32s_length]
  exact Nat.ble_eq_true_of_le (show i+1<=l.length by omega)
 ·intro w' hg H1
  refine h w' hg ?_
  have e:putL (u32s l) i (Value.int .u32 x).cells.toList=u32s (l.set i x):=by
   show (u32s l).set i (Value.int .u32 x)=_
   unfold u32s
   rw [List.map_set]
  rw [e] at H1
  exact H1
theorem words_len:∀(k:Nat) (ys:List Int),(words k ys).length=k
 | 0,_=>rfl
 | k+1,ys=>by simp [words,words_len k]
theorem words_getD:∀(k:Nat) (ys:List Int) (i:Nat),i < k->(words k ys).getD i 0=n32 (ys.drop (4*i))
 | 0,_,_,h=>by omega
 | k+1,ys,0,_=>by simp [words]
 | k+1,ys,i+1,h=>by
  rw [words,List.getD_cons_succ,words_getD k _ i (by omega),List.drop_drop]
  congr 2
  omega
theorem c149 {w:World} {n:Nat} (h:n % 4=0):Calls pg 149 #[.int .i64 (n:Int)] w fun en w'=>en=.returned (.int .i64 0)/\w.grownBy w' none:=by
 apply of149
 refine ⟨by decide,?_⟩
 have ht:((n:Nat):Int).tmod 4=0:=by rw [Int.tmod_eq_emod_of_nonneg (by omega)];omega
 rw [ht]
 exact ⟨fun _=>⟨rfl,grew_refl _ _⟩,fun h=>absurd h (by decide)⟩
theorem c172 {F:Fr} {w:World} {ex:List Ex} {ro:List Ro} {xs:List Int} {a:Option Addr} {n c:Nat} {b:Nat} {T:TypeId} {c0:Value} (H:Sat F w (.blk b T [c0,.string ⟨#[]⟩]::ex) ro)
  (hx:Ro.B xs a n c∈ro) (hb:By xs) (hE:ErrC (gd xs=none) ro) (hd:Hd xs 203 (hC xs)) (hn:n<=1000000):Calls pg 172 #[.pointer (some ⟨b,0,none⟩),.slice a n c] w (UPost F b T 2 ex ro (gd xs)):=by
 apply of172
 have hlen:=H.lenB hx
 have hk:kindOf (hT xs) (hC xs)=4:=by rw [hd.typ];rfl
 have hU:rdBody xs=rdBye (hC xs).toNat (xs.drop 4):=by
  unfold rdBody;simp only [hk];rw [if_neg (by decide),if_neg (by decide),if_neg (by decide),if_pos trivial]
 have hLn:=hd.len
 rw [hlen] at hLn
 have hnc:n<=c:=(H.deep1 hx).len.2.1
 have h4:4<=xs.length:=by
  have:=hd.ok
  simp only [hdrOk,Bool.and_eq_true,decide_eq_true_eq] at this
  exact this.1
 have hCr:0<=hC xs/\hC xs < 32:=by unfold hC;omega
 obtain ⟨k,hk2⟩:∃k:Nat,hC xs=(k:Int):=⟨(hC xs).toNat,by omega⟩
 rw [hk2,Int.toNat_natCast] at hU
 have hyl:(xs.drop 4).length=n - 4:=by rw [List.length_drop,hlen]
 refine sNew H ?_;clear H;intro b1 w _ H
 refine call_j (c55 H hx hb hd.ok) ?_
 rintro _ w ⟨rfl,H⟩
 refine ⟨_,rfl,by simp [isIf],fun h=>absurd h (by decide),fun _=>?_⟩
 refine ⟨_,(H.b0.at0 rfl),?_⟩
 rw [hd.typ]
 refine fF ?_
 refine call_j (c149 (by omega)) ?_
 rintro _ w ⟨rfl,g⟩
 replace H:=H.grow g;clear g
 refine ⟨_,rfl,?_⟩
 refine fF ?_
 refine ⟨_,(H.b0.at0 rfl),?_⟩
 rw [hk2] at H
 rw [hk2]
 refine sMk H (e:=51) (z:=.int .u32 0) (bytes:=4) (by kernel_rfl) (by kernel_rfl) (by rfl) (by unfold maxLen;omega) (by omega) (n:=k) (by omega) (by omega) ?_
 clear H;intro g w _ H
 have e0:List.replicate k (Value.int .u32 0)=u32s (pre (words k (xs.drop 4)) 0 k):=by rw [pre_zero];simp [u32s]
 rw [e0] at H
 clear e0
 refine ⟨_,rfl,?_⟩
 refine sSt2 H (by exact add_flat _ _ _) (by kernel_rfl) (by rfl) (by rfl) ?_;clear H;intro w _ H
 refine ⟨_,(H.b1.at0 rfl),?_⟩
 have e5:IntKind.i64.wrap (IntKind.u8.wrap ((4:Int)+(IntKind.u8.wrap ((k:Int)*(4:Int)))))=((4+4*k:Nat):Int):=by rw [wu8,wu8,wi64_of (by omega) (by omega)];omega
 rw [e5]
 refine ⟨fun hc=>?_,fun hc=>?_⟩
 ·rw [decide_eq_true_eq] at hc
  exact uErr (cells:=[.slice (some ⟨g,0,none⟩) k k,.string ⟨#[]⟩]) H (by exact List.Sublist.cons _ (sc1)) (fun _ h=>h) hE rfl (gd_none (by rw [hU];unfold rdBye;rw [if_pos (by omega)])) (by decide)
 rw [decide_eq_false_iff_not] at hc
 refine ⟨fun i23 m_19 w=>∃i:Nat,i23=(i:Int)/\i+m_19=k /\
  Sat F w (.blk g 51 (u32s (pre (words k (xs.drop 4)) i k))::.blk b1 109 [.bool (hP xs),.int .u8 (k:Int),.int .u8 (hT xs),.int .u16 (hL xs)]::.blk b T [.slice (some ⟨g,0,none⟩) k k,.string ⟨#[]⟩]::ex) ro,⟨k,0,rfl,by omega,H⟩,?_⟩
 clear H;rintro dd18 i23 m_19 w ⟨i,rfl,him,H⟩
 refine ⟨_,(H.b1.at0 rfl),?_⟩
 rw [wi64_of (n:=(k:Int)) (by omega) (by omega)]
 refine ⟨fun h=>?_,fun h=>?_⟩
 ·rw [decide_eq_true_eq] at h
  refine ⟨none,?_⟩;replace H:=H.drew;generalize w.drew=wd1 at H ⊢;have K:=grew_refl wd1 (none)
  refine ⟨_,rfl,?_⟩
  refine ⟨nn,?_⟩
  refine ⟨H.b2.row,?_⟩
  refine ⟨_,_,_,(H.b2.at0 rfl),?_⟩
  have e4:IntKind.i64.wrap ((4:Int)+(IntKind.i64.wrap ((i:Int)*(4:Int))))=((4+4*i:Nat):Int):=by rw [wi64_of (n:=(i:Int)*4) (by omega) (by omega),wi64_of (by omega) (by omega)];omega
  rw [e4,Int.toNat_natCast]
  refine ⟨by omega,by omega,?_⟩
  refine call_j (c150 (Rd.skip (Sat.rd H hx) _ (by omega)) (hb.drop (4+4*i)) (by omega)) ?_
  rintro _ w ⟨rfl,gr⟩
  replace H:=H.grow gr;replace K:=gtr K (grew_none _ gr);clear gr
  refine ⟨_,rfl,?_⟩
  refine ⟨K,?_⟩
  refine ⟨_,rfl,by omega,by omega,?_⟩
  have hw:=words_getD k (xs.drop 4) i (by omega)
  rw [List.drop_drop] at hw
  rw [<-hw]
  refine sStU H (i:=i) (by rw [add_flat,show (i:Int).toNat*1=i by omega,Nat.zero_add]) (by rw [pre_length (by omega) (by rw [words_len];omega)];omega) ?_
  clear H K;intro w _ H
  rw [pre_set (by omega) (by rw [words_len];omega)] at H
  refine ⟨m_19 - 1,by omega,i+1,?_,by omega,H⟩
  rw [wi64_of (by omega) (by omega)];simp
 ·rw [decide_eq_false_iff_not] at h
  obtain rfl:i=k:=by omega
  have hw:pre (words i (xs.drop 4)) i i=words i (xs.drop 4):=pre_full (by rw [words_len]) (Nat.le_refl _) (by rw [List.drop_of_length_le (by rw [words_len];omega)];rfl)
  rw [hw] at H
  have eoi:oi .u32 (words i (xs.drop 4))=(u32s (words i (xs.drop 4))).map .one:=by simp [oi,u32s]
  have H1:=H.blkRow 1 i (oi .u32 (words i (xs.drop 4))) (by rw [u32s_length,words_len,Nat.mul_one]) (by unfold maxLen;omega) (fun G h=>by rw [eoi];exact DeepL.ones _)
  clear H
  have H:=H1
  clear H1
  have hro:∀r∈ro,r∈(.deep [.row 1 (oi .u32 (words i (xs.drop 4)))] [.slice (some ⟨g,0,none⟩) i i]::ro):=fun r h=>mt h
  refine ⟨fun h2=>?_,fun h2=>?_⟩
  ·rw [decide_eq_true_eq] at h2
   have h2':4+4*i < n:=by omega
   have hys:(xs.drop 4).drop (4*i)=xs.drop (4+4*i):=by rw [List.drop_drop]
   have hyy:(xs.drop (4+4*i)).length=n - (4+4*i):=by rw [List.length_drop,hlen]
   have hU2:rdBody xs=(if (xs.drop (4+4*i)).length < 1+((xs.drop (4+4*i)).getD 0 0).toNat then none else if 3 < (xs.drop (4+4*i)).length - (1+((xs.drop (4+4*i)).getD 0 0).toNat) then none else if 1+((xs.drop (4+4*i)).getD 0 0).toNat=1 then none else
     if ((xs.drop (4+4*i)).drop (1+((xs.drop (4+4*i)).getD 0 0).toNat)).all (· == 0) then some { kind:=4,sources:=words i (xs.drop 4),text:=strOfNums (((xs.drop (4+4*i)).drop 1).take (1+((xs.drop (4+4*i)).getD 0 0).toNat - 1)) } else none):=by
    rw [hU];unfold rdBye
    rw [if_neg (by omega)]
    simp only [hys]
    rw [if_neg (by omega)]
   obtain ⟨p_32,ep_32,hp_32,_,_⟩:=H.at_ (a:=a) (hro _ hx) (by omega)
   refine ⟨p_32,ep_32,by omega,by omega,?_⟩
   refine ⟨_,(by rw [Int.toNat_natCast,Nat.mul_one];exact hp_32 (4+4*i) (by omega)),?_⟩
   have hgd:(xs.drop (4+4*i)).getD 0 0=xs.getD (4+4*i) 0:=by rw [getD_drop];rfl
   have hl:=hb.getD (4+4*i)
   rw [hgd] at hU2
   generalize xs.getD (4+4*i) 0=y at hl hU2 ⊢
   obtain ⟨t,rfl⟩:=Int.eq_ofNat_of_zero_le hl.1
   rw [Int.toNat_natCast] at hU2
   rw [wi64_of (n:=(t:Int)) (by omega) (by omega),wi64_of (n:=((4+4*i:Nat):Int)+1) (by omega) (by omega),wi64_of (n:=((4+4*i:Nat):Int)+1+(t:Int)) (by omega) (by omega)]
   refine ⟨fun h3=>?_,fun h3=>?_⟩
   ·rw [decide_eq_true_eq] at h3
    exact uErr (cells:=[.slice (some ⟨g,0,none⟩) i i,.string ⟨#[]⟩]) H (sc1) hro hE rfl (gd_none (by rw [hU2,if_pos (by omega)])) (by decide)
   rw [decide_eq_false_iff_not] at h3
   rw [show (((4+4*i:Nat):Int)+1).toNat=5+4*i by omega,show (((4+4*i:Nat):Int)+1+(t:Int)).toNat=5+4*i+t by omega]
   refine ⟨by omega,by omega,?_⟩
   refine ⟨by omega,by omega,?_⟩
   have H8:=H.cutB (hro _ hx) (5+4*i) (5+4*i+t) (by omega) (by omega)
   refine ⟨_,_,sStr H8 ms uSl uU8 uStr,?_⟩
   clear H8
   refine ⟨_,rfl,?_⟩
   refine sSt1 H (by exact add_flat _ _ _) (by kernel_rfl) (by rfl) (by rfl) ?_;clear H;intro w _ H
   refine uOk (cells:=[.slice (some ⟨g,0,none⟩) i i,.string (strOfNums ((xs.drop (5+4*i)).take (5+4*i+t - (5+4*i))))]) H (sc1) hro rfl ?_
   intro p hp
   obtain ⟨_,hp⟩:=gd_some hp
   rw [hU2] at hp
   split at hp
   ·cases hp
   split at hp
   ·cases hp
   split at hp
   ·cases hp
   split at hp
   ·cases hp
    intro G h
    refine dc (h (.deep [_] [_]) ms).head (dc ?_ dn)
    have et:(xs.drop (5+4*i)).take (5+4*i+t - (5+4*i))=((xs.drop (4+4*i)).drop 1).take (1+t - 1):=by
     rw [List.drop_drop,show 4+4*i+1=5+4*i by omega,show 5+4*i+t - (5+4*i)=t by omega,show 1+t - 1=t by omega]
    rw [et]
    exact .one _
   ·cases hp
  ·rw [decide_eq_false_iff_not] at h2
   refine uOk (cells:=[.slice (some ⟨g,0,none⟩) i i,.string ⟨#[]⟩]) H (sc1) hro rfl ?_
   intro p hp
   obtain ⟨_,hp⟩:=gd_some hp
   rw [hU] at hp
   unfold rdBye at hp
   rw [if_neg (by omega)] at hp
   simp only at hp
   rw [if_pos (by rw [List.length_drop];omega)] at hp
   cases hp
   intro G h
   exact dc (h (.deep [_] [_]) ms).head (dc (.one _) dn)
theorem c167 {w:World} {t:Int} {s:ByteArray} (hs:s.size<=1000000):Calls pg 167 #[.agg #[.int .u8 t,.string s]] w fun en w'=>en=.returned (.int .i64 ((2+s.size:Nat):Int))/\w.grownBy w' none:=by
 apply of167
 have H:Sat ⟨w,fun _=>False⟩ w [] []:=Sat.start (by simp [foots]) (by simp [foots]) (by simp) (by simp)
 refine sNew H ?_;clear H;intro b1 w _ H
 refine ⟨_,(H.b0.at0 rfl),?_⟩
 refine ⟨_,_,_,_,run_bytes_of_string w 9 22 5 s uStr uSl uU8,?_⟩
 refine ⟨?_,gtr (Gr.none H.gr (fun _ _ h=>h)) (gtr (grew_drew w none) (World.grownBy_alloc w.drew _ none))⟩
 rw [wi64_of (by omega) (by omega)]
 congr 2
theorem c168 {P:Prop} {F:Fr} {w:World} {ex:List Ex} {ro:List Ro} {ys:List Int} {a:Option Addr} {n c:Nat} {b:Nat} {T:TypeId} {c0 c1:Value} (H:Sat F w (.blk b T [c0,c1]::ex) ro)
  (hx:Ro.B ys a n c∈ro) (hb:By ys) (hE:ErrC P ro) (hn:n<=1000000):Calls pg 168 #[.pointer (some ⟨b,0,none⟩),.slice a n c] w fun en w'=>
   ((n < 2\/(n:Int) < 2+ys.getD 1 0)/\∃e cells,en=.returned e/\isIf e/\isNilI e=false/\Sat F w' (.blk b T cells::ex) ro) \/
   (2+(ys.getD 1 0)<=(n:Int)/\en=.returned .nilIface/\Sat F w' (.blk b T [.int .u8 (ys.getD 0 0),.string (strOfNums ((ys.drop 2).take (ys.getD 1 0).toNat))]::ex) ro):=by
 apply of168
 have hlen:=H.lenB hx
 have hnc:n<=c:=(H.deep1 hx).len.2.1
 have h1:=hb.getD 1
 refine ⟨fun hc=>?_,fun hc=>?_⟩
 ·rw [decide_eq_true_eq] at hc
  obtain ⟨v,h1,h2,h3⟩:=hE.laid 1 (by decide)
  exact ⟨v,H.cell h1 rfl,.inl ⟨by omega,v,_,rfl,h2,h3 (by decide),H⟩⟩
 rw [decide_eq_false_iff_not] at hc
 obtain ⟨p_2,ep_2,hp_2,_,_⟩:=H.at_ (a:=a) hx (by omega)
 refine ⟨p_2,ep_2,by omega,by omega,?_⟩
 refine ⟨_,hp_2 0 (by omega),?_⟩
 refine ⟨_,rfl,?_⟩
 clear hp_2
 refine sSt0 H (by exact add_flat _ _ _) (by kernel_rfl) (by rfl) (by rfl) ?_;clear H;intro w _ H
 obtain ⟨p_6,ep_6,hp_6,_,_⟩:=H.at_ (a:=a) hx (by omega)
 refine ⟨p_6,ep_6,by omega,by omega,?_⟩
 refine ⟨_,hp_6 1 (by omega),?_⟩
 generalize hy:ys.getD 1 0=y at h1 ⊢
 obtain ⟨t,rfl⟩:=Int.eq_ofNat_of_zero_le h1.1
 rw [wi64_of (n:=(t:Int)) (by omega) (by omega),wi64_of (n:=2+(t:Int)) (by omega) (by omega)]
 refine ⟨fun h=>?_,fun h=>?_⟩
 ·rw [decide_eq_true_eq] at h
  obtain ⟨v,h1,h2,h3⟩:=hE.laid 1 (by decide)
  exact ⟨v,H.cell h1 rfl,.inl ⟨by omega,v,_,rfl,h2,h3 (by decide),H⟩⟩
 rw [decide_eq_false_iff_not] at h
 rw [show (2+(t:Int)).toNat=2+t by omega]
 refine ⟨by omega,by omega,?_⟩
 refine ⟨by omega,by omega,?_⟩
 have H8:=H.cutB hx 2 (2+t) (by omega) (by omega)
 refine ⟨_,_,sStr H8 ms uSl uU8 uStr,?_⟩
 clear H8
 refine ⟨_,rfl,?_⟩
 refine sSt0 H (by exact add_flat _ _ _) (by kernel_rfl) (by rfl) (by rfl) ?_;clear H;intro w _ H
 refine .inr ⟨by omega,rfl,?_⟩
 rw [show 2+t - 2=t by omega] at H
 rw [Int.toNat_natCast]
 exact H
def itLen (l:List Itm):Nat:=(l.map fun i=>2+i.2.size).sum
theorem itLen_snoc (l:List Itm) (i:Itm):itLen (l++[i])=itLen l+(2+i.2.size):=by simp [itLen]
theorem itLen_le:∀l:List Itm,2*l.length<=itLen l
 | []=>by simp
 | i::r=>by
  have:=itLen_le r
  simp only [itLen,List.map_cons,List.sum_cons,List.length_cons] at this ⊢
  omega
theorem Itm.dat_len (x:Itm):(Itm.dat x).length=2:=rfl
theorem c165 {P:Prop} {F:Fr} {w:World} {ex:List Ex} {ro:List Ro} {ys:List Int} {a:Option Addr} {n c:Nat} {b:Nat} {T:TypeId} {c0:Value} (H:Sat F w (.blk b T [c0,.slice none 0 0]::ex) ro)
  (hx:Ro.B ys a n c∈ro) (hb:By ys) (hE:ErrC P ro) (hn:n<=1000000):Calls pg 165 #[.pointer (some ⟨b,0,none⟩),.slice a n c] w fun en w'=>
   ((n < 5\/items ys n 4=none)/\∃e cells,en=.returned e/\isIf e/\isNilI e=false/\Sat F w' (.blk b T cells::ex) ro) \/
   (∃l o oc,items ys n 4=some (l,4+itLen l+1)/\4+itLen l+1<=n/\en=.returned .nilIface/\Sat F w' (.blk b T [.int .u32 (n32 ys),.slice o l.length oc]::ex) (.deep [.row 2 (l.flatMap Itm.dat)] [.slice o l.length oc]::ro)):=by
 apply of165
 have hlen:=H.lenB hx
 have hnc:n<=c:=(H.deep1 hx).len.2.1
 refine ⟨fun hc=>?_,fun hc=>?_⟩
 ·rw [decide_eq_true_eq] at hc
  obtain ⟨v,h1,h2,h3⟩:=hE.laid 1 (by decide)
  exact ⟨v,H.cell h1 rfl,.inl ⟨by omega,v,_,rfl,h2,h3 (by decide),H⟩⟩
 rw [decide_eq_false_iff_not] at hc
 refine call_j (c150 (Sat.rd H hx) hb (by omega)) ?_
 rintro _ w ⟨rfl,g⟩
 replace H:=H.grow g;clear g
 refine ⟨_,rfl,?_⟩
 refine ⟨_,rfl,?_⟩
 refine sSt0 H (by exact add_flat _ _ _) (by kernel_rfl) (by rfl) (by rfl) ?_;clear H;intro w _ H
 refine ⟨fun i12 m_8 w=>∃(l:List Itm) (o:Option Addr) (oc:Nat) (r:Option Nat),i12=((4+itLen l:Nat):Int)/\items ys n 4=(items ys m_8 (4+itLen l)).map (fun q=>(l++q.1,q.2))/\n < m_8+(4+itLen l)/\4+itLen l<=n /\
  Sat F w (.blk b T [.int .u32 (n32 ys),.slice o l.length oc]::.own 258 2 o l.length oc r (l.flatMap Itm.dat)::ex) ro,⟨n,[],none,0,none,rfl,by show items ys n 4=(items ys n 4).map _;cases items ys n 4<;>rfl,by simp [itLen],by simp [itLen];omega,(H.nilOwn 258 2).u1⟩,?_⟩
 clear H;rintro dd7 i12 m_8 w ⟨l,o,oc,r,rfl,hit,hm,hle,H⟩
 have hll:=itLen_le l
 refine ⟨fun h=>?_,fun h=>?_⟩
 ·rw [decide_eq_true_eq] at h
  obtain ⟨m,rfl⟩:∃m,m_8=m+1:=⟨m_8 - 1,by omega⟩
  rw [items,if_neg (by omega)] at hit
  obtain ⟨p_13,ep_13,hp_13,_,_⟩:=H.at_ (a:=a) hx (by omega)
  refine ⟨p_13,ep_13,by omega,by omega,?_⟩
  refine ⟨_,(by rw [Int.toNat_natCast,Nat.mul_one];exact hp_13 (4+itLen l) (by omega)),?_⟩
  clear ep_13 hp_13
  refine ⟨fun h0=>?_,fun h0=>?_⟩
  ·have h0:ys.getD (4+itLen l) 0=0:=by simpa using h0
   rw [if_pos h0] at hit
   simp only [Option.map_some,List.append_nil] at hit
   exact .inr ⟨l,o,oc,hit,by omega,rfl,H.r1.freeze⟩
  have h0:¬ys.getD (4+itLen l) 0=0:=by simpa using h0
  rw [if_neg h0] at hit
  refine sNew H ?_;clear H;intro b15 w _ H
  rw [Int.toNat_natCast]
  refine ⟨by omega,by omega,?_⟩
  have H1:=H.skipB hx (4+itLen l) (by omega)
  have hgd:∀j,(ys.drop (4+itLen l)).getD j 0=ys.getD (4+itLen l+j) 0:=fun j=>getD_drop _ _ _
  refine call_j (c168 H1 ms (hb.drop _) (hE.mono (fun r h=>mt h)) (by omega)) ?_
  clear H H1
  rw [hgd 1]
  rintro en w (⟨hbad,e,cells,rfl,he1,he2,H⟩ | ⟨hgood,rfl,H⟩)
  ·refine ⟨_,rfl,he1,fun _=>?_,fun h=>by rw [he2] at h;cases h⟩
   refine .inl ⟨.inr ?_,e,_,rfl,he1,he2,H.sub (by exact List.Sublist.cons _ (List.Sublist.cons_cons _ (sc1))) (fun r hr=>mt hr)⟩
   rw [hit]
   by_cases hs:ys.length < 4+itLen l+2
   ·rw [if_pos hs];rfl
   ·rw [if_neg hs,if_pos (by omega)];rfl
  have h1:=hb.getD (4+itLen l+1)
  rw [hgd 0,Nat.add_zero] at H
  generalize hy1:ys.getD (4+itLen l+1) 0=y at h1 hgood hit H
  obtain ⟨t,rfl⟩:=Int.eq_ofNat_of_zero_le h1.1
  rw [if_neg (by omega),if_neg (by omega),Int.toNat_natCast] at hit
  rw [Int.toNat_natCast,List.drop_drop] at H
  generalize ys.getD (4+itLen l) 0=ty at hit H
  have hsz:(strOfNums ((ys.drop (4+itLen l+2)).take t)).size=t:=by rw [strOfNums_size,List.length_take,List.length_drop];omega
  generalize strOfNums ((ys.drop (4+itLen l+2)).take t)=txt at hit H hsz
  refine ⟨_,rfl,by simp [isIf],fun h=>absurd h (by decide),fun _=>?_⟩
  refine ⟨r,?_⟩;replace H:=H.drew;generalize w.drew=wd1 at H ⊢;have K:=grew_refl wd1 (r)
  refine ⟨_,rfl,?_⟩
  refine ⟨(H.ne (mt ms) (mt (mt ms))),?_⟩
  refine ⟨H.b1.row,?_⟩
  refine ⟨_,_,_,(H.b1.at0 rfl),?_⟩
  refine ⟨(H.ne ms (mt (mt ms))),?_⟩
  refine ⟨H.b0.row,?_⟩
  refine ⟨_,_,H.b0.ld,?_⟩
  refine ⟨rfl,?_⟩
  refine sNew H ?_;clear H;intro b24 w g H;replace K:=gtr K (grew_none _ g);clear g
  refine ⟨K,?_⟩
  refine sApp3 H (bytes:=24) (by kernel_rfl) [.int .u8 ty,.string txt] (Itm.dat (ty,txt)) (by rfl) (fun j u hu=>by rw [add_flat,Nat.zero_add];exact H.b0.cell hu) (fun G h=>by repeat (exact DeepL.ones _)) (by simp [Value.oneCell']) (by unfold maxLen;omega) (by omega) ?_
  clear H;intro x26 x26l x26c x26r w ex26 g H
  replace K:=gtr K g;clear g;replace H:=H.d1
  refine ⟨K,?_⟩
  refine ⟨_,rfl,?_⟩
  refine sSt1 H (by exact add_flat _ _ _) (by kernel_rfl) (by rfl) (by rfl) ?_;clear H;intro w _ H
  refine ⟨_,_,H.b0.ld,?_⟩
  refine call_j (c167 (by omega)) ?_
  rintro _ w ⟨rfl,g⟩
  replace H:=H.grow g;clear g
  refine ⟨_,rfl,?_⟩
  subst ex26
  have hsn:=itLen_snoc l (ty,txt)
  simp only [hsz] at hsn
  rw [hsz]
  refine ⟨m,by omega,l++[(ty,txt)],x26,x26c,x26r,?_,?_,by omega,by omega,?_⟩
  ·rw [wi64_of (by omega) (by omega),hsn];omega
  ·rw [hit,hsn,show 4+(itLen l+(2+t))=4+itLen l+2+t by omega]
   cases items ys m (4+itLen l+2+t)<;>simp
  ·rw [List.flatMap_append,List.length_append]
   simp only [fm1,fm2,fm3]
   exact H.sub (sc1) (fun r hr=>mt hr)
 ·rw [decide_eq_false_iff_not] at h
  obtain ⟨v,h1,h2,h3⟩:=hE.laid 1 (by decide)
  refine ⟨v,H.cell h1 rfl,.inl ⟨.inr ?_,v,_,rfl,h2,h3 (by decide),H.sub (List.Sublist.cons_cons _ (sc1)) (fun _ h=>h)⟩⟩
  rw [hit]
  cases m_8 with
  | zero=>rfl
  | succ m=>rw [items,if_pos (by omega)];rfl
def up4 (z:Nat):Nat:=(z+3) / 4*4
theorem pad_any {w:World} {n:Nat} (hn:n<=10000000):Calls pg 149 #[.int .i64 (n:Int)] w fun en w'=>en=.returned (.int .i64 ((up4 n - n:Nat):Int))/\w.grownBy w' none:=by
 apply of149
 refine ⟨by decide,?_⟩
 have ht:((n:Nat):Int).tmod 4=((n % 4:Nat):Int):=by rw [Int.tmod_eq_emod_of_nonneg (by omega)];omega
 rw [ht]
 refine ⟨fun h=>?_,fun h=>?_⟩
 ·have h0:((n % 4:Nat):Int)=0:=by simpa using h
  refine ⟨?_,grew_refl _ _⟩
  rw [show up4 n - n=0 by unfold up4;omega];rfl
 ·have h0:¬((n % 4:Nat):Int)=0:=by simpa using h
  refine ⟨by decide,?_,grew_refl _ _⟩
  rw [wi64_of (by omega) (by omega),show ((up4 n - n:Nat):Int)=4 - ((n % 4:Nat):Int) by unfold up4;omega]
theorem itLen_append (a b:List Itm):itLen (a++b)=itLen a+itLen b:=by simp [itLen]
theorem itLen_take (l:List Itm) (j:Nat):itLen (l.take j)<=itLen l:=by
 have h:=itLen_append (l.take j) (l.drop j)
 rw [List.take_append_drop] at h
 omega
theorem c164 {F:Fr} {w:World} {ex:List Ex} {ro:List Ro} {s:Int} {l:List Itm} {o:Option Addr} {oc:Nat} (H:Sat F w ex ro) (hl:Ro.deep [.row 2 (l.flatMap Itm.dat)] [.slice o l.length oc]∈ro) (hn:itLen l<=1000000) :
  Calls pg 164 #[.agg #[.int .u32 s,.slice o l.length oc]] w fun en w'=>en=.returned (.int .i64 (up4 (4+itLen l+1):Nat))/\Sat F w' ex ro:=by
 apply of164
 have hll:=itLen_le l
 refine sNew H ?_;clear H;intro b1 w _ H
 refine ⟨_,_,_,(H.b0.at0 rfl),?_⟩
 refine ⟨fun cl x11 m_6 w=>∃j:Nat,x11=(j:Int)/\j+m_6=l.length/\cl=((4+itLen (l.take j):Nat):Int)/\Sat F w (.blk b1 255 [.int .u32 s,.slice o l.length oc]::ex) ro,⟨l.length,0,rfl,by omega,by simp [itLen],H⟩,?_⟩
 clear H;rintro dd5 cl x11 m_6 w ⟨j,rfl,hjm,rfl,H⟩
 have htl:=itLen_take l j
 refine ⟨fun hc=>?_,fun hc=>?_⟩
 ·rw [decide_eq_true_eq] at hc
  have hjl:j < l.length:=by omega
  obtain ⟨p,us,e,hus,hcell,H1⟩:=H.eltF Itm.dat_len (by decide) hl (j:=j) hjl
  have htk:l.take (j+1)=l.take j++[l[j]]:=by rw [List.take_add_one,List.getElem?_eq_getElem hjl];rfl
  have htl2:=itLen_take l (j+1)
  rw [htk,itLen_snoc] at htl2
  clear H
  generalize l[j]=D at H1 htk htl2
  refine ⟨p,e,by omega,by omega,?_⟩
  obtain rfl:=H1.ones (us:=[.int .u8 D.1,.string D.2]) ms
  refine ⟨_,_,LdC [.int .u8 D.1,.string D.2] (by kernel_rfl) (by rw [show (j:Int).toNat*2=j*2 by omega];exact hcell),?_⟩
  have H:=H1
  clear H1 hcell
  refine sNew H ?_;clear H;intro b15 w _ H
  refine sSw0 H rfl (by kernel_rfl) (by rfl) (by rfl) ?_;clear H;intro w _ H
  refine ⟨_,_,H.b0.ld,?_⟩
  refine call_j (c167 (by omega)) ?_
  rintro _ w ⟨rfl,g⟩
  replace H:=H.grow g;clear g
  refine ⟨_,rfl,?_⟩
  refine ⟨m_6 - 1,by omega,j+1,?_,by omega,?_,H.sub (sc1) (fun r hr=>mt hr)⟩
  ·rw [wi64_of (by omega) (by omega)];simp
  ·rw [wi64_of (by omega) (by omega),htk,itLen_snoc];omega
 ·rw [decide_eq_false_iff_not] at hc
  obtain rfl:j=l.length:=by omega
  rw [List.take_length]
  rw [wi64_of (n:=((4+itLen l:Nat):Int)+1) (by omega) (by omega)]
  refine call_j (pad_any (n:=4+itLen l+1) (by omega)) ?_
  rintro _ w ⟨rfl,g⟩
  replace H:=H.grow g;clear g
  refine ⟨_,rfl,?_⟩
  have hu:4+itLen l+1<=up4 (4+itLen l+1)/\up4 (4+itLen l+1)<=4+itLen l+4:=by unfold up4;omega
  refine ⟨?_,H.d1⟩
  rw [wi64_of (by omega) (by omega)]
  congr 2
  omega
theorem zeros_up {ys:List Int} {i j:Nat} (h:zeros ys 3 i=some j):j=up4 i:=by
 have key:∀(f i j:Nat),zeros ys f i=some j->j % 4=0/\i<=j/\(∀t,i<=t->t < j->t % 4≠0):=by
  intro f
  induction f with
  | zero=>
   intro i j h
   unfold zeros at h
   split at h
   ·cases h;exact ⟨by assumption,Nat.le_refl _,fun t h1 h2=>by omega⟩
   ·cases h
  | succ f ih=>
   intro i j h
   unfold zeros at h
   split at h
   ·cases h;exact ⟨by assumption,Nat.le_refl _,fun t h1 h2=>by omega⟩
   ·rename_i hi
    split at h
    ·cases h
    ·split at h
     ·obtain ⟨a1,a2,a3⟩:=ih _ _ h
      refine ⟨a1,by omega,fun t h1 h2=>?_⟩
      rcases Nat.eq_or_lt_of_le h1 with rfl | h1
      ·exact hi
      ·exact a3 t (by omega) h2
     ·cases h
 obtain ⟨a1,a2,a3⟩:=key _ _ _ h
 have hu:up4 i % 4=0/\i<=up4 i/\up4 i<=i+3:=by unfold up4;omega
 rcases Nat.lt_trichotomy j (up4 i) with h1 | h1 | h1
 ·unfold up4 at h1;omega
 ·exact h1
 ·exact absurd hu.1 (a3 _ hu.2.1 h1)
theorem c161 {F:Fr} {w:World} {ex:List Ex} {ro:List Ro} {xs:List Int} {a:Option Addr} {n c:Nat} {b:Nat} {T:TypeId} (H:Sat F w (.blk b T [.slice none 0 0]::ex) ro)
  (hx:Ro.B xs a n c∈ro) (hb:By xs) (hE:ErrC (gd xs=none) ro) (hd:Hd xs 202 (hC xs)) (hn:n<=1000000):Calls pg 161 #[.pointer (some ⟨b,0,none⟩),.slice a n c] w (UPost F b T 1 ex ro (gd xs)):=by
 apply of161
 have hlen:=H.lenB hx
 have hk:kindOf (hT xs) (hC xs)=3:=by rw [hd.typ];rfl
 have hU:rdBody xs=(chks (hC xs).toNat (xs.drop 4)).map (fun l=>{ kind:=3,chunks:=l }):=by
  unfold rdBody;simp only [hk];rw [if_neg (by decide),if_neg (by decide),if_pos trivial]
 have hLn:=hd.len
 rw [hlen] at hLn
 have h4:4<=xs.length:=by
  have:=hd.ok
  simp only [hdrOk,Bool.and_eq_true,decide_eq_true_eq] at this
  exact this.1
 have hCr:0<=hC xs/\hC xs < 32:=by unfold hC;omega
 obtain ⟨k,hk2⟩:∃k:Nat,hC xs=(k:Int):=⟨(hC xs).toNat,by omega⟩
 rw [hk2,Int.toNat_natCast] at hU
 refine sNew H ?_;clear H;intro b1 w _ H
 refine call_j (c55 H hx hb hd.ok) ?_
 rintro _ w ⟨rfl,H⟩
 refine ⟨_,rfl,by simp [isIf],fun h=>absurd h (by decide),fun _=>?_⟩
 refine ⟨_,(H.b0.at0 rfl),?_⟩
 rw [hd.typ]
 refine fF ?_
 rw [hk2] at H
 refine ⟨fun i13 m_9 w=>∃(i:Nat) (L:List Chk) (o:Option Addr) (oc:Nat) (r:Option Nat),i13=(i:Int)/\i+m_9=n/\i % 4=0/\L.length<=i/\(∀Lf,chks k (xs.drop 4)=some Lf->L.length<=k/\∃Lr,chks (k - L.length) (xs.drop i)=some Lr/\Lf=L++Lr) /\
  Sat F w (.blk b1 109 [.bool (hP xs),.int .u8 (k:Int),.int .u8 (hT xs),.int .u16 (hL xs)]::.blk b T [.slice o L.length oc]::.own 255 2 o L.length oc r (L.flatMap Chk.dat)::ex) ro,
  ⟨n - 4,4,[],none,0,none,rfl,by omega,rfl,by simp,fun Lf h=>⟨Nat.zero_le _,Lf,h,rfl⟩,(H.nilOwn 255 2).u2⟩,?_⟩
 clear H;rintro dd8 i13 m_9 w ⟨i,L,o,oc,r,rfl,him,hi4,hLi,hch,H⟩
 refine ⟨fun h=>?_,fun h=>?_⟩
 ·rw [decide_eq_true_eq] at h
  refine sNew H ?_;clear H;intro b14 w _ H
  rw [Int.toNat_natCast]
  refine ⟨by omega,by omega,?_⟩
  have H1:=H.skipB hx i (by omega)
  have hyl:(xs.drop i).length=n - i:=by rw [List.length_drop,hlen]
  refine call_j (c165 H1 ms (hb.drop i) (hE.mono (fun r h=>mt h)) (by omega)) ?_
  clear H H1

  have hnext:∀Lf,chks k (xs.drop 4)=some Lf->∃q l i1 Lr,k - L.length=q+1/\items (xs.drop i) (n - i) 4=some (l,i1)/\8<=n - i/\Lf=L++((n32 (xs.drop i),l)::Lr)/\chks q ((xs.drop i).drop (up4 i1))=some Lr:=by
   intro Lf hLf
   obtain ⟨h1,Lr,h2,h3⟩:=hch Lf hLf
   cases hq:k - L.length with
   | zero=>
    rw [hq] at h2
    unfold chks at h2
    rw [if_neg (by omega)] at h2
    cases h2
   | succ q=>
    rw [hq] at h2
    unfold chks at h2
    split at h2
    ·cases h2
    rename_i h8
    rw [hyl] at h2 h8
    cases h5:items (xs.drop i) (n - i) 4 with
    | none=>rw [h5] at h2;cases h2
    | some p=>
     obtain ⟨l,i1⟩:=p
     rw [h5] at h2
     simp only at h2
     cases h6:zeros (xs.drop i) 3 i1 with
     | none=>rw [h6] at h2;cases h2
     | some j=>
      rw [h6] at h2
      simp only at h2
      obtain rfl:=zeros_up h6
      cases h7:chks q ((xs.drop i).drop (up4 i1)) with
      | none=>rw [h7] at h2;cases h2
      | some Lr2=>
       rw [h7] at h2
       simp only [Option.map_some,Option.some.injEq] at h2
       exact ⟨q,l,i1,Lr2,rfl,rfl,by omega,by rw [h3,<-h2],h7⟩
  rintro en w (⟨hbad,e,cells,rfl,he1,he2,H⟩ | ⟨l,ol,olc,hit,hil,rfl,H⟩)
  ·refine ⟨_,rfl,he1,fun _=>?_,fun h=>by rw [he2] at h;cases h⟩
   refine ⟨e,[.slice o L.length oc],ro,rfl,he1,fun _ h=>h,rfl,H.sub (by exact List.Sublist.cons _ (List.Sublist.cons _ (List.Sublist.cons_cons _ (sc1)))) (fun r hr=>mt hr),?_⟩
   intro p hp
   obtain ⟨_,hp⟩:=gd_some hp
   rw [hU] at hp
   cases h9:chks k (xs.drop 4) with
   | none=>rw [h9] at hp;cases hp
   | some Lf=>
    obtain ⟨q,l,i1,Lr,_,h5,h8,_,_⟩:=hnext Lf h9
    rcases hbad with h | h
    ·omega
    ·rw [h] at h5;cases h5
  refine ⟨_,rfl,by simp [isIf],fun h=>absurd h (by decide),fun _=>?_⟩
  have hll:=itLen_le l
  refine ⟨r,?_⟩;replace H:=H.drew;generalize w.drew=wd1 at H ⊢;have K:=grew_refl wd1 (r)
  refine ⟨_,rfl,?_⟩
  refine ⟨(H.ne (mt (mt ms)) (mt (mt (mt ms)))),?_⟩
  refine ⟨H.b2.row,?_⟩
  refine ⟨_,_,_,(H.b2.at0 rfl),?_⟩
  refine ⟨(H.ne ms (mt (mt (mt ms)))),?_⟩
  refine ⟨H.b0.row,?_⟩
  refine ⟨_,_,_,_,H.b0.ld,?_⟩
  refine ⟨rfl,?_⟩
  refine sNew H ?_;clear H;intro b23 w g H;replace K:=gtr K (grew_none _ g);clear g
  refine ⟨K,?_⟩
  refine sApp4 H (bytes:=32) (by kernel_rfl) [.int .u32 (n32 (xs.drop i)),.slice ol l.length olc] (Chk.dat (n32 (xs.drop i),l)) (by rfl) (fun j u hu=>by rw [add_flat,Nat.zero_add];exact H.b0.cell hu) (fun G h=>dc (.one _) (dc (h (.deep [_] [_]) ms).head dn)) (by simp [Value.oneCell']) (by unfold maxLen;omega) (by omega) ?_
  clear H;intro x25 x25l x25c x25r w ex25 g H
  replace K:=gtr K g;clear g;replace H:=H.d1
  refine ⟨K,?_⟩
  refine ⟨_,rfl,?_⟩
  refine sSt2 H (by exact add_flat _ _ _) (by kernel_rfl) (by rfl) (by rfl) ?_;clear H;intro w _ H
  refine ⟨_,_,_,_,H.b0.ld,?_⟩
  refine call_j (c164 H ms (by omega)) ?_
  clear H
  rintro _ w ⟨rfl,H⟩
  refine ⟨_,rfl,?_⟩
  subst ex25
  have hu:8<=up4 (4+itLen l+1)/\up4 (4+itLen l+1) % 4=0/\up4 (4+itLen l+1)<=n - i:=by unfold up4;omega
  generalize hup:up4 (4+itLen l+1)=u at hu
  refine ⟨m_9 - u,by omega,i+u,L++[(n32 (xs.drop i),l)],x25,x25c,x25r,?_,by omega,by omega,by simp;omega,?_,?_⟩
  ·rw [wi64_of (by omega) (by omega)];omega
  ·intro Lf hLf
   obtain ⟨q,l2,i1,Lr,hq,h5,_,h6,h7⟩:=hnext Lf hLf
   rw [hit] at h5
   cases h5
   rw [hup,List.drop_drop] at h7
   refine ⟨by simp;omega,Lr,?_,by rw [h6];simp⟩
   rw [List.length_append,List.length_singleton,show k - (L.length+1)=q by omega]
   exact h7
  ·rw [List.flatMap_append,List.length_append]
   simp only [fm1,fm2,fm3]
   exact H.sub (sc1) (fun r hr=>by simp [hr])
 ·rw [decide_eq_false_iff_not] at h
  obtain rfl:i=n:=by omega
  refine ⟨_,rfl,?_⟩
  replace H:=H.drew;generalize w.drew=w at H ⊢
  refine ⟨_,_,_,(H.b1.at0 rfl),?_⟩
  refine ⟨_,(H.b0.at0 rfl),?_⟩
  rw [wi64_of (n:=(k:Int)) (by omega) (by omega)]
  have hend:∀Lf,chks k (xs.drop 4)=some Lf->L.length=k/\Lf=L:=by
   intro Lf hLf
   obtain ⟨h1,Lr,h2,h3⟩:=hch Lf hLf
   rw [List.drop_of_length_le (by omega)] at h2
   cases hq:k - L.length with
   | zero=>
    rw [hq] at h2
    unfold chks at h2
    rw [if_pos List.length_nil] at h2
    cases h2
    exact ⟨by omega,by rw [h3];simp⟩
   | succ q=>
    rw [hq] at h2
    unfold chks at h2
    rw [if_pos (by decide)] at h2
    cases h2
  refine ⟨fun h2=>?_,fun h2=>?_⟩
  ·have hne:¬((L.length:Nat):Int)=(k:Int):=by simpa using h2
   refine uErr (cells:=[.slice o L.length oc]) H (by exact List.Sublist.cons _ (List.Sublist.cons_cons _ (sc1))) (fun _ h=>h) hE rfl (gd_none ?_) (by decide)
   rw [hU]
   cases h9:chks k (xs.drop 4) with
   | none=>rfl
   | some Lf=>exact absurd (by rw [(hend Lf h9).1]) hne
  ·replace H:=H.r2.freeze
   refine uOk (cells:=[.slice o L.length oc]) H (sc1) (fun r hr=>by simp [hr]) rfl ?_
   intro p hp
   obtain ⟨_,hp⟩:=gd_some hp
   rw [hU] at hp
   cases h9:chks k (xs.drop 4) with
   | none=>rw [h9] at hp;cases hp
   | some Lf=>
    rw [h9] at hp
    cases hp
    rw [(hend Lf h9).2]
    exact fun G h=>dc (h (.deep [_] [_]) ms).head dn
theorem sMkS {F:Fr} {w:World} {ex:List Ex} {ro:List Ro} (H:Sat F w ex ro) {P:Program} {t e:TypeId} {kl kc:IntKind} {n bytes size:Nat} (hap:apT P t e size bytes=true) (hn:n<=maxLen) (hb:bytes*n<=281474976710656)
  {ln cp:Int} (hln:ln=(n:Int)) (hcp:cp=(n:Int)) {K:Option Addr->Nat->Nat->World->Prop} (hK:∀b w' cells,cells.length=n*size->w.grownBy w' none->Sat F w' (.blk b e cells::ex) ro->K (some ⟨b,0,none⟩) n n w') :
  ∃a l c,∃w',(Instr.makeSlice t (.int kl ln) (.int kc cp)).run P w=.ok (.slice a l c) w'/\K a l c w':=by
 subst hln;subst hcp
 obtain ⟨ht,i,z',hi,hz',hs,hbb,hzs,h0⟩:=apT_spec hap
 obtain ⟨w',hr,ho,hg⟩:=run_make_full (P:=P) w w.heap.size t e i z' size ht hi hz' hs kl kc n (by rw [hbb];exact hb) hn (Nat.le_refl _)
 refine ⟨_,_,_,w',hr,?_⟩
 rcases ho.2 with ⟨hv,_⟩ | ⟨g,cap,cur,hv,hbg,hgg,hc,hm,hsz,htk⟩
 ·cases hv
 ·simp only [Value.slice.injEq,Option.some.injEq,Addr.mk.injEq] at hv
  obtain ⟨⟨rfl,_⟩,_,rfl⟩:=hv
  refine hK _ w' cur.toList (by rw [Array.length_toList];exact hsz) hg ?_
  refine Sat.step (used:=[]) (used':=[.blk w.heap.size e cur.toList]) (rest:=ex) H ((Gr.of hg).mono (fun k _ h=>by cases h)) (by simp [foots,Ex.foot]) (fun q hq=>?_) (fun e' he _=>?_)
  ·simp only [foots,Ex.foot,List.flatMap_cons,List.flatMap_nil,List.append_nil,List.mem_singleton] at hq
   subst hq
   exact ⟨(Array.getElem?_eq_some_iff.1 hgg).1,.inr (Nat.le_refl _)⟩
  ·simp only [List.mem_singleton] at he
   subst he
   exact (⟨hgg⟩:Blk w' w.heap.size e cur.toList)
theorem sStS {F:Fr} {w:World} {g:Nat} {t:TypeId} {A vs R:List Value} {ex:List Ex} {ro:List Ro} (H:Sat F w (.blk g t (A++R)::ex) ro) {ty:TypeId} {a:Addr} {K:World->Prop} (ha:a=⟨g,A.length,none⟩) (ht:sizeB pg ty vs.length=true) (hR:vs.length<=R.length) (h1:vs.all Value.oneCell'=true)
  (h:∀w',w.grownBy w' (some g)->Sat F w' (.blk g t (A++vs++R.drop vs.length)::ex) ro->K w'):∃w',StV pg ty a (.agg vs.toArray) w w'/\K w':=by
 refine sSt0 H (i:=A.length) ha ht ?_ h1 ?_
 ·exact Nat.ble_eq_true_of_le (by rw [List.length_append];show A.length+vs.length<=_;omega)
 ·intro w' hg H1
  refine h w' hg ?_
  have e:putL (A++R) A.length (Value.agg vs.toArray).cells.toList=A++vs++R.drop vs.length:=by
   show putL (A++R) A.length vs=_
   rw [putL_eq _ _ _ (by rw [List.length_append];omega),List.take_left' rfl,<-List.drop_drop,List.drop_left' rfl]
  rw [e] at H1
  exact H1
def met2 (v:Int):Met:=if v / 32768=1 then met1 v else (false,0,0)
def metV (m:Met):List Value:=[.bool m.1,.int .u8 m.2.1,.int .u16 m.2.2]
theorem metV_dat (m:Met):(metV m).map .one=Met.dat m:=rfl
theorem byte128 {x:Int} (h:0<=x/\x < 256):(iand .u8 x (128:Int) != (0:Int))=(x / 128 == 1)/\iand .u8 (ishr .u8 x (5:Int)) (3:Int)=x / 32 % 4:=by
 refine byte_cases (fun x=>(iand .u8 x (128:Int) != (0:Int))=(x / 128 == 1)/\iand .u8 (ishr .u8 x (5:Int)) (3:Int)=x / 32 % 4) ?_ h.1 h.2
 decide +kernel
theorem c198 {F:Fr} {w:World} {ex:List Ex} {ro:List Ro} {ys:List Int} {a:Option Addr} {n c:Nat} {b:Nat} {T:TypeId} {c0 c1 c2:Value} (H:Sat F w (.blk b T [c0,c1,c2]::ex) ro)
  (hx:Ro.B ys a n c∈ro) (hb:By ys) (hn:n=2):Calls pg 198 #[.pointer (some ⟨b,0,none⟩),.slice a n c] w fun en w'=>en=.returned .nilIface/\Sat F w' (.blk b T (metV (met2 (n16 ys)))::ex) ro:=by
 apply of198
 subst hn
 have h0:=hb.getD 0
 have h1:=hb.getD 1
 have hv:n16 ys=ys.getD 0 0*256+ys.getD 1 0:=rfl
 obtain ⟨f1,f2⟩:=byte128 h0
 refine fF ?_
 obtain ⟨p_2,ep_2,hp_2,_,_⟩:=H.at_ (a:=a) hx (by omega)
 refine ⟨p_2,ep_2,by omega,by omega,?_⟩
 refine ⟨_,hp_2 0 (by omega),?_⟩
 clear hp_2
 rw [f1]
 refine ⟨_,rfl,?_⟩
 refine sSt0 H (by exact add_flat _ _ _) (by kernel_rfl) (by rfl) (by rfl) ?_;clear H;intro w _ H
 refine ⟨_,rfl,?_⟩
 refine ⟨_,(H.b0.at0 rfl),?_⟩
 refine ⟨fun hc=>?_,fun hc=>?_⟩
 ·have hc':¬ys.getD 0 0 / 128=1:=by simpa using hc
  refine ⟨_,rfl,?_⟩
  refine sSt0 H (by exact add_flat _ _ _) (by kernel_rfl) (by rfl) (by rfl) ?_;clear H;intro w _ H
  refine ⟨_,rfl,?_⟩
  refine sSt0 H (by exact add_flat _ _ _) (by kernel_rfl) (by rfl) (by rfl) ?_;clear H;intro w _ H
  refine ⟨rfl,?_⟩
  have e:met2 (n16 ys)=(false,0,0):=by unfold met2;rw [if_neg (by omega)]
  rw [e]
  have e2:(ys.getD 0 0 / 128 == 1)=false:=by rw [beq_eq_false_iff_ne];exact hc'
  rw [e2] at H
  exact H
 ·have hc':ys.getD 0 0 / 128=1:=by simpa using hc
  obtain ⟨p_12,ep_12,hp_12,_,_⟩:=H.at_ (a:=a) hx (by omega)
  refine ⟨p_12,ep_12,by omega,by omega,?_⟩
  refine ⟨_,hp_12 0 (by omega),?_⟩
  clear hp_12
  rw [f2]
  refine ⟨_,rfl,?_⟩
  refine sSt0 H (by exact add_flat _ _ _) (by kernel_rfl) (by rfl) (by rfl) ?_;clear H;intro w _ H
  refine call_j (c90 (Sat.rd H hx) hb (by omega)) ?_
  rintro _ w ⟨rfl,g⟩
  replace H:=H.grow g;clear g
  refine ⟨_,rfl,?_⟩
  refine ⟨_,rfl,?_⟩
  have e3:iand .u16 (n16 ys) (8191:Int)=n16 ys % 8192:=iand_low (k:=.u16) (by rfl) 13 (n16_lt hb).1 (by have:=n16_lt hb;simp only [IntKind.bits];omega) (by omega) (by decide)
  rw [e3]
  refine sSt0 H (by exact add_flat _ _ _) (by kernel_rfl) (by rfl) (by rfl) ?_;clear H;intro w _ H
  refine ⟨rfl,?_⟩
  have e:met2 (n16 ys)=(true,ys.getD 0 0 / 32 % 4,n16 ys % 8192):=by
   unfold met2 met1
   rw [if_pos (by omega)]
   have e4:(n16 ys / 32768 == 1)=true:=by rw [beq_iff_eq];omega
   rw [e4,show n16 ys / 8192 % 4=ys.getD 0 0 / 32 % 4 by omega]
  rw [e]
  have e2:(ys.getD 0 0 / 128 == 1)=true:=by rw [beq_iff_eq];exact hc'
  rw [e2] at H
  exact H
def metsU:Nat->List Int->List Met
 | 0,_=>[]
 | n+1,xs=>met2 (n16 xs)::metsU n (xs.drop 2)
theorem metsU_snoc:∀(i:Nat) (xs:List Int),metsU (i+1) xs=metsU i xs++[met2 (n16 (xs.drop (2*i)))]
 | 0,xs=>by simp [metsU]
 | i+1,xs=>by
  rw [metsU,metsU_snoc i,metsU]
  simp only [List.cons_append,List.drop_drop]
  rw [show 2+2*i=2*(i+1) by omega]
theorem metsU_len:∀(k:Nat) (xs:List Int),(metsU k xs).length=k
 | 0,_=>rfl
 | k+1,xs=>by simp [metsU,metsU_len k]
theorem metsL_U:∀(k:Nat) (xs:List Int) (l:List Met),metsL k xs=some l->l=metsU k xs
 | 0,xs,l,h=>by cases h;rfl
 | k+1,xs,l,h=>by
  unfold metsL at h
  simp only at h
  split at h
  ·cases h
  ·rename_i hv
   cases h2:metsL k (xs.drop 2) with
   | none=>rw [h2] at h;cases h
   | some q=>
    rw [h2] at h
    simp only [Option.map_some,Option.some.injEq] at h
    subst h
    rw [metsL_U k _ _ h2,metsU]
    congr 1
    unfold met2
    split
    ·rfl
    ·rename_i hv2
     have h0:n16 xs=0:=by
      by_cases h0:n16 xs=0
      ·exact h0
      ·exact absurd ⟨hv2,h0⟩ hv
     rw [h0];rfl
def mV (l:List Met):List Value:=l.flatMap metV
theorem mV_len (l:List Met):(mV l).length=3*l.length:=by
 induction l with
 | nil=>rfl
 | cons m r ih=>simp only [mV,List.flatMap_cons,List.length_append] at ih ⊢;rw [ih];simp [metV];omega
theorem mV_dat (l:List Met):l.flatMap Met.dat=(mV l).map .one:=by
 induction l with
 | nil=>rfl
 | cons m r ih=>simp only [mV,List.flatMap_cons,List.map_append] at ih ⊢;rw [ih,metV_dat]
theorem mV_snoc (l:List Met) (m:Met):mV (l++[m])=mV l++metV m:=by simp [mV]
theorem c196 {F:Fr} {w:World} {ex:List Ex} {ro:List Ro} {ys:List Int} {a:Option Addr} {n c:Nat} {b:Nat} {T:TypeId} (H:Sat F w (.blk b T [.int .u32 0,.int .u16 0,.slice none 0 0]::ex) ro)
  (hx:Ro.B ys a n c∈ro) (hb:By ys) (hE:ErrC (n < 8+2*(n16 (ys.drop 6)).toNat) ro) (hn:n<=1000000):Calls pg 196 #[.pointer (some ⟨b,0,none⟩),.slice a n c] w fun en w'=>
   ∃e m bg o k oc ro',en=.returned e/\isIf e/\(∀r∈ro,r∈ro')/\k<=65535/\Sat F w' (.blk b T [.int .u32 m,.int .u16 bg,.slice o k oc]::ex) ro' /\
    (8+2*(n16 (ys.drop 6)).toNat<=n->e=.nilIface/\m=n32 ys/\bg=n16 (ys.drop 4)/\k=(n16 (ys.drop 6)).toNat/\Ro.deep [.row 3 ((metsU k (ys.drop 8)).flatMap Met.dat)] [.slice o k oc]∈ro'):=by
 apply of196
 have hlen:=H.lenB hx
 have hnc:n<=c:=(H.deep1 hx).len.2.1
 refine ⟨fun hc=>?_,fun hc=>?_⟩
 ·rw [decide_eq_true_eq] at hc
  obtain ⟨v,h1,h2⟩:=hE.rest (by omega) 22 (by decide)
  exact ⟨v,H.cell h1 rfl,v,0,0,none,0,0,ro,rfl,h2,fun _ h=>h,by omega,H,fun h=>by omega⟩
 rw [decide_eq_false_iff_not] at hc
 refine ⟨by omega,by omega,?_⟩
 have H4:=H.cutB hx 0 4 (by omega) (by omega)
 refine call_j (c150 (Sat.rd H4 ms) ((hb.drop 0).take _) (by omega)) ?_
 clear H4
 rintro _ w ⟨rfl,g⟩
 replace H:=H.grow g;clear g
 rw [n32_takem (by decide),List.drop_zero]
 refine ⟨_,rfl,?_⟩
 refine ⟨_,rfl,?_⟩
 refine sSt0 H (by exact add_flat _ _ _) (by kernel_rfl) (by rfl) (by rfl) ?_;clear H;intro w _ H
 refine ⟨by omega,by omega,?_⟩
 refine ⟨by omega,by omega,?_⟩
 have H4:=H.cutB hx 4 6 (by omega) (by omega)
 refine call_j (c90 (Sat.rd H4 ms) ((hb.drop 4).take _) (by omega)) ?_
 clear H4
 rintro _ w ⟨rfl,g⟩
 replace H:=H.grow g;clear g
 rw [show (6:Nat) - 4=2 by rfl,n16_take]
 refine ⟨_,rfl,?_⟩
 refine ⟨_,rfl,?_⟩
 refine sSt0 H (by exact add_flat _ _ _) (by kernel_rfl) (by rfl) (by rfl) ?_;clear H;intro w _ H
 refine ⟨by omega,by omega,?_⟩
 refine call_j (c90 (Rd.skip (Sat.rd H hx) _ (by omega)) (hb.drop 6) (by omega)) ?_
 rintro _ w ⟨rfl,g⟩
 replace H:=H.grow g;clear g
 refine ⟨_,rfl,?_⟩
 have hnum:=n16_lt (hb.drop 6)
 generalize hN:n16 (ys.drop 6)=N at hnum ⊢
 obtain ⟨k,rfl⟩:=Int.eq_ofNat_of_zero_le hnum.1
 rw [wi64_of (n:=(k:Int)) (by omega) (by omega),Int.toNat_natCast]
 refine ⟨fun h0=>?_,fun h0=>?_⟩
 ·have h0:(k:Int)=0:=by simpa using h0
  obtain rfl:k=0:=by omega
  exact ⟨_,n32 ys,n16 (ys.drop 4),none,0,0,_,rfl,trivial,fun r h=>mt h,by omega,H.addRo (r:=.deep [.row 3 ((metsU 0 (ys.drop 8)).flatMap Met.dat)] [.slice none 0 0]) (dc (.emp _ _) dn),fun _=>⟨rfl,rfl,rfl,rfl,ms⟩⟩
 refine ⟨fun h=>by rw [decide_eq_true_eq] at h;omega,fun _=>?_⟩
 rw [wi64_of (n:=(k:Int)*2) (by omega) (by omega),wi64_of (n:=8+(k:Int)*2) (by omega) (by omega)]
 refine ⟨fun h=>?_,fun h=>?_⟩
 ·rw [decide_eq_true_eq] at h
  obtain ⟨v,h1,h2⟩:=hE.rest (by rw [hN];omega) 23 (by decide)
  exact ⟨v,H.cell h1 rfl,v,_,_,none,0,0,ro,rfl,h2,fun _ h=>h,by omega,H,fun h=>by omega⟩
 rw [decide_eq_false_iff_not] at h
 refine sMkS H (bytes:=4) (size:=3) (e:=281) (by kernel_rfl) (by unfold maxLen;omega) (by omega) (n:=k) rfl rfl ?_
 clear H;intro g w cells hcl _ H
 refine ⟨_,rfl,?_⟩
 refine sSt1 H (by exact add_flat _ _ _) (by kernel_rfl) (by rfl) (by rfl) ?_;clear H;intro w _ H
 refine ⟨fun x24 m_20 w=>∃(i:Nat) (R:List Value),x24=(i:Int)/\i+m_20=k/\R.length=3*(k - i) /\
  Sat F w (.blk g 281 (mV (metsU i (ys.drop 8))++R)::.blk b T [.int .u32 (n32 ys),.int .u16 (n16 (ys.drop 4)),.slice (some ⟨g,0,none⟩) k k]::ex) ro,⟨k,0,cells,rfl,by omega,by omega,H⟩,?_⟩
 clear H;rintro dd19 x24 m_20 w ⟨i,R,rfl,him,hRl,H⟩
 refine ⟨fun h2=>?_,fun h2=>?_⟩
 ·rw [decide_eq_true_eq] at h2
  refine sNew H ?_;clear H;intro b25 w _ H
  have e8:IntKind.i64.wrap ((8:Int)+(IntKind.i64.wrap ((2:Int)*(i:Int))))=((8+2*i:Nat):Int):=by rw [wi64_of (n:=2*(i:Int)) (by omega) (by omega),wi64_of (by omega) (by omega)];omega
  rw [e8,wi64_of (n:=((8+2*i:Nat):Int)+2) (by omega) (by omega),show (((8+2*i:Nat):Int)+2).toNat=10+2*i by omega,Int.toNat_natCast,show 10+2*i - (8+2*i)=2 by omega]
  refine ⟨by omega,by omega,?_⟩
  refine ⟨by omega,by omega,?_⟩
  have H1:=H.cutB hx (8+2*i) (10+2*i) (by omega) (by omega)
  rw [show 10+2*i - (8+2*i)=2 by omega] at H1
  refine call_j (c198 H1 ms ((hb.drop _).take _) rfl) ?_
  clear H H1
  rintro _ w ⟨rfl,H⟩
  rw [n16_take] at H
  refine ⟨_,rfl,by simp [isIf],fun h=>absurd h (by decide),fun _=>?_⟩
  refine ⟨_,rfl,?_⟩
  replace H:=H.drew;generalize w.drew=w at H ⊢
  refine ⟨_,_,_,(H.b2.at0 rfl),?_⟩
  refine ⟨_,_,_,Ld0 rfl H.b0 (by kernel_rfl),?_⟩
  refine ⟨_,rfl,by omega,by omega,?_⟩
  have hml:(mV (metsU i (ys.drop 8))).length=3*i:=by rw [mV_len,metsU_len]
  refine sStS H.r1 (vs:=metV (met2 (n16 (ys.drop (8+2*i))))) (by rw [add_flat,show (i:Int).toNat*3=3*i by omega,Nat.zero_add,hml]) (by kernel_rfl) (by show 3<=R.length;omega) (by rfl) ?_
  clear H;intro w _ H
  refine ⟨m_20 - 1,by omega,i+1,R.drop 3,?_,by omega,by rw [List.length_drop];omega,?_⟩
  ·rw [wi64_of (by omega) (by omega)];simp
  ·rw [metsU_snoc,mV_snoc,List.drop_drop]
   exact H.sub (List.Sublist.cons_cons _ (sc1)) (fun r hr=>mt hr)
 ·rw [decide_eq_false_iff_not] at h2
  obtain rfl:i=k:=by omega
  have hR0:R=[]:=List.eq_nil_of_length_eq_zero (by omega)
  subst hR0
  rw [List.append_nil] at H
  have H1:=H.blkRow 3 i ((metsU i (ys.drop 8)).flatMap Met.dat) (by rw [mV_len,metsU_len];omega) (by unfold maxLen;omega) (fun G h=>by rw [mV_dat];exact DeepL.ones _)
  exact ⟨_,_,_,_,i,i,_,rfl,trivial,fun r h=>mt h,by omega,H1,fun _=>⟨rfl,rfl,rfl,rfl,ms⟩⟩
theorem c195 {F:Fr} {w:World} {ex:List Ex} {ro:List Ro} {b k oc:Nat} {T:TypeId} {m bg:Value} {o:Option Addr} (H:Sat F w (.blk b T [m,bg,.slice o k oc]::ex) ro) (hk:k<=65535) :
  Calls pg 195 #[.pointer (some ⟨b,0,none⟩)] w fun en w'=>en=.returned (.int .i64 ((8+2*(k+k % 2):Nat):Int))/\Sat F w' (.blk b T [m,bg,.slice o k oc]::ex) ro:=by
 apply of195
 refine ⟨_,rfl,?_⟩
 refine ⟨_,_,_,(H.b0.at0 rfl),?_⟩
 refine ⟨by decide,?_⟩
 have ht:((k:Nat):Int).tmod 2=((k % 2:Nat):Int):=by rw [Int.tmod_eq_emod_of_nonneg (by omega)];omega
 rw [ht]
 refine ⟨fun h=>?_,fun h=>?_⟩
 ·have h0:¬((k % 2:Nat):Int)=0:=by simpa using h
  refine ⟨?_,H⟩
  rw [wi64_of (n:=(k:Int)+1) (by omega) (by omega),wi64_of (n:=2*((k:Int)+1)) (by omega) (by omega),wi64_of (by omega) (by omega)]
  congr 2
  omega
 ·have h0:((k % 2:Nat):Int)=0:=by simpa using h
  refine ⟨?_,H⟩
  rw [wi64_of (n:=2*(k:Int)) (by omega) (by omega),wi64_of (by omega) (by omega)]
  congr 2
  omega
theorem c192 {F:Fr} {w:World} {ex:List Ex} {ro:List Ro} {xs:List Int} {a:Option Addr} {n c:Nat} {b:Nat} {T:TypeId} {c0 c1 c2:Value} (H:Sat F w (.blk b T [c0,c1,c2]::ex) ro)
  (hx:Ro.B xs a n c∈ro) (hb:By xs) (hE:ErrC (gd xs=none) ro) (hd:Hd xs 205 11) (hn:n<=1000000):Calls pg 192 #[.pointer (some ⟨b,0,none⟩),.slice a n c] w (UPost F b T 3 ex ro (gd xs)):=by
 apply of192
 have hlen:=H.lenB hx
 have hk:kindOf (hT xs) (hC xs)=8:=by rw [hd.typ,hd.cnt];rfl
 have hU:=rdBody_fb hk (by decide)
 rw [List.length_drop] at hU
 have hU2:¬xs.length - 4 < 8->rdBody xs=rdCc (n32 (xs.drop 4)) (xs.drop 8):=by
  intro h
  rw [hU,if_neg h]
  unfold rdFb
  simp only
  rw [if_neg (by decide),if_neg (by decide),if_neg (by decide),if_neg (by decide),if_neg (by decide),if_pos trivial,List.drop_drop]
 refine ⟨fun hc=>?_,fun hc=>?_⟩
 ·rw [decide_eq_true_eq] at hc
  exact uErr H (List.Sublist.refl _) (fun _ h=>h) hE rfl (gd_none (by rw [hU,if_pos (by omega)])) (by decide)
 rw [decide_eq_false_iff_not] at hc
 refine sNew H ?_;clear H;intro b2 w _ H
 refine call_j (c55 H hx hb hd.ok) ?_
 rintro _ w ⟨rfl,H⟩
 refine ⟨_,rfl,by simp [isIf],fun h=>absurd h (by decide),fun _=>?_⟩
 refine ⟨_,(H.b0.at0 rfl),?_⟩
 rw [hd.typ]
 refine fF ?_
 refine ⟨by omega,by omega,?_⟩
 refine call_j (c150 (Rd.skip (Sat.rd H hx) _ (by omega)) (hb.drop 4) (by omega)) ?_
 rintro _ w ⟨rfl,g⟩
 replace H:=H.grow g;clear g
 refine ⟨_,rfl,?_⟩
 refine ⟨_,rfl,?_⟩
 refine sSt1 H (by exact add_flat _ _ _) (by kernel_rfl) (by rfl) (by rfl) ?_;clear H;intro w _ H
 have e4:IntKind.i64.wrap (((n:Nat):Int) - (4:Int))=((n - 4:Nat):Int):=by rw [wi64_of (by omega) (by omega)];omega
 rw [e4,Int.toNat_natCast]
 refine ⟨by omega,by omega,?_⟩
 refine call_j (c150 (Rd.skip (Sat.rd H hx) _ (by omega)) (hb.drop (n - 4)) (by omega)) ?_
 rintro _ w ⟨rfl,g⟩
 replace H:=H.grow g;clear g
 refine ⟨_,rfl,?_⟩
 refine ⟨_,rfl,?_⟩
 refine sSt1 H (by exact add_flat _ _ _) (by kernel_rfl) (by rfl) (by rfl) ?_;clear H;intro w _ H
 refine sNew H ?_;clear H;intro b16 w _ H
 refine ⟨_,rfl,?_⟩
 refine sSt2 H (by exact add_flat _ _ _) (by kernel_rfl) (by rfl) (by rfl) ?_;clear H;intro w _ H
 have H0:=(H.toOwn 3 0 [] (by rfl) (by decide) (fun G h=>DeepL.nil _ _)).u2
 clear H
 have H:=H0
 clear H0
 refine ⟨fun off m_22 w=>∃(i t:Nat) (ds:List Dat) (o:Option Addr) (oc:Nat) (r:Option Nat),off=(i:Int)/\m_22=n - i/\t<=i/\i<=n+131080/\8<=i /\
  (∀lf yf,blocksL (xs.drop 8).length (xs.drop 8)=some (lf,yf)->∃L f lr,ds=L.flatMap Blo.dat/\L.length=t/\blocksL f (xs.drop i)=some (lr,yf)/\lf=L++lr) /\
  Sat F w (.blk b2 109 [.bool (hP xs),.int .u8 (hC xs),.int .u8 (hT xs),.int .u16 (hL xs)]::.blk b T [.int .u32 (n32 (xs.drop 4)),.slice o t oc,.int .u32 (n32 (xs.drop (n - 4)))]::.own 278 3 o t oc r ds::ex) ro,
  ⟨n - 8,8,0,[],_,0,_,rfl,rfl,by omega,by omega,by omega,fun lf yf h=>⟨[],_,lf,rfl,rfl,h,rfl⟩,H⟩,?_⟩
 clear H;rintro dd21 off m_22 w ⟨i,t,ds,o,oc,r,rfl,rfl,hti,hin,hi8,hch,H⟩
 refine ⟨fun h=>?_,fun h=>?_⟩
 ·rw [decide_eq_true_eq] at h
  refine sNew H ?_;clear H;intro b27 w _ H
  rw [Int.toNat_natCast]
  refine ⟨by omega,by omega,?_⟩
  have H1:=H.skipB hx i (by omega)
  have hyl:(xs.drop i).length=n - i:=by rw [List.length_drop,hlen]

  have hnext:∀lf yf,blocksL (xs.drop 8).length (xs.drop 8)=some (lf,yf)->∃L f lr l,ds=L.flatMap Blo.dat/\L.length=t/\8+2*((n16 ((xs.drop i).drop 6)).toNat+(n16 ((xs.drop i).drop 6)).toNat % 2)+4<=n - i/\metsL (n16 ((xs.drop i).drop 6)).toNat ((xs.drop i).drop 8)=some l /\
    blocksL f ((xs.drop i).drop (8+2*((n16 ((xs.drop i).drop 6)).toNat+(n16 ((xs.drop i).drop 6)).toNat % 2)))=some (lr,yf)/\lf=L++((n32 (xs.drop i),n16 ((xs.drop i).drop 4),l)::lr):=by
   intro lf yf hlf
   obtain ⟨L,f,lr,h1,h2,h3,h4⟩:=hch lf yf hlf
   cases f with
   | zero=>cases h3
   | succ f=>
    unfold blocksL at h3
    rw [hyl,if_neg (by omega)] at h3
    split at h3
    ·cases h3
    simp only at h3
    split at h3
    ·cases h3
    rename_i hs
    cases h5:metsL (n16 ((xs.drop i).drop 6)).toNat ((xs.drop i).drop 8) with
    | none=>rw [h5] at h3;cases h3
    | some l=>
     rw [h5] at h3
     simp only at h3
     split at h3
     ·cases h3
     cases h6:blocksL f ((xs.drop i).drop (8+2*((n16 ((xs.drop i).drop 6)).toNat+(n16 ((xs.drop i).drop 6)).toNat % 2))) with
     | none=>rw [h6] at h3;cases h3
     | some p=>
      obtain ⟨lr2,yf2⟩:=p
      rw [h6] at h3
      simp only [Option.map_some,Option.some.injEq,Prod.mk.injEq] at h3
      obtain ⟨h7,rfl⟩:=h3
      exact ⟨L,f,lr2,l,h1,h2,by omega,rfl,h6,by rw [h4,<-h7]⟩
  have hgood:∀p,gd xs=some p->8+2*(n16 ((xs.drop i).drop 6)).toNat<=n - i:=by
   intro p hp
   obtain ⟨_,hp⟩:=gd_some hp
   rw [hU2 (by omega)] at hp
   unfold rdCc at hp
   cases h9:blocksL (xs.drop 8).length (xs.drop 8) with
   | none=>rw [h9] at hp;cases hp
   | some q=>
    obtain ⟨lf,yf⟩:=q
    obtain ⟨_,_,_,_,_,_,h10,_⟩:=hnext lf yf h9
    omega
  refine call_j (c196 H1 ms (hb.drop i) ((hE.mono (fun r h=>mt h)).imp (fun hlt=>by
   cases hg:gd xs with
   | none=>rfl
   | some p=>have:=hgood p hg;omega)) (by omega)) ?_
  clear H H1
  rintro en w ⟨e,m,bg,bo,k,boc,ro',rfl,he1,hr',hk',H,hg⟩
  refine ⟨_,rfl,he1,fun he2=>?_,fun he2=>?_⟩
  ·refine ⟨e,[.int .u32 (n32 (xs.drop 4)),.slice o t oc,.int .u32 (n32 (xs.drop (n - 4)))],ro,rfl,he1,fun _ h=>h,rfl,H.sub (by exact List.Sublist.cons _ (List.Sublist.cons _ (List.Sublist.cons_cons _ (sc1)))) (fun r hr=>hr' r (mt hr)),?_⟩
   intro p hp
   rw [(hg (hgood p hp)).1] at he2
   cases he2
  obtain ⟨nds,hnl,hnd,hng⟩:∃nds:List Dat,nds.length=3/\(∀(w:World) (G:Nat->Prop),(∀r∈ro',Ro.holds w G r)->DeepL w G nds [.int .u32 m,.int .u16 bg,.slice bo k boc])/\(8+2*(n16 ((xs.drop i).drop 6)).toNat<=n - i->nds=Blo.dat (n32 (xs.drop i),n16 ((xs.drop i).drop 4),metsU (n16 ((xs.drop i).drop 6)).toNat ((xs.drop i).drop 8))):=by
   by_cases h9:8+2*(n16 ((xs.drop i).drop 6)).toNat<=n - i
   ·obtain ⟨_,rfl,rfl,rfl,hmem⟩:=hg h9
    exact ⟨_,rfl,fun w G hh=>dc (.one _) (dc (.one _) (dc (hh _ hmem).head dn)),fun _=>rfl⟩
   ·exact ⟨[.one (.int .u32 m),.one (.int .u16 bg),.one (.slice bo k boc)],rfl,fun w G hh=>DeepL.ones [_,_,_],fun h=>absurd h h9⟩
  have hkk:8+2*(n16 ((xs.drop i).drop 6)).toNat<=n - i->k=(n16 ((xs.drop i).drop 6)).toNat:=fun h9=>(hg h9).2.2.2.1
  refine ⟨r,?_⟩;replace H:=H.drew;generalize w.drew=wd1 at H ⊢;have K:=grew_refl wd1 (r)
  refine ⟨_,rfl,?_⟩
  refine ⟨(H.ne (mt (mt ms)) (mt (mt (mt ms)))),?_⟩
  refine ⟨H.b2.row,?_⟩
  refine ⟨_,_,_,(H.b2.at0 rfl),?_⟩
  refine ⟨(H.ne ms (mt (mt (mt ms)))),?_⟩
  refine ⟨H.b0.row,?_⟩
  refine ⟨_,_,_,_,_,H.b0.ld,?_⟩
  refine ⟨rfl,?_⟩
  refine sNew H ?_;clear H;intro b37 w g H;replace K:=gtr K (grew_none _ g);clear g
  refine ⟨K,?_⟩
  refine sApp4 H (bytes:=32) (by kernel_rfl) [.int .u32 m,.int .u16 bg,.slice bo k boc] nds (by rfl) (fun j u hu=>by rw [add_flat,Nat.zero_add];exact H.b0.cell hu) (fun G h=>hnd _ G h) (by simp [Value.oneCell']) (by unfold maxLen;omega) (by omega) ?_
  clear H;intro x39 x39l x39c x39r w ex39 g H
  replace K:=gtr K g;clear g;replace H:=H.d1
  refine ⟨K,?_⟩
  refine ⟨_,rfl,?_⟩
  refine sSt2 H (by exact add_flat _ _ _) (by kernel_rfl) (by rfl) (by rfl) ?_;clear H;intro w _ H
  refine call_j (c195 H hk') ?_
  clear H
  rintro _ w ⟨rfl,H⟩
  refine ⟨_,rfl,?_⟩
  subst ex39
  refine ⟨n - (i+(8+2*(k+k % 2))),by omega,i+(8+2*(k+k % 2)),t+1,ds++nds,x39,x39c,x39r,?_,rfl,by omega,by omega,by omega,?_,H.sub (sc1) (fun r hr=>hr' r (mt hr))⟩
  ·rw [wi64_of (by omega) (by omega)];omega
  ·intro lf yf hlf
   obtain ⟨L,f,lr,l,h1,h2,h3,h4,h5,h6⟩:=hnext lf yf hlf
   have h9:8+2*(n16 ((xs.drop i).drop 6)).toNat<=n - i:=by omega
   refine ⟨L++[(n32 (xs.drop i),n16 ((xs.drop i).drop 4),l)],f,lr,?_,by simp [h2],?_,by rw [h6];simp⟩
   ·rw [List.flatMap_append,h1,hng h9,metsL_U _ _ _ h4];simp
   ·rw [hkk h9,<-List.drop_drop];exact h5
 ·rw [decide_eq_false_iff_not] at h
  replace H:=H.r2.freeze
  refine uOk (cells:=[.int .u32 (n32 (xs.drop 4)),.slice o t oc,.int .u32 (n32 (xs.drop (n - 4)))]) H (sc1) (fun r hr=>by simp [hr]) rfl ?_
  intro p hp
  obtain ⟨_,hp⟩:=gd_some hp
  rw [hU2 (by omega)] at hp
  unfold rdCc at hp
  cases h9:blocksL (xs.drop 8).length (xs.drop 8) with
  | none=>rw [h9] at hp;cases hp
  | some q=>
   obtain ⟨lf,yf⟩:=q
   obtain ⟨L,f,lr,h1,h2,h3,h4⟩:=hch lf yf h9
   rw [h9] at hp
   simp only at hp
   split at hp
   ·rename_i hyl
    cases hp
    cases f with
    | zero=>cases h3
    | succ f=>
     unfold blocksL at h3
     rw [if_pos (by rw [List.length_drop];omega)] at h3
     cases h3
     have hi:i=n - 4:=by have:=hyl.1;rw [List.length_drop] at this;omega
     rw [List.append_nil] at h4
     subst h4
     rw [hi]
     subst h1
     exact fun G h=>dc (.one _) (dc (h (.deep [_] [_]) ms).head (dc (.one _) dn))
   ·cases hp
theorem run_f32from {w:World} {b:Int} (h:0<=b/\b < 4294967296):(callFunc 100 #[.int .u32 b]).run pg w=.ok (.value (.float .f32 b.toNat)) w:=by
 rw [run_callFunc_extern (fn:=Tryz.f100) (e:=Extern.MathFloatBits.float32frombits) Tryz.func100 (by kernel_rfl) (by kernel_rfl) (by kernel_rfl) (by kernel_rfl)]
 rfl
theorem c219 {F:Fr} {w:World} {ex:List Ex} {ro:List Ro} {xs ys:List Int} {a a':Option Addr} {n c n' c':Nat} (H:Sat F w ex ro) (hx:Ro.B xs a n c∈ro) (hy:Ro.B ys a' n' c'∈ro) (hbx:By xs) (hby:By ys) :
  Calls pg 219 #[.slice a n c,.slice a' n' c'] w fun en w'=>en=.returned (.bool (decide (xs=ys)))/\w'=w:=by
 apply of219
 refine ⟨_,_,sStr H hx uSl uU8 uStr,?_⟩
 refine ⟨_,_,sStr H hy uSl uU8 uStr,?_⟩
 refine ⟨?_,rfl⟩
 congr 2
 rw [Bool.eq_iff_iff,beq_iff_eq,str_eq hbx hby,decide_eq_true_eq]
theorem sgl_word {m i:Nat} (h0:0 < m) (h1:m < 262144) (hi:i<=63):(i+127+m.log2)*8388608+m*2 ^ (23 - m.log2) % 8388608=sgl m i/\m*2 ^ (23 - m.log2) / 8388608=1/\m.log2<=17:=by
 obtain ⟨hl,h2,h3⟩:=norm_range h0 h1 (k:=23) (by decide)
 have e1:(2:Nat) ^ 23=8388608:=rfl
 have e2:(2:Nat) ^ (23+1)=16777216:=rfl
 rw [e1] at h2
 rw [e2] at h3
 unfold sgl
 generalize m*2 ^ (23 - m.log2)=M at h2 h3 ⊢
 omega
theorem iand_bit23 {M:Nat} (h1:M < 16777216):iand .u32 (M:Int) (8388608:Int)=if M < 8388608 then 0 else 8388608:=by
 have e:=iand_nat (k:=.u32) (by rfl) (a:=M) (b:=8388608) (by simp only [IntKind.bits];omega) (by decide)
 rw [show ((8388608:Nat):Int)=8388608 from rfl] at e
 have key:M &&& 2 ^ 23=if M < 8388608 then 0 else 8388608:=by
  apply Nat.eq_of_testBit_eq
  intro i
  rw [Nat.testBit_and,Nat.testBit_two_pow]
  by_cases h:M < 8388608
  ·rw [if_pos h,Nat.zero_testBit]
   by_cases hi:23=i
   ·subst hi
    rw [Nat.testBit_lt_two_pow h];rfl
   ·simp [hi]
  ·rw [if_neg h,show (8388608:Nat)=2 ^ 23 from rfl,Nat.testBit_two_pow]
   by_cases hi:23=i
   ·subst hi
    rw [Nat.testBit_eq_decide_div_mod_eq]
    have:M / 2 ^ 23=1:=by
     rw [show (2:Nat) ^ 23=8388608 from rfl];omega
    rw [this];rfl
   ·simp [hi]
 rw [e,show (8388608:Nat)=2 ^ 23 from rfl,key]
 by_cases h:M < 8388608
 ·rw [if_pos h,if_pos h];rfl
 ·rw [if_neg h,if_neg h];rfl
theorem byteR {x:Int} (h:0<=x/\x < 256):ishr .u8 x (6:Int)=x / 64/\iand .u8 (ishr .u8 x (5:Int)) (1:Int)=x / 32 % 2/\iand .u8 x (31:Int)=x % 32/\ishr .u8 x (2:Int)=x / 4/\iand .u8 x (3:Int)=x % 4:=by
 refine byte_cases (fun x=>ishr .u8 x (6:Int)=x / 64/\iand .u8 (ishr .u8 x (5:Int)) (1:Int)=x / 32 % 2/\iand .u8 x (31:Int)=x % 32/\ishr .u8 x (2:Int)=x / 4/\iand .u8 x (3:Int)=x % 4) ?_ h.1 h.2
 decide +kernel
theorem mant_word {x y z:Int} (hx:0<=x/\x < 256) (hy:0<=y/\y < 256) (hz:0<=z/\z < 256) :
  ior .u32 (ior .u32 (ishl .u32 (IntKind.u32.wrap (x % 4)) (16:Int)) (ishl .u32 (IntKind.u32.wrap y) (8:Int))) (IntKind.u32.wrap z)=(x % 4)*65536+y*256+z:=by
 rw [ishl_of (b:=(16:Int)) 16 (by rfl) (by decide),ishl_of (b:=(8:Int)) 8 (by rfl) (by decide),wu32,wu32,wu32,wu32,wu32]
 rw [show z % 4294967296=z by omega,show y % 4294967296*2 ^ 8 % 4294967296=y*256 by omega,show x % 4 % 4294967296*2 ^ 16 % 4294967296=x % 4*65536 by omega]
 rw [ior_add (k:=.u32) (by rfl) 16 (x % 4) (a:=x % 4*65536) (b:=y*256) (by omega) (by omega) (by omega) (by omega) (by simp only [IntKind.bits];omega)]
 rw [ior_add (k:=.u32) (by rfl) 8 (x % 4*256+y) (a:=x % 4*65536+y*256) (b:=z) (by omega) (by omega) hz.1 (by omega) (by simp only [IntKind.bits];omega)]
theorem bits_word {e M:Int} (he:0<=e/\e < 256) (hM:0<=M/\M < 4294967296):ior .u32 (ishl .u32 (IntKind.u32.wrap e) (23:Int)) (iand .u32 M (8388607:Int))=e*8388608+M % 8388608:=by
 rw [ishl_of (b:=(23:Int)) 23 (by rfl) (by decide),wu32,wu32,iand_low (k:=.u32) (by rfl) 23 hM.1 (by simp only [IntKind.bits];omega) (by rfl) (by decide)]
 rw [show e % 4294967296*2 ^ 23 % 4294967296=e*8388608 by omega,show M % 2 ^ 23=M % 8388608 by rfl]
 exact ior_add (k:=.u32) (by rfl) 23 e (by rfl) he.1 (by omega) (by omega) (by simp only [IntKind.bits];omega)
theorem c217 {F:Fr} {w:World} {ex:List Ex} {ro:List Ro} {xs:List Int} {a:Option Addr} {n c:Nat} {b:Nat} {T:TypeId} {c0 c1:Value} (H:Sat F w (.blk b T [c0,c1,.slice none 0 0]::ex) ro)
  (hx:Ro.B xs a n c∈ro) (hb:By xs) (hE:ErrC (gd xs=none) ro) (hd:Hd xs 206 15) (hn:n<=1000000):Calls pg 217 #[.pointer (some ⟨b,0,none⟩),.slice a n c] w (UPost F b T 3 ex ro (gd xs)):=by
 apply of217
 have hlen:=H.lenB hx
 have hnc:n<=c:=(H.deep1 hx).len.2.1
 have hk:kindOf (hT xs) (hC xs)=12:=by rw [hd.typ,hd.cnt];rfl
 have hU0:=rdBody_fb hk (by decide)
 rw [List.length_drop] at hU0
 have hU:rdBody xs=if xs.length - 4 < 8 then none else rdRemb (n32 (xs.drop 4)) (n32 (xs.drop 8)) (xs.drop 12):=by
  rw [hU0]
  by_cases h:xs.length - 4 < 8
  ·rw [if_pos h,if_pos h]
  ·rw [if_neg h,if_neg h]
   unfold rdFb
   simp only
   rw [if_neg (by decide),if_neg (by decide),if_neg (by decide),if_neg (by decide),if_pos trivial,List.drop_drop,List.drop_drop]
 clear hU0
 have hbl:(xs.drop 12).length=n - 12:=by rw [List.length_drop,hlen]
 have hLn:=hd.len
 rw [hlen] at hLn
 have hok:=hd.ok
 simp only [hdrOk,Bool.and_eq_true,decide_eq_true_eq,beq_iff_eq] at hok
 have h0:=hb.getD 0
 obtain ⟨f1,f2,f3,_,_⟩:=byteR h0
 have hcnt:xs.getD 0 0 % 32=15:=hd.cnt
 have htyp:xs.getD 1 0=206:=hd.typ
 refine ⟨fun hc=>?_,fun hc=>?_⟩
 ·rw [decide_eq_true_eq] at hc
  refine uErr H (List.Sublist.refl _) (fun _ h=>h) hE rfl (gd_none ?_) (by decide)
  rw [hU]
  split
  ·rfl
  ·unfold rdRemb;rw [if_pos (by omega)]
 rw [decide_eq_false_iff_not] at hc
 have hU2:rdBody xs=rdRemb (n32 (xs.drop 4)) (n32 (xs.drop 8)) (xs.drop 12):=by rw [hU,if_neg (by omega)]
 clear hU
 unfold rdRemb at hU2
 rw [if_neg (by omega)] at hU2
 obtain ⟨p,ep,hp,_,_⟩:=H.at_ (a:=a) hx (by omega)
 refine ⟨p,ep,by omega,by omega,?_⟩
 refine ⟨_,hp 0 (by omega),?_⟩
 rw [f1,hok.2]
 refine fF ?_
 refine ⟨p,ep,by omega,by omega,?_⟩
 refine ⟨_,hp 0 (by omega),?_⟩
 rw [f2]
 refine ⟨fun h=>?_,fun h=>?_⟩
 ·have h':¬xs.getD 0 0 / 32 % 2=0:=by simpa using h
  refine uErr H (List.Sublist.refl _) (fun _ h=>h) hE rfl ?_ (by decide)
  have hpp:hP xs=true:=by unfold hP;rw [beq_iff_eq];omega
  unfold gd
  rw [hpp];rfl
 refine ⟨p,ep,by omega,by omega,?_⟩
 refine ⟨_,hp 0 (by omega),?_⟩
 rw [f3,hcnt]
 refine fF ?_
 refine ⟨p,ep,by omega,by omega,?_⟩
 refine ⟨_,hp 1 (by omega),?_⟩
 rw [htyp]
 refine fF ?_
 clear hp ep
 refine ⟨by omega,by omega,?_⟩
 refine ⟨by omega,by omega,?_⟩
 have H1:=H.cutB hx 2 4 (by omega) (by omega)
 refine call_j (c90 (Sat.rd H1 ms) ((hb.drop 2).take _) (by omega)) ?_
 clear H1
 rintro _ w ⟨rfl,g⟩
 replace H:=H.grow g;clear g
 rw [show (4:Nat) - 2=2 by rfl,n16_take]
 refine ⟨_,rfl,?_⟩
 have hLL:n16 (xs.drop 2)=hL xs:=rfl
 have eZ:IntKind.i64.wrap (IntKind.u16.wrap ((IntKind.u16.wrap (n16 (xs.drop 2)+(1:Int)))*(4:Int)))=((n % 65536:Nat):Int):=by
  rw [hLL,wu16,wu16,wi64_of (by omega) (by omega)];omega
 rw [eZ]
 refine ⟨fun h=>?_,fun h=>?_⟩
 ·rw [decide_eq_true_eq] at h
  refine uErr H (List.Sublist.refl _) (fun _ h=>h) hE rfl (gd_none ?_) (by decide)
  rw [hU2]
  split
  ·rfl
  split
  ·rfl
  rw [if_pos (by have:=(hb.drop 12).getD 4;omega)]
 rw [decide_eq_false_iff_not] at h
 refine ⟨fun h2=>by rw [decide_eq_true_eq] at h2;omega,fun _=>?_⟩
 refine ⟨by omega,by omega,?_⟩
 refine ⟨by omega,by omega,?_⟩
 have H1:=H.cutB hx 4 8 (by omega) (by omega)
 refine call_j (c150 (Sat.rd H1 ms) ((hb.drop 4).take _) (by omega)) ?_
 clear H1
 rintro _ w ⟨rfl,g⟩
 replace H:=H.grow g;clear g
 rw [n32_takem (by decide)]
 refine ⟨_,rfl,?_⟩
 refine ⟨_,rfl,?_⟩
 refine sSt0 H (by exact add_flat _ _ _) (by kernel_rfl) (by rfl) (by rfl) ?_;clear H;intro w _ H
 refine ⟨by omega,by omega,?_⟩
 refine ⟨by omega,by omega,?_⟩
 have H1:=H.cutB hx 8 12 (by omega) (by omega)
 refine call_j (c150 (Sat.rd H1 ms) ((hb.drop 8).take _) (by omega)) ?_
 clear H1
 rintro _ w ⟨rfl,g⟩
 replace H:=H.grow g;clear g
 rw [n32_takem (by decide)]
 refine ⟨_,rfl,?_⟩
 refine ⟨fun h2=>?_,fun h2=>?_⟩
 ·have h3:n32 (xs.drop 8)≠0:=by simpa using h2
  exact uErr (cells:=[.int .u32 (n32 (xs.drop 4)),c1,.slice none 0 0]) H (List.Sublist.refl _) (fun _ h=>h) hE rfl (gd_none (by rw [hU2,if_pos h3])) (by decide)
 have h3:¬n32 (xs.drop 8)≠0:=by simpa using h2
 rw [if_neg h3] at hU2
 refine ⟨by omega,by omega,?_⟩
 refine ⟨by omega,by omega,?_⟩
 refine sNew H ?_;clear H;intro b25 w _ H
 have H1:=(H.blkRow 1 4 (ob [82,69,77,66]) (by rfl) (by decide) (fun G h=>DeepL.ones [_,_,_,_]))
 have H2:=H1.cutB (mt hx) 12 16 (by omega) (by omega)
 refine call_j (c219 (xs:=(xs.drop 12).take (16 - 12)) (ys:=[82,69,77,66]) H2 ms (mt ms) ((hb.drop 12).take _) (by intro x hx;simp at hx;omega)) ?_
 clear H2
 rintro _ w' ⟨rfl,rfl⟩
 replace H:=H1.sub (List.Sublist.refl _) (fun r h=>mt h)
 clear H1
 refine ⟨_,rfl,?_⟩
 refine ⟨fun h4=>?_,fun h4=>?_⟩
 ·have h5:(xs.drop 12).take 4≠[82,69,77,66]:=by simpa using h4
  exact uErr (cells:=[.int .u32 (n32 (xs.drop 4)),c1,.slice none 0 0]) H (List.Sublist.refl _) (fun _ h=>h) hE rfl (gd_none (by rw [hU2,if_pos h5])) (by decide)
 have h5:¬(xs.drop 12).take 4≠[82,69,77,66]:=by simpa using h4
 rw [if_neg h5] at hU2
 obtain ⟨p,ep,hp,_,_⟩:=H.at_ (a:=a) hx (by omega)
 refine ⟨p,ep,by omega,by omega,?_⟩
 refine ⟨_,hp 16 (by omega),?_⟩
 have hgd:(xs.drop 12).getD 4 0=xs.getD 16 0:=getD_drop _ _ _
 have h16:=hb.getD 16
 rw [hgd] at hU2
 generalize xs.getD 16 0=y at h16 hU2 ⊢
 obtain ⟨num,rfl⟩:=Int.eq_ofNat_of_zero_le h16.1
 rw [Int.toNat_natCast] at hU2
 rw [wi64_of (n:=(num:Int)) (by omega) (by omega),wi64_of (n:=4*(num:Int)) (by omega) (by omega),wi64_of (n:=20+4*(num:Int)) (by omega) (by omega)]
 refine ⟨fun h6=>?_,fun h6=>?_⟩
 ·have h7:¬((n % 65536:Nat):Int)=20+4*(num:Int):=by simpa using h6
  exact uErr (cells:=[.int .u32 (n32 (xs.drop 4)),c1,.slice none 0 0]) H (List.Sublist.refl _) (fun _ h=>h) hE rfl (gd_none (by rw [hU2,if_pos (by omega)])) (by decide)
 have h7:((n % 65536:Nat):Int)=20+4*(num:Int):=by simpa using h6
 refine ⟨p,ep,by omega,by omega,?_⟩
 refine ⟨_,hp 17 (by omega),?_⟩
 refine ⟨p,ep,by omega,by omega,?_⟩
 clear hp
 replace H:=H.drew;generalize w.drew=w at H ⊢
 obtain ⟨p',ep',hp,_,_⟩:=H.at_ (a:=a) hx (by omega)
 rw [ep] at ep'
 cases ep'
 refine ⟨_,hp 17 (by omega),?_⟩
 refine ⟨p,ep,by omega,by omega,?_⟩
 refine ⟨_,hp 18 (by omega),?_⟩
 refine ⟨p,ep,by omega,by omega,?_⟩
 refine ⟨_,hp 19 (by omega),?_⟩
 clear hp ep
 have h17:=hb.getD 17
 have h18:=hb.getD 18
 have h19:=hb.getD 19
 obtain ⟨_,_,_,g4,g5⟩:=byteR h17
 have eexp:IntKind.u8.wrap ((IntKind.u8.wrap ((ishr .u8 (xs.getD 17 0) (2:Int))+(127:Int)))+(23:Int))=xs.getD 17 0 / 4+150:=by rw [g4,wu8,wu8];omega
 rw [eexp,g5,mant_word h17 h18 h19]
 have hn24:n24 ((xs.drop 12).drop 5)=xs.getD 17 0*65536+xs.getD 18 0*256+xs.getD 19 0:=by
  rw [List.drop_drop];unfold n24;rw [getD_drop,getD_drop,getD_drop]
 rw [hn24] at hU2
 have hmq:(xs.getD 17 0*65536+xs.getD 18 0*256+xs.getD 19 0) % 262144=xs.getD 17 0 % 4*65536+xs.getD 18 0*256+xs.getD 19 0/\(xs.getD 17 0*65536+xs.getD 18 0*256+xs.getD 19 0) / 262144=xs.getD 17 0 / 4:=by omega
 rw [hmq.1,hmq.2] at hU2
 clear hn24 hmq eexp g4 g5
 have hm:0<=xs.getD 17 0 % 4*65536+xs.getD 18 0*256+xs.getD 19 0/\xs.getD 17 0 % 4*65536+xs.getD 18 0*256+xs.getD 19 0 < 262144:=by omega
 have he:0<=xs.getD 17 0 / 4/\xs.getD 17 0 / 4<=63:=by omega
 generalize xs.getD 17 0 % 4*65536+xs.getD 18 0*256+xs.getD 19 0=mm at hm hU2 ⊢
 generalize xs.getD 17 0 / 4=ee at he hU2 ⊢
 obtain ⟨m,rfl⟩:=Int.eq_ofNat_of_zero_le hm.1
 obtain ⟨e,rfl⟩:=Int.eq_ofNat_of_zero_le he.1
 rw [Int.toNat_natCast,Int.toNat_natCast] at hU2
 refine ⟨fun h8=>?_,fun h8=>?_⟩
 ·have hm0:0 < m:=by
   have:¬(m:Int)=0:=by simpa using h8
   omega
  obtain ⟨w1,w2,w3⟩:=sgl_word (i:=e) hm0 (by omega) (by omega)
  refine ⟨fun exp47 mant48 m_43 w=>∃j:Nat,exp47=(e:Int)+150 - (j:Int)/\mant48=((m*2 ^ j:Nat):Int)/\j+m_43=23 - m.log2/\Sat F w (.blk b T [.int .u32 (n32 (xs.drop 4)),c1,.slice none 0 0]::ex) ro,⟨23 - m.log2,0,by omega,by simp,by omega,H⟩,?_⟩
  clear H;rintro dd42 exp47 mant48 m_43 w ⟨j,rfl,rfl,hjm,H⟩
  have hpj:m*2 ^ j<=m*2 ^ (23 - m.log2):=Nat.mul_le_mul_left _ (Nat.pow_le_pow_right (by decide) (by omega))
  have hM:m*2 ^ j < 16777216:=by omega
  have hpos:1<=m*2 ^ j:=Nat.mul_pos hm0 (Nat.two_pow_pos _)
  rw [iand_bit23 hM]
  refine ⟨fun h9=>?_,fun h9=>?_⟩
  ·have hlt:m*2 ^ j < 8388608:=by
    by_cases hq:m*2 ^ j < 8388608
    ·exact hq
    ·rw [if_neg hq] at h9;exact absurd h9 (by decide)
   have hj:j≠23 - m.log2:=by
    intro hj;rw [hj] at hlt;omega
   refine ⟨m_43 - 1,by omega,j+1,?_,?_,by omega,H⟩
   ·rw [wu8];omega
   ·rw [wu32,Nat.pow_succ,<-Nat.mul_assoc];omega
  ·have hge:8388608<=m*2 ^ j:=by
    by_cases hq:m*2 ^ j < 8388608
    ·rw [if_pos hq] at h9;exact absurd h9 (by decide)
    ·omega
   have hj:j=23 - m.log2:=by
    by_cases hj:j=23 - m.log2
    ·exact hj
    ·exfalso
     have h10:m*2 ^ (j+1)<=m*2 ^ (23 - m.log2):=Nat.mul_le_mul_left _ (Nat.pow_le_pow_right (by decide) (by omega))
     rw [Nat.pow_succ,<-Nat.mul_assoc] at h10
     omega
   subst hj
   have hw:ior .u32 (ishl .u32 (IntKind.u32.wrap ((e:Int)+150 - ((23 - m.log2:Nat):Int))) (23:Int)) (iand .u32 ((m*2 ^ (23 - m.log2):Nat):Int) (8388607:Int))=((sgl m e:Nat):Int):=by
    rw [bits_word (by omega) (by omega)]
    omega
   rw [hw]
   have hsl:sgl m e < 4294967296:=by omega
   refine ⟨_,_,run_f32from (by omega),?_⟩
   rw [Int.toNat_natCast]
   refine ⟨_,rfl,?_⟩
   refine sSt0 H (by exact add_flat _ _ _) (by kernel_rfl) (by rfl) (by rfl) ?_;clear H;intro w _ H
   refine ⟨_,rfl,?_⟩
   refine sSt0 H (by exact add_flat _ _ _) (by kernel_rfl) (by rfl) (by rfl) ?_;clear H;intro w _ H
   refine ⟨fun n61 m_57 w=>∃(i:Nat) (o:Option Addr) (oc:Nat) (r:Option Nat),n61=((20+4*i:Nat):Int)/\i+m_57=num /\
    Sat F w (.blk b T [.int .u32 (n32 (xs.drop 4)),.float .f32 (sgl m e),.slice o i oc]::.own 51 1 o i oc r (oi .u32 (words i (xs.drop 20)))::ex) ro,⟨num,0,none,0,none,rfl,by omega,(H.nilOwn 51 1).u1⟩,?_⟩
   clear H;rintro dd56 n61 m_57 w ⟨i,o,oc,r,rfl,him,H⟩
   refine ⟨fun h=>?_,fun h=>?_⟩
   ·rw [decide_eq_true_eq] at h
    rw [wi64_of (n:=((20+4*i:Nat):Int)+4) (by omega) (by omega),show (((20+4*i:Nat):Int)+4).toNat=24+4*i by omega,Int.toNat_natCast]
    refine ⟨by omega,by omega,?_⟩
    refine ⟨by omega,by omega,?_⟩
    have H1:=H.cutB hx (20+4*i) (24+4*i) (by omega) (by omega)
    refine call_j (c150 (Sat.rd H1 ms) ((hb.drop _).take _) (by omega)) ?_
    clear H1
    rintro _ w ⟨rfl,g⟩
    replace H:=H.grow g;clear g
    rw [n32_takem (by omega)]
    refine ⟨_,rfl,?_⟩
    refine ⟨_,rfl,?_⟩
    refine ⟨_,_,_,(H.b0.at0 rfl),?_⟩
    refine ⟨rfl,?_⟩
    refine sPush1 H (bytes:=4) (by kernel_rfl) [.one (.int .u32 (n32 (xs.drop (20+4*i))))] (by rfl) (fun G h=>by repeat (exact DeepL.ones _)) (by rfl) (by unfold maxLen;omega) (by omega) ?_
    clear H;intro x68 x68l x68c x68r w ex68 _ H
    refine ⟨_,rfl,?_⟩
    refine sSt0 H (by exact add_flat _ _ _) (by kernel_rfl) (by rfl) (by rfl) ?_;clear H;intro w _ H
    subst ex68
    refine ⟨m_57 - 1,by omega,i+1,x68,x68c,x68r,?_,by omega,?_⟩
    ·omega
    ·rw [words_snoc,oi_snoc,List.drop_drop]
     exact H
   ·rw [decide_eq_false_iff_not] at h
    obtain rfl:i=num:=by omega
    replace H:=H.r1.freeze
    refine uOk (cells:=[.int .u32 (n32 (xs.drop 4)),.float .f32 (sgl m e),.slice o i oc]) H (List.Sublist.refl _) (fun r hr=>by simp [hr]) rfl ?_
    intro p hp
    obtain ⟨_,hp⟩:=gd_some hp
    rw [hU2] at hp
    split at hp
    ·cases hp
    split at hp
    ·cases hp
    cases hp
    rw [List.drop_drop]
    exact fun G h=>dc (.one _) (dc (by rw [Int.toNat_natCast];exact .one _) (dc (h (.deep [_] [_]) ms).head dn))
 ·have hm0:m=0:=by
   have:(m:Int)=0:=by simpa using h8
   omega
  subst hm0
  have hw:ior .u32 (ishl .u32 (IntKind.u32.wrap ((e:Int)+150)) (23:Int)) (iand .u32 ((0:Nat):Int) (8388607:Int))=(((e+150)*8388608:Nat):Int):=by
   rw [bits_word (by omega) (by omega)]
   omega
  rw [hw]
  refine ⟨_,_,run_f32from (by omega),?_⟩
  rw [Int.toNat_natCast]
  refine ⟨_,rfl,?_⟩
  refine sSt0 H (by exact add_flat _ _ _) (by kernel_rfl) (by rfl) (by rfl) ?_;clear H;intro w _ H
  refine ⟨_,rfl,?_⟩
  refine sSt0 H (by exact add_flat _ _ _) (by kernel_rfl) (by rfl) (by rfl) ?_;clear H;intro w _ H
  refine ⟨fun n61 m_57 w=>∃(i:Nat) (o:Option Addr) (oc:Nat) (r:Option Nat),n61=((20+4*i:Nat):Int)/\i+m_57=num /\
   Sat F w (.blk b T [.int .u32 (n32 (xs.drop 4)),.float .f32 ((e+150)*8388608),.slice o i oc]::.own 51 1 o i oc r (oi .u32 (words i (xs.drop 20)))::ex) ro,⟨num,0,none,0,none,rfl,by omega,(H.nilOwn 51 1).u1⟩,?_⟩
  clear H;rintro dd56 n61 m_57 w ⟨i,o,oc,r,rfl,him,H⟩
  refine ⟨fun h=>?_,fun h=>?_⟩
  ·rw [decide_eq_true_eq] at h
   rw [wi64_of (n:=((20+4*i:Nat):Int)+4) (by omega) (by omega),show (((20+4*i:Nat):Int)+4).toNat=24+4*i by omega,Int.toNat_natCast]
   refine ⟨by omega,by omega,?_⟩
   refine ⟨by omega,by omega,?_⟩
   have H1:=H.cutB hx (20+4*i) (24+4*i) (by omega) (by omega)
   refine call_j (c150 (Sat.rd H1 ms) ((hb.drop _).take _) (by omega)) ?_
   clear H1
   rintro _ w ⟨rfl,g⟩
   replace H:=H.grow g;clear g
   rw [n32_takem (by omega)]
   refine ⟨_,rfl,?_⟩
   refine ⟨_,rfl,?_⟩
   refine ⟨_,_,_,(H.b0.at0 rfl),?_⟩
   refine ⟨rfl,?_⟩
   refine sPush1 H (bytes:=4) (by kernel_rfl) [.one (.int .u32 (n32 (xs.drop (20+4*i))))] (by rfl) (fun G h=>by repeat (exact DeepL.ones _)) (by rfl) (by unfold maxLen;omega) (by omega) ?_
   clear H;intro x68 x68l x68c x68r w ex68 _ H
   refine ⟨_,rfl,?_⟩
   refine sSt0 H (by exact add_flat _ _ _) (by kernel_rfl) (by rfl) (by rfl) ?_;clear H;intro w _ H
   subst ex68
   refine ⟨m_57 - 1,by omega,i+1,x68,x68c,x68r,?_,by omega,?_⟩
   ·omega
   ·rw [words_snoc,oi_snoc,List.drop_drop]
    exact H
  ·rw [decide_eq_false_iff_not] at h
   obtain rfl:i=num:=by omega
   replace H:=H.r1.freeze
   refine uOk (cells:=[.int .u32 (n32 (xs.drop 4)),.float .f32 ((e+150)*8388608),.slice o i oc]) H (List.Sublist.refl _) (fun r hr=>by simp [hr]) rfl ?_
   intro p hp
   obtain ⟨_,hp⟩:=gd_some hp
   rw [hU2] at hp
   split at hp
   ·cases hp
   rw [if_pos (by simp)] at hp
   cases hp
def go (xs:List Int):Option Pk:=if (rdOne xs).1=0 then some (rdOne xs).2 else none
theorem go_gd {xs:List Int} {t c:Int} (hd:Hd xs t c) (hk:kindOf t c≠0):go xs=gd xs:=by
 have h1:¬hdrOk xs=false:=by rw [hd.ok];decide
 have hU:rdOne xs=if hP xs then (2,{}) else oneOf (rdBody xs):=by
  unfold rdOne
  rw [if_neg h1,if_neg (by have:=hd.len;omega),hd.typ,hd.cnt,if_neg hk]
 unfold go gd
 rw [hU]
 by_cases hp:hP xs=true
 ·rw [if_pos hp,if_pos hp];rfl
 ·rw [if_neg hp,if_neg hp]
  cases rdBody xs<;>rfl
theorem go_raw {xs:List Int} {t c:Int} (hd:Hd xs t c) (hk:kindOf t c=0):go xs=if t=207 then none else some { data:=xs }:=by
 have h1:¬hdrOk xs=false:=by rw [hd.ok];decide
 have hU:rdOne xs=if hT xs=207 then (2,{}) else (0,{ data:=xs }):=by
  unfold rdOne
  rw [if_neg h1,if_neg (by have:=hd.len;omega)]
  have:kindOf (hT xs) (hC xs)=0:=by rw [hd.typ,hd.cnt];exact hk
  rw [if_pos this]
 unfold go
 rw [hU,hd.typ]
 split<;>rfl
theorem hdr_bad {P:Prop} {F:Fr} {w:World} {ex:List Ex} {ro:List Ro} {xs:List Int} {a:Option Addr} {n c:Nat} {b:Nat} {t:TypeId} {cells:List Value} (H:Sat F w (.blk b t cells::ex) ro)
  (hx:Ro.B xs a n c∈ro) (hb:By xs) (hE:ErrC P ro) (hok:hdrOk xs=false):Calls pg 55 #[.pointer (some ⟨b,0,none⟩),.slice a n c] w fun en w'=>∃e,en=.returned e/\isIf e/\isNilI e=false/\Sat F w' (.blk b t cells::ex) ro:=by
 apply of55
 have hlen:=H.lenB hx
 obtain ⟨e1,_,_⟩:=hdr_bits (hb.getD 0)
 refine ⟨fun hc=>?_,fun hc=>?_⟩
 ·obtain ⟨v,h1,h2,h3⟩:=hE.laid 1 (by decide)
  exact ⟨v,H.cell h1 rfl,v,rfl,h2,h3 (by decide),H⟩
 rw [decide_eq_false_iff_not] at hc
 obtain ⟨p,rfl,hp,kp,fp⟩:=H.at_ (a:=a) hx (by omega)
 refine ⟨p,rfl,by omega,by omega,?_⟩
 refine ⟨_,hp 0 (by omega),?_⟩
 rw [e1]
 refine ⟨fun _=>?_,fun hc2=>?_⟩
 ·obtain ⟨v,h1,h2,h3⟩:=hE.laid 2 (by decide)
  exact ⟨v,H.cell h1 rfl,v,rfl,h2,h3 (by decide),H⟩
 ·have h2:xs.getD 0 0 / 64=2:=by simpa using hc2
  have:hdrOk xs=true:=by
   simp only [hdrOk,Bool.and_eq_true,decide_eq_true_eq,beq_iff_eq]
   exact ⟨by omega,h2⟩
  rw [this] at hok
  cases hok
def tyK (k:Int):TypeId:=
 if k=1 then 190 else if k=2 then 195 else if k=3 then 198 else if k=4 then 200 else if k=5 then 204 else
 if k=6 then 207 else if k=7 then 214 else if k=8 then 217 else if k=9 then 222 else if k=10 then 224 else
 if k=11 then 229 else if k=12 then 235 else if k=13 then 240 else 242
def pkI (p:Pk):Dat:=.ifc (tyK p.kind) (.ptr (rtcpD p))
theorem gd_kind {xs:List Int} {t c:Int} (hd:Hd xs t c) (hk:kindOf t c≠0) {p:Pk} (h:gd xs=some p):p.kind=kindOf t c:=by
 obtain ⟨_,hp⟩:=gd_some h
 have hkk:kindOf (hT xs) (hC xs)=kindOf t c:=by rw [hd.typ,hd.cnt]
 unfold rdBody at hp
 simp only [hkk] at hp
 have hkr:kindOf t c=0\/kindOf t c=1\/kindOf t c=2\/kindOf t c=3\/kindOf t c=4\/kindOf t c=5\/kindOf t c=6\/kindOf t c=7\/kindOf t c=8\/kindOf t c=9\/kindOf t c=10\/kindOf t c=11\/kindOf t c=12\/kindOf t c=13:=by
  unfold kindOf
  repeat' (omega)
 generalize kindOf t c=k at hp hkr hk ⊢
 rcases hkr with rfl | rfl | rfl | rfl | rfl | rfl | rfl | rfl | rfl | rfl | rfl | rfl | rfl | rfl
 ·exact absurd rfl hk
 all_goals simp only [rdFb,Int.reduceEq,if_true,if_false,or_true,true_or,or_self] at hp
 all_goals (try unfold rdBye at hp)
 all_goals (try unfold rdRemb at hp)
 all_goals (try unfold rdCc at hp)
 all_goals (try unfold rdT at hp)
 all_goals (try simp only at hp)
 all_goals (repeat' (first | (cases hp;done) | (cases hp;rfl) | (simp only [Option.map_eq_some_iff] at hp;obtain ⟨_,_,rfl⟩:=hp;rfl) | split at hp))
def UmPost (F:Fr) (ex:List Ex) (ro:List Ro) (xs:List Int) (en:Ending) (w':World):Prop:=
 ((hdrOk xs=false\/(xs.length:Int) < 4*(hL xs+1))/\∃e,en=.returned (.tuple #[.nilIface,.int .i64 0,e])/\isIf e/\isNilI e=false/\Sat F w' ex ro) \/
 (hdrOk xs=true/\4*(hL xs+1)<=(xs.length:Int)/\∃T v e ro',en=.returned (.tuple #[.iface T v,.int .i64 (4*(hL xs+1)),e])/\isIf e/\(∀r∈ro,r∈ro')/\Sat F w' ex ro' /\
  ∀p,go (xs.take (4*(hL xs+1)).toNat)=some p->e=.nilIface/\Ro.deep [pkI p] [.iface T v]∈ro')
theorem head_take {xs:List Int} {S:Nat} (h:4<=S):hdrOk (xs.take S)=(hdrOk xs)/\hL (xs.take S)=hL xs/\hT (xs.take S)=hT xs/\hC (xs.take S)=hC xs:=by
 have h0:(xs.take S).getD 0 0=xs.getD 0 0:=getD_take (by omega)
 have h1:(xs.take S).getD 1 0=xs.getD 1 0:=getD_take (by omega)
 have h2:(xs.take S).getD 2 0=xs.getD 2 0:=getD_take (by omega)
 have h3:(xs.take S).getD 3 0=xs.getD 3 0:=getD_take (by omega)
 refine ⟨?_,?_,h1,?_⟩
 ·unfold hdrOk
  rw [h0]
  have:decide (4<=(xs.take S).length)=decide (4<=xs.length):=by rw [List.length_take];congr 1;apply propext;omega
  rw [this]
 ·unfold hL n16
  rw [getD_drop,getD_drop,getD_drop,getD_drop]
  exact congr (congrArg _ (congrArg (·*256) h2)) h3
 ·unfold hC;rw [h0]
theorem uFin {F:Fr} {w:World} {ex exs:List Ex} {ro ro':List Ro} {xs:List Int} {b:Nat} {T TT:TypeId} {cells:List Value} {e:Value} (H:Sat F w (.blk b T cells::exs) ro') (hs:ex.Sublist exs) (hok:hdrOk xs=true) (hS:4*(hL xs+1)<=(xs.length:Int)) (he:isIf e) (hr:∀r∈ro,r∈ro')
  (hg:∀p,gd (xs.take (4*(hL xs+1)).toNat)=some p->e=.nilIface/\Ro.deep (rtcpD p) cells∈ro') (hgo:go (xs.take (4*(hL xs+1)).toNat)=gd (xs.take (4*(hL xs+1)).toNat)) (hT:∀p,gd (xs.take (4*(hL xs+1)).toNat)=some p->tyK p.kind=TT) :
  UmPost F ex ro xs (.returned (.tuple #[.iface TT (.pointer (some ⟨b,0,none⟩)),.int .i64 (4*(hL xs+1)),e])) w:=by
 refine .inr ⟨hok,hS,?_⟩
 cases hq:gd (xs.take (4*(hL xs+1)).toNat) with
 | none=>exact ⟨TT,_,e,ro',rfl,he,hr,H.sub (hs.trans (sc1)) (fun _ h=>h),fun p hp=>by rw [hgo,hq] at hp;cases hp⟩
 | some p=>
  obtain ⟨h1,h2⟩:=hg p hq
  have H1:=H.blkPtr (rtcpD p) (fun G h=>h _ h2)
  have H2:=H1.addD (ds:=[pkI p]) (vs:=[.iface TT (.pointer (some ⟨b,0,none⟩))]) (fun G h=>by unfold pkI;rw [hT p hq];exact dc (.ifc _ _ _ (h (.deep [_] [_]) ms).head) dn)
  refine ⟨TT,_,e,_,rfl,he,fun r h=>mt (mt (hr r h)),H2.sub hs (fun _ h=>h),fun p' hp=>?_⟩
  rw [hgo,hq] at hp
  cases hp
  exact ⟨h1,ms⟩
theorem uRaw {F:Fr} {w:World} {ex exs:List Ex} {ro ro':List Ro} {xs:List Int} {b:Nat} {T:TypeId} {a:Option Addr} {n c:Nat} {t k:Int} (H:Sat F w (.blk b T [.slice a n c]::exs) ro') (hs:ex.Sublist exs) (hok:hdrOk xs=true) (hS:4*(hL xs+1)<=(xs.length:Int)) (hr:∀r∈ro,r∈ro')
  (hB:Ro.B (xs.take (4*(hL xs+1)).toNat) a n c∈ro') (hd:Hd (xs.take (4*(hL xs+1)).toNat) t k) (hk:kindOf t k=0) :
  UmPost F ex ro xs (.returned (.tuple #[.iface 242 (.pointer (some ⟨b,0,none⟩)),.int .i64 (4*(hL xs+1)),.nilIface])) w:=by
 refine .inr ⟨hok,hS,?_⟩
 have hg:=go_raw hd hk
 have H1:=H.blkPtr [.row 1 (ob (xs.take (4*(hL xs+1)).toNat))] (fun G h=>h _ hB)
 have H2:=H1.addD (ds:=[pkI { data:=xs.take (4*(hL xs+1)).toNat }]) (vs:=[.iface 242 (.pointer (some ⟨b,0,none⟩))]) (fun G h=>dc (.ifc _ _ _ (h (.deep [_] [_]) ms).head) dn)
 refine ⟨_,_,.nilIface,_,rfl,trivial,fun r h=>mt (mt (hr r h)),H2.sub hs (fun _ h=>h),fun p hp=>?_⟩
 rw [hg] at hp
 split at hp
 ·cases hp
 ·cases hp
  exact ⟨rfl,ms⟩
theorem c79 {F:Fr} {w:World} {ex:List Ex} {ro:List Ro} {xs:List Int} {a:Option Addr} {n c:Nat} (H:Sat F w ex ro)
  (hx:Ro.B xs a n c∈ro) (hb:By xs) (hE:ErrC (go (xs.take (4*(hL xs+1)).toNat)=none) ro) (hn:n<=1000000) (h13:kindOf (hT xs) (hC xs)≠13):Calls pg 79 #[.slice a n c] w (UmPost F ex ro xs):=by
 apply of79
 have hlen:=H.lenB hx
 have hnc:n<=c:=(H.deep1 hx).len.2.1
 refine sNew H ?_;clear H;intro b1 w _ H
 by_cases hok:hdrOk xs=false
 ·refine call_j (hdr_bad H hx hb hE hok) ?_
  clear H
  rintro _ w ⟨e,rfl,h1,h2,H⟩
  refine ⟨_,rfl,h1,fun _=>?_,fun h=>by rw [h2] at h;cases h⟩
  exact .inl ⟨.inl hok,e,rfl,h1,h2,H.d1⟩
 have hok:hdrOk xs=true:=by simpa using hok
 have hLr:0<=hL xs/\hL xs < 65536:=by unfold hL;exact n16_lt (hb.drop 2)
 refine call_j (c55 H hx hb hok) ?_
 clear H
 rintro _ w ⟨rfl,H⟩
 refine ⟨_,rfl,by simp [isIf],fun h=>absurd h (by decide),fun _=>?_⟩
 refine ⟨_,(H.b0.at0 rfl),?_⟩
 rw [wi64_of (n:=hL xs) (by omega) (by omega),wi64_of (n:=hL xs+1) (by omega) (by omega),wi64_of (n:=(hL xs+1)*4) (by omega) (by omega),Int.mul_comm (hL xs+1) 4]
 refine ⟨fun h=>?_,fun h=>?_⟩
 ·rw [decide_eq_true_eq] at h
  replace H:=H.drew;generalize w.drew=w at H ⊢
  obtain ⟨v,h1,h2,h3⟩:=hE.laid 1 (by decide)
  exact ⟨v,H.cell h1 rfl,.inl ⟨.inr (by omega),v,rfl,h2,h3 (by decide),H.d1⟩⟩
 rw [decide_eq_false_iff_not] at h
 have hS:4*(hL xs+1)<=(xs.length:Int):=by omega
 obtain ⟨S,hSd⟩:∃S,S=(4*(hL xs+1)).toNat:=⟨_,rfl⟩
 have hS4:4<=S:=by omega
 obtain ⟨h1,h2,h3,h4⟩:=head_take (xs:=xs) hS4
 have hyl:(xs.take S).length=S:=by rw [List.length_take];omega
 have hd0:Hd (xs.take S) (hT (xs.take S)) (hC (xs.take S)):=⟨by rw [h1];exact hok,by rw [h2,hyl];omega,rfl,rfl⟩
 have hby:By (xs.take S):=hb.take S
 have hn2:S<=1000000:=by omega
 refine ⟨by omega,by omega,?_⟩
 refine ⟨_,(H.b0.at0 rfl),?_⟩
 rw [<-hSd]
 have H1:Sat F w _ (Ro.B (xs.take S) (cutA a 0 c 1) S c::ro):=H.cutB hx 0 S (Nat.zero_le _) (by omega)
 replace H:=H1
 clear H1
 have hE2:ErrC (go (xs.take S)=none) (Ro.B (xs.take S) (cutA a 0 c 1) S c::ro):=by rw [hSd];exact hE.mono (fun r h=>mt h)
 subst hSd
 refine ⟨fun hc=>?_,fun hc=>?_⟩
 ·have ht:hT xs=200:=by simpa using hc
  have hd:Hd (xs.take (4*(hL xs+1)).toNat) 200 (hC (xs.take (4*(hL xs+1)).toNat)):=⟨hd0.ok,hd0.len,by rw [h3];exact ht,rfl⟩
  refine sNew H ?_;clear H;intro bk w _ H
  refine inv_ptr (f:=143) (e:=194) (by kernel_rfl) (by rfl) (by kernel_rfl) (call_j (c143 H ms hby (hE2.imp (fun h=>(go_gd hd (by unfold kindOf;simp)).trans h)) hd hn2) ?_)
  clear H
  rintro _ w ⟨e,cells,ro',rfl,he1,hr',hcl,H,hg⟩
  refine ⟨_,rfl,?_⟩
  exact uFin H (sc1) hok hS he1 (fun r h=>hr' r (mt h)) hg (go_gd hd (by unfold kindOf;simp)) (fun p hp=>by rw [gd_kind hd (by unfold kindOf;simp) hp];rfl)
 ·have n200:¬hT xs=200:=by simpa using hc
  refine ⟨fun hc=>?_,fun hc=>?_⟩
  ·have ht:hT xs=201:=by simpa using hc
   have hd:Hd (xs.take (4*(hL xs+1)).toNat) 201 (hC (xs.take (4*(hL xs+1)).toNat)):=⟨hd0.ok,hd0.len,by rw [h3];exact ht,rfl⟩
   refine sNew H ?_;clear H;intro bk w _ H
   refine inv_ptr (f:=156) (e:=197) (by kernel_rfl) (by rfl) (by kernel_rfl) (call_j (c156 H ms hby (hE2.imp (fun h=>(go_gd hd (by unfold kindOf;simp)).trans h)) hd hn2) ?_)
   clear H
   rintro _ w ⟨e,cells,ro',rfl,he1,hr',hcl,H,hg⟩
   refine ⟨_,rfl,?_⟩
   exact uFin H (sc1) hok hS he1 (fun r h=>hr' r (mt h)) hg (go_gd hd (by unfold kindOf;simp)) (fun p hp=>by rw [gd_kind hd (by unfold kindOf;simp) hp];rfl)
  ·have n201:¬hT xs=201:=by simpa using hc
   refine ⟨fun hc=>?_,fun hc=>?_⟩
   ·have ht:hT xs=202:=by simpa using hc
    have hd:Hd (xs.take (4*(hL xs+1)).toNat) 202 (hC (xs.take (4*(hL xs+1)).toNat)):=⟨hd0.ok,hd0.len,by rw [h3];exact ht,rfl⟩
    refine sNew H ?_;clear H;intro bk w _ H
    refine inv_ptr (f:=161) (e:=252) (by kernel_rfl) (by rfl) (by kernel_rfl) (call_j (c161 H ms hby (hE2.imp (fun h=>(go_gd hd (by unfold kindOf;simp)).trans h)) hd hn2) ?_)
    clear H
    rintro _ w ⟨e,cells,ro',rfl,he1,hr',hcl,H,hg⟩
    refine ⟨_,rfl,?_⟩
    exact uFin H (sc1) hok hS he1 (fun r h=>hr' r (mt h)) hg (go_gd hd (by unfold kindOf;simp)) (fun p hp=>by rw [gd_kind hd (by unfold kindOf;simp) hp];rfl)
   ·have n202:¬hT xs=202:=by simpa using hc
    refine ⟨fun hc=>?_,fun hc=>?_⟩
    ·have ht:hT xs=203:=by simpa using hc
     have hd:Hd (xs.take (4*(hL xs+1)).toNat) 203 (hC (xs.take (4*(hL xs+1)).toNat)):=⟨hd0.ok,hd0.len,by rw [h3];exact ht,rfl⟩
     refine sNew H ?_;clear H;intro bk w _ H
     refine inv_ptr (f:=172) (e:=203) (by kernel_rfl) (by rfl) (by kernel_rfl) (call_j (c172 H ms hby (hE2.imp (fun h=>(go_gd hd (by unfold kindOf;simp)).trans h)) hd hn2) ?_)
     clear H
     rintro _ w ⟨e,cells,ro',rfl,he1,hr',hcl,H,hg⟩
     refine ⟨_,rfl,?_⟩
     exact uFin H (sc1) hok hS he1 (fun r h=>hr' r (mt h)) hg (go_gd hd (by unfold kindOf;simp)) (fun p hp=>by rw [gd_kind hd (by unfold kindOf;simp) hp];rfl)
    ·have n203:¬hT xs=203:=by simpa using hc
     refine ⟨fun hc=>?_,fun hc=>?_⟩
     ·have ht:hT xs=205:=by simpa using hc
      refine ⟨_,(H.b0.at0 rfl),?_⟩
      refine ⟨fun hc=>?_,fun hc=>?_⟩
      ·have hct:hC xs=1:=by simpa using hc
       have hd:Hd (xs.take (4*(hL xs+1)).toNat) 205 1:=⟨hd0.ok,hd0.len,by rw [h3];exact ht,by rw [h4];exact hct⟩
       refine sNew H ?_;clear H;intro bk w _ H
       refine inv_ptr (f:=181) (e:=210) (by kernel_rfl) (by rfl) (by kernel_rfl) (call_j (c181 H ms hby (hE2.imp (fun h=>(go_gd hd (by decide)).trans h)) hd hn2) ?_)
       clear H
       rintro _ w ⟨e,cells,ro',rfl,he1,hr',hcl,H,hg⟩
       refine ⟨_,rfl,?_⟩
       exact uFin H (sc1) hok hS he1 (fun r h=>hr' r (mt h)) hg (go_gd hd (by decide)) (fun p hp=>by rw [gd_kind hd (by decide) hp];rfl)
      ·have m1:¬hC xs=1:=by simpa using hc
       refine ⟨fun hc=>?_,fun hc=>?_⟩
       ·have hct:hC xs=5:=by simpa using hc
        have hd:Hd (xs.take (4*(hL xs+1)).toNat) 205 5:=⟨hd0.ok,hd0.len,by rw [h3];exact ht,by rw [h4];exact hct⟩
        refine sNew H ?_;clear H;intro bk w _ H
        refine inv_ptr (f:=186) (e:=216) (by kernel_rfl) (by rfl) (by kernel_rfl) (call_j (c186 H ms hby (hE2.imp (fun h=>(go_gd hd (by decide)).trans h)) hd) ?_)
        clear H
        rintro _ w ⟨e,cells,ro',rfl,he1,hr',hcl,H,hg⟩
        refine ⟨_,rfl,?_⟩
        exact uFin H (sc1) hok hS he1 (fun r h=>hr' r (mt h)) hg (go_gd hd (by decide)) (fun p hp=>by rw [gd_kind hd (by decide) hp];rfl)
       ·have m5:¬hC xs=5:=by simpa using hc
        refine ⟨fun hc=>?_,fun hc=>?_⟩
        ·have hct:hC xs=15:=by simpa using hc
         exact absurd (by rw [ht,hct];rfl) h13
        ·have m15:¬hC xs=15:=by simpa using hc
         refine ⟨fun hc=>?_,fun hc=>?_⟩
         ·have hct:hC xs=11:=by simpa using hc
          have hd:Hd (xs.take (4*(hL xs+1)).toNat) 205 11:=⟨hd0.ok,hd0.len,by rw [h3];exact ht,by rw [h4];exact hct⟩
          refine sNew H ?_;clear H;intro bk w _ H
          refine inv_ptr (f:=192) (e:=221) (by kernel_rfl) (by rfl) (by kernel_rfl) (call_j (c192 H ms hby (hE2.imp (fun h=>(go_gd hd (by decide)).trans h)) hd hn2) ?_)
          clear H
          rintro _ w ⟨e,cells,ro',rfl,he1,hr',hcl,H,hg⟩
          refine ⟨_,rfl,?_⟩
          exact uFin H (sc1) hok hS he1 (fun r h=>hr' r (mt h)) hg (go_gd hd (by decide)) (fun p hp=>by rw [gd_kind hd (by decide) hp];rfl)
         ·have m11:¬hC xs=11:=by simpa using hc
          refine sNew H ?_;clear H;intro bk w _ H
          refine inv_ptr (f:=248) (e:=129) (by kernel_rfl) (by rfl) (by kernel_rfl) (call_j (c248 H ms hby hd0.ok) ?_)
          clear H
          rintro _ w ⟨rfl,H⟩
          refine ⟨_,rfl,?_⟩
          exact uRaw H (sc1) hok hS (fun r h=>mt h) ms hd0 (by rw [h3,h4,ht];unfold kindOf;simp [m1,m5,m15,m11])
     ·have n205:¬hT xs=205:=by simpa using hc
      refine ⟨fun hc=>?_,fun hc=>?_⟩
      ·have ht:hT xs=206:=by simpa using hc
       refine ⟨_,(H.b0.at0 rfl),?_⟩
       refine ⟨fun hc=>?_,fun hc=>?_⟩
       ·have hct:hC xs=1:=by simpa using hc
        have hd:Hd (xs.take (4*(hL xs+1)).toNat) 206 1:=⟨hd0.ok,hd0.len,by rw [h3];exact ht,by rw [h4];exact hct⟩
        refine sNew H ?_;clear H;intro bk w _ H
        refine inv_ptr (f:=203) (e:=223) (by kernel_rfl) (by rfl) (by kernel_rfl) (call_j (c203 H ms hby (hE2.imp (fun h=>(go_gd hd (by decide)).trans h)) hd) ?_)
        clear H
        rintro _ w ⟨e,cells,ro',rfl,he1,hr',hcl,H,hg⟩
        refine ⟨_,rfl,?_⟩
        exact uFin H (sc1) hok hS he1 (fun r h=>hr' r (mt h)) hg (go_gd hd (by decide)) (fun p hp=>by rw [gd_kind hd (by decide) hp];rfl)
       ·have m1:¬hC xs=1:=by simpa using hc
        refine ⟨fun hc=>?_,fun hc=>?_⟩
        ·have hct:hC xs=2:=by simpa using hc
         have hd:Hd (xs.take (4*(hL xs+1)).toNat) 206 2:=⟨hd0.ok,hd0.len,by rw [h3];exact ht,by rw [h4];exact hct⟩
         refine sNew H ?_;clear H;intro bk w _ H
         refine inv_ptr (f:=207) (e:=227) (by kernel_rfl) (by rfl) (by kernel_rfl) (call_j (c207 H ms hby (hE2.imp (fun h=>(go_gd hd (by decide)).trans h)) hd hn2) ?_)
         clear H
         rintro _ w ⟨e,cells,ro',rfl,he1,hr',hcl,H,hg⟩
         refine ⟨_,rfl,?_⟩
         exact uFin H (sc1) hok hS he1 (fun r h=>hr' r (mt h)) hg (go_gd hd (by decide)) (fun p hp=>by rw [gd_kind hd (by decide) hp];rfl)
        ·have m2:¬hC xs=2:=by simpa using hc
         refine ⟨fun hc=>?_,fun hc=>?_⟩
         ·have hct:hC xs=15:=by simpa using hc
          have hd:Hd (xs.take (4*(hL xs+1)).toNat) 206 15:=⟨hd0.ok,hd0.len,by rw [h3];exact ht,by rw [h4];exact hct⟩
          refine sNew H ?_;clear H;intro bk w _ H
          refine inv_ptr (f:=217) (e:=239) (by kernel_rfl) (by rfl) (by kernel_rfl) (call_j (c217 H ms hby (hE2.imp (fun h=>(go_gd hd (by decide)).trans h)) hd hn2) ?_)
          clear H
          rintro _ w ⟨e,cells,ro',rfl,he1,hr',hcl,H,hg⟩
          refine ⟨_,rfl,?_⟩
          exact uFin H (sc1) hok hS he1 (fun r h=>hr' r (mt h)) hg (go_gd hd (by decide)) (fun p hp=>by rw [gd_kind hd (by decide) hp];rfl)
         ·have m15:¬hC xs=15:=by simpa using hc
          refine ⟨fun hc=>?_,fun hc=>?_⟩
          ·have hct:hC xs=4:=by simpa using hc
           have hd:Hd (xs.take (4*(hL xs+1)).toNat) 206 4:=⟨hd0.ok,hd0.len,by rw [h3];exact ht,by rw [h4];exact hct⟩
           refine sNew H ?_;clear H;intro bk w _ H
           refine inv_ptr (f:=212) (e:=232) (by kernel_rfl) (by rfl) (by kernel_rfl) (call_j (c212 H ms hby (hE2.imp (fun h=>(go_gd hd (by decide)).trans h)) hd hn2) ?_)
           clear H
           rintro _ w ⟨e,cells,ro',rfl,he1,hr',hcl,H,hg⟩
           refine ⟨_,rfl,?_⟩
           exact uFin H (sc1) hok hS he1 (fun r h=>hr' r (mt h)) hg (go_gd hd (by decide)) (fun p hp=>by rw [gd_kind hd (by decide) hp];rfl)
          ·have m4:¬hC xs=4:=by simpa using hc
           refine sNew H ?_;clear H;intro bk w _ H
           refine inv_ptr (f:=248) (e:=129) (by kernel_rfl) (by rfl) (by kernel_rfl) (call_j (c248 H ms hby hd0.ok) ?_)
           clear H
           rintro _ w ⟨rfl,H⟩
           refine ⟨_,rfl,?_⟩
           exact uRaw H (sc1) hok hS (fun r h=>mt h) ms hd0 (by rw [h3,h4,ht];unfold kindOf;simp [m1,m2,m15,m4])
      ·have n206:¬hT xs=206:=by simpa using hc
       refine ⟨fun hc=>?_,fun hc=>?_⟩
       ·have ht:hT xs=204:=by simpa using hc
        have hd:Hd (xs.take (4*(hL xs+1)).toNat) 204 (hC (xs.take (4*(hL xs+1)).toNat)):=⟨hd0.ok,hd0.len,by rw [h3];exact ht,rfl⟩
        refine sNew H ?_;clear H;intro bk w _ H
        refine inv_ptr (f:=177) (e:=206) (by kernel_rfl) (by rfl) (by kernel_rfl) (call_j (c177 H ms hby (hE2.imp (fun h=>(go_gd hd (by unfold kindOf;simp)).trans h)) hd hn2) ?_)
        clear H
        rintro _ w ⟨e,cells,ro',rfl,he1,hr',hcl,H,hg⟩
        refine ⟨_,rfl,?_⟩
        exact uFin H (sc1) hok hS he1 (fun r h=>hr' r (mt h)) hg (go_gd hd (by unfold kindOf;simp)) (fun p hp=>by rw [gd_kind hd (by unfold kindOf;simp) hp];rfl)
       ·have n204:¬hT xs=204:=by simpa using hc
        refine sNew H ?_;clear H;intro bk w _ H
        refine inv_ptr (f:=248) (e:=129) (by kernel_rfl) (by rfl) (by kernel_rfl) (call_j (c248 H ms hby hd0.ok) ?_)
        clear H
        rintro _ w ⟨rfl,H⟩
        refine ⟨_,rfl,?_⟩
        exact uRaw H (sc1) hok hS (fun r h=>mt h) ms hd0 (by rw [h3];unfold kindOf;simp [n200,n201,n202,n203,n204,n205,n206])
def hN (xs:List Int):Nat:=(4*(hL xs+1)).toNat
def hFit (xs:List Int):Prop:=hdrOk xs=true/\4*(hL xs+1)<=(xs.length:Int)
instance (xs:List Int):Decidable (hFit xs):=by unfold hFit;infer_instance
def okSplit:Nat->List Int->Bool
 | 0,xs=>xs.isEmpty
 | f+1,xs=>if xs=[] then true else if hFit xs then okSplit f (xs.drop (hN xs)) else false
def gl:Nat->List Int->Option (List Pk)
 | 0,xs=>if xs=[] then some [] else none
 | f+1,xs=>if xs=[] then some [] else if hFit xs then
   match go (xs.take (hN xs)) with
   | some p=>(gl f (xs.drop (hN xs))).map (p::·)
   | none=>none
  else none
def UmsPost (F:Fr) (ex:List Ex) (ro:List Ro) (L:List Pk) (en:Ending) (w':World):Prop:=
 ∃o oc ro',en=.returned (.tuple #[.slice o L.length oc,.nilIface])/\(∀r∈ro,r∈ro')/\Sat F w' ex ro'/\Ro.deep [.row 1 (L.map pkI)] [.slice o L.length oc]∈ro'
theorem gl_cons {f:Nat} {ys:List Int} {L:List Pk} (h:gl (f+1) ys=some L) (hne:ys≠[]):hFit ys/\∃p L2,go (ys.take (hN ys))=some p/\gl f (ys.drop (hN ys))=some L2/\L=p::L2:=by
 unfold gl at h
 rw [if_neg hne] at h
 by_cases hf:hFit ys
 ·rw [if_pos hf] at h
  cases hq:go (ys.take (hN ys)) with
  | none=>rw [hq] at h;cases h
  | some p=>
   rw [hq] at h
   simp only at h
   cases hq2:gl f (ys.drop (hN ys)) with
   | none=>rw [hq2] at h;cases h
   | some L3=>
    rw [hq2] at h
    cases h
    exact ⟨hf,p,L3,rfl,rfl,rfl⟩
 ·rw [if_neg hf] at h;cases h
theorem gl_nil {f:Nat} {L:List Pk} (h:gl f []=some L):L=[]:=by cases f<;>simp [gl] at h<;>exact h.symm▸rfl
theorem go_kind {xs:List Int} {p:Pk} (hb:By xs) (hf:hFit xs) (h:go (xs.take (hN xs))=some p) (hk:p.kind≠13):kindOf (hT xs) (hC xs)≠13:=by
 intro h13
 obtain ⟨hok,hS⟩:=hf
 have hl0:0<=hL xs:=by unfold hL;exact (n16_lt (hb.drop 2)).1
 obtain ⟨h1,h2,h3,h4⟩:=head_take (xs:=xs) (S:=hN xs) (by unfold hN;omega)
 have hyl:(xs.take (hN xs)).length=hN xs:=by rw [List.length_take];unfold hN;omega
 have hd:Hd (xs.take (hN xs)) (hT xs) (hC xs):=⟨by rw [h1];exact hok,by rw [h2,hyl];unfold hN;omega,h3,h4⟩
 rw [go_gd hd (by rw [h13];decide)] at h
 have:=gd_kind hd (by rw [h13];decide) h
 omega
theorem c36 {F:Fr} {w:World} {ex:List Ex} {ro:List Ro} {xs:List Int} {a:Option Addr} {n c:Nat} {L:List Pk} (H:Sat F w ex ro)
  (hx:Ro.B xs a n c∈ro) (hb:By xs) (hE:ErrC False ro) (hn:n<=1000000) (hgl:gl xs.length xs=some L) (hL0:L≠[]) (h13:∀p∈L,p.kind≠13):Calls pg 36 #[.slice a n c] w (UmsPost F ex ro L):=by
 apply of36
 have hlen:=H.lenB hx
 refine ⟨fun a' l' c' oa ol oc m w=>∃(ys:List Int) (f:Nat) (A L2:List Pk) (r:Option Nat),l'=m/\ys.length=l'/\l'<=f/\l'+ol<=n/\By ys/\gl f ys=some L2/\L=A++L2/\ol=A.length/\Sat F w (.own 123 1 oa ol oc r (A.map pkI)::ex) (Ro.B ys a' l' c'::ro),
  ⟨n,xs,n,[],L,none,rfl,hlen,Nat.le_refl _,by omega,hb,by rw [<-hlen];exact hgl,rfl,rfl,(H.nilOwn 123 1).sub (List.Sublist.refl _) (fun r hr=>by rcases List.mem_cons.1 hr with rfl | h;exact hx;exact h)⟩,?_⟩
 clear H;rintro dd2 a' l' c' oa ol oc m w ⟨ys,f,A,L2,r,rfl,hyl,hlf,hol,hby,hg,hLA,rfl,H⟩
 refine ⟨fun hc=>?_,fun hc=>?_⟩
 ·have hl0:l'≠0:=by simpa using hc
  have hne:ys≠[]:=by rintro rfl;exact hl0 hyl.symm
  cases f with
  | zero=>omega
  | succ f=>
  obtain ⟨hfit,p,L3,h1,h2,rfl⟩:=gl_cons hg hne
  have hk:=go_kind hby hfit h1 (h13 p (by rw [hLA];simp))
  have hNe:(4*(hL ys+1)).toNat=hN ys:=rfl
  refine call_j (c79 H ms hby ((hE.mono (fun r h=>mt h)).imp (fun h=>by rw [hNe,h1] at h;cases h)) (by omega) hk) ?_
  rintro en w2 (⟨hbad,_⟩ | ⟨ho,hS,T,v,e,ro',rfl,he1,hr',H2,hp⟩)
  ·exfalso
   rcases hbad with h | h
   ·rw [hfit.1] at h;cases h
   ·have:=hfit.2;omega
  clear H
  have hLr:0<=hL ys/\hL ys < 65536:=by unfold hL;exact n16_lt (hby.drop 2)
  obtain ⟨rfl,hm⟩:=hp p h1
  refine ⟨_,_,_,rfl,he1,fun he=>absurd he (by decide),fun _=>?_⟩
  refine ⟨rfl,?_⟩
  refine sPush0 H2 (bytes:=16) (by kernel_rfl) [pkI p] (by rfl) (fun G h=>dc (h (.deep [_] [_]) hm).head dn) (by rfl) (by unfold maxLen;omega) (by omega) ?_
  clear H2;intro o2 ol2 oc2 r2 w ex2 _ H
  subst ex2
  have hN4:4<=hN ys/\hN ys<=l':=by unfold hN;omega
  refine ⟨by omega,by omega,?_⟩
  rw [hNe]
  have H3:=H.skipB (hr' _ ms) (hN ys) (by omega)
  refine ⟨l' - hN ys,by omega,ys.drop (hN ys),f,A++[p],L3,r2,rfl,by rw [List.length_drop,hyl],by omega,by omega,hby.drop _,h2,by rw [hLA,List.append_assoc];rfl,by simp,?_⟩
  rw [List.map_append]
  exact H3.sub (List.Sublist.refl _) (fun r h=>by rcases List.mem_cons.1 h with rfl | h;exact ms;exact mt (hr' _ (mt h)))
 ·have hl0:l'=0:=by simpa using hc
  subst hl0
  obtain rfl:ys=[]:=List.eq_nil_of_length_eq_zero hyl
  obtain rfl:=gl_nil hg
  rw [List.append_nil] at hLA
  subst hLA
  refine ⟨fun h0=>?_,fun h0=>?_⟩
  ·have ho0:L.length=0:=by simpa using h0
   exact absurd (List.eq_nil_of_length_eq_zero ho0) hL0
  ·replace H:=H.freeze
   exact ⟨oa,oc,_,rfl,fun r h=>mt (mt h),H,ms⟩
theorem own_block {w:World} {base:Nat} {e:TypeId} {size:Nat} {a:Option Addr} {l c:Nat} {r:Option Nat} {xs:List Value} (h:OS w base e size a l c r xs) {k:Nat} (hk:r=some k):∃t us,Blk w k t us:=by
 have h2:=h.blk
 rw [hk] at h2
 rcases h.own.2 with ⟨hv,_⟩ | ⟨g,cap,cur,hv,_,hg,_⟩
 ·rw [hv] at h2;cases h2
 ·rw [hv] at h2
  cases h2
  exact ⟨e,cur.toList,⟨by simpa using hg⟩⟩
theorem Ex.cellsOf {w:World} {G:Nat->Prop} {e:Ex} (h:e.holds w G) {b:Nat} (hb:b∈e.foot):∃t us,Blk w b t us:=by
 cases e with
 | blk b' t l=>
  obtain rfl:b=b':=by simpa [Ex.foot] using hb
  exact ⟨t,l,h⟩
 | own e sz a n c r ds=>
  obtain ⟨xs,h1,_⟩:=h
  have hr:r=some b:=by simpa [Ex.foot] using hb
  exact own_block h1 hr
 | many t bs=>
  obtain ⟨p,hp,rfl⟩:=List.mem_map.1 (show b∈bs.map (·.1) from hb)
  exact ⟨t,p.2,h p hp⟩
def cellsAt (w:World) (b:Nat):TypeId×List Value:=match w.heap[b]? with
 | some (.cells c t _)=>(t,c.toList)
 | _=>(0,[])
theorem cellsAt_of {w:World} {b:Nat} {t:TypeId} {us:List Value} (h:Blk w b t us):cellsAt w b=(t,us):=by
 unfold cellsAt
 rw [h.eq]
def stillEx (w:World) (bs:List Nat):List Ex:=bs.map fun b=>.blk b (cellsAt w b).1 (cellsAt w b).2
theorem foots_still (w:World) (bs:List Nat):foots (stillEx w bs)=bs:=by
 induction bs with
 | nil=>rfl
 | cons b bs ih=>unfold stillEx at ih ⊢;rw [List.map_cons,foots_cons,ih];rfl
theorem Sat.still {F:Fr} {w:World} {ex:List Ex} {ro:List Ro} (H:Sat F w ex ro):∃ex2,Sat ⟨w,fun b=>b∈foots ex⟩ w ex2 ro /\
  ∀w' ro',Sat ⟨w,fun b=>b∈foots ex⟩ w' ex2 ro'->w.grownBy w' none/\Sat F w' ex ro':=by
 have hf:=foots_still w (foots ex)
 have hB:∀b∈foots ex,Blk w b (cellsAt w b).1 (cellsAt w b).2:=by
  intro b hb
  obtain ⟨e,he,hbe⟩:=List.mem_flatMap.1 (show b∈ex.flatMap Ex.foot from hb)
  obtain ⟨t,us,h⟩:=Ex.cellsOf (H.he e he) hbe
  rw [cellsAt_of h]
  exact h
 refine ⟨stillEx w (foots ex),Sat.start (by rw [hf];exact H.nd) (by rw [hf];exact fun b hb=>⟨(H.lt b hb).1,hb⟩) ?_ (by rw [hf];exact H.hr),fun w' ro' H'=>?_⟩
 ·intro e he
  obtain ⟨b,hb,rfl⟩:=List.mem_map.1 he
  exact hB b hb
 ·have hg:w.grownBy w' none:=by
   refine ⟨H'.gr.os,H'.gr.tape,H'.gr.output,H'.gr.size,fun k hk _=>?_⟩
   by_cases hm:k∈foots ex
   ·have h1:Blk w' k (cellsAt w k).1 (cellsAt w k).2:=H'.he _ (List.mem_map.2 ⟨k,hm,rfl⟩)
    exact h1.eq.trans (hB k hm).eq.symm
   ·exact H'.gr.block k hk hm
  have H1:=H.grow hg
  refine ⟨hg,⟨H1.gr,H1.nd,H1.lt,H1.he,fun r hr=>?_⟩⟩
  have:=H'.hr r hr
  rw [hf] at this
  exact this
theorem all_u32 (xs:List Int):(xs.map (Value.int .u32)).all Value.oneCell'=true:=by rw [List.all_eq_true];intro u hu;obtain ⟨x,_,rfl⟩:=List.mem_map.1 hu;rfl
theorem c98 {F:Fr} {w:World} {ex:List Ex} {ro:List Ro} {l:List Int} {a:Option Addr} {n c:Nat} (H:Sat F w ex ro) (hx:Ro.deep [.row 1 (oi .u32 l)] [.slice a n c]∈ro) (hn:n<=10000000):Calls pg 98 #[.slice a n c] w fun en w'=>
  ∃a' c',en=.returned (.slice a' n c')/\w.grownBy w' none/\Sat F w' ex (.deep [.row 1 (oi .u32 l)] [.slice a' n c']::ro):=by
 apply of98
 rw [oi_ones] at hx ⊢
 exact clone_j (t:=55) (e:=51) (bytes:=4) (R:=fun en w'=>∃a' c',en=.returned (.slice a' n c')/\w.grownBy w' none/\Sat F w' ex (.deep [.row 1 ((l.map (Value.int .u32)).map .one)] [.slice a' n c']::ro)) H hx hn (all_u32 l) (by kernel_rfl) (by decide) (fun a' c' w' g H=>⟨a',c',rfl,g,H⟩)
theorem c117 {F:Fr} {w:World} {ex:List Ex} {ro:List Ro} {r0 r1 r2 r3 r4 r5 r6:Int} (H:Sat F w ex ro) :
  Calls pg 117 #[.agg #[.int .u32 r0,.int .u8 r1,.int .u32 r2,.int .u32 r3,.int .u32 r4,.int .u32 r5,.int .u32 r6]] w fun en w'=>
   en=.returned (.agg #[.int .u32 r0,.int .u8 r1,.int .u32 r2,.int .u32 r3,.int .u32 r4,.int .u32 r5,.int .u32 r6])/\Sat F w' ex ro:=by
 apply of117
 refine sNew H ?_;clear H;intro b1 w _ H
 refine sNew H ?_;clear H;intro b3 w _ H
 refine ⟨_,(H.b1.at0 rfl),?_⟩
 refine ⟨_,(H.b1.at0 rfl),?_⟩
 refine ⟨_,(H.b1.at0 rfl),?_⟩
 refine ⟨_,(H.b1.at0 rfl),?_⟩
 refine ⟨_,(H.b1.at0 rfl),?_⟩
 refine ⟨_,(H.b1.at0 rfl),?_⟩
 refine ⟨_,(H.b1.at0 rfl),?_⟩
 refine sSw0 H rfl (by kernel_rfl) (by rfl) (by rfl) ?_;clear H;intro w _ H
 refine ⟨_,_,_,_,_,_,_,H.b0.ld,?_⟩
 exact ⟨rfl,H.sub ((sc1).trans (sc1)) (fun _ h=>h)⟩
theorem Rep.dat_len' (x:Rep):(Rep.dat x).length=7:=rfl
theorem c102 {F:Fr} {w:World} {ex:List Ex} {ro:List Ro} {L:List Rep} {l:Option Addr} {c:Nat} (H:Sat F w ex ro) (hl:Ro.deep [.row 7 (L.flatMap Rep.dat)] [.slice l L.length c]∈ro) (hn:L.length<=1000000) :
  Calls pg 102 #[.slice l L.length c] w fun en w'=>∃o oc,en=.returned (.slice o L.length oc)/\Sat F w' ex (.deep [.row 7 (L.flatMap Rep.dat)] [.slice o L.length oc]::ro):=by
 apply of102
 refine ⟨fun o ol oc x m w=>∃(j:Nat) (r:Option Nat),x=(j:Int)/\j+m=L.length/\ol=j/\Sat F w (.own 166 7 o ol oc r ((L.take j).flatMap Rep.dat)::ex) ro,⟨L.length,0,none,rfl,by omega,rfl,H.nilOwn 166 7⟩,?_⟩
 clear H;rintro dd2 o ol oc x m w ⟨j,r,rfl,hjm,rfl,H⟩
 refine ⟨fun hc=>?_,fun hc=>?_⟩
 ·rw [decide_eq_true_eq] at hc
  have hjl:ol < L.length:=by omega
  obtain ⟨p,us,e,hus,hcell,H1⟩:=H.eltF Rep.dat_len' (by decide) hl (j:=ol) hjl
  have htk:L.take (ol+1)=L.take ol++[L[ol]]:=by rw [List.take_add_one,List.getElem?_eq_getElem hjl];rfl
  clear H
  generalize L[ol]=D at H1 htk
  obtain ⟨d0,d1,d2,d3,d4,d5,d6⟩:=D
  refine ⟨p,e,by omega,by omega,?_⟩
  obtain rfl:=H1.ones (us:=[.int .u32 d0,.int .u8 d1,.int .u32 d2,.int .u32 d3,.int .u32 d4,.int .u32 d5,.int .u32 d6]) ms
  refine ⟨_,_,_,_,_,_,_,LdC [.int .u32 d0,.int .u8 d1,.int .u32 d2,.int .u32 d3,.int .u32 d4,.int .u32 d5,.int .u32 d6] (by kernel_rfl) (by rw [show (ol:Int).toNat*7=ol*7 by omega];exact hcell),?_⟩
  have H:=H1
  clear H1 hcell
  refine sNew H ?_;clear H;intro b15 w _ H
  refine sSw0 H rfl (by kernel_rfl) (by rfl) (by rfl) ?_;clear H;intro w _ H
  refine ⟨_,_,_,_,_,_,_,H.b0.ld,?_⟩
  refine call_j (c117 H) ?_
  clear H
  rintro _ w ⟨rfl,H⟩
  refine ⟨_,_,_,_,_,_,_,rfl,?_⟩
  refine ⟨rfl,?_⟩
  refine sPush1 H (bytes:=28) (by kernel_rfl) (Rep.dat (d0,d1,d2,d3,d4,d5,d6)) (by rfl) (fun G h=>DeepL.ones [_,_,_,_,_,_,_]) (by rfl) (by unfold maxLen;omega) (by omega) ?_
  clear H;intro o2 ol2 oc2 r2 w ex2 _ H
  subst ex2
  refine ⟨m - 1,by omega,ol+1,r2,?_,by omega,rfl,?_⟩
  ·rw [wi64_of (by omega) (by omega)];simp
  ·rw [htk,List.flatMap_append]
   simp only [fm1,fm2,fm3]
   exact H.sub (sc1) (fun r h=>mt h)
 ·rw [decide_eq_false_iff_not] at hc
  obtain rfl:ol=L.length:=by omega
  rw [List.take_length] at H
  exact ⟨o,oc,rfl,H.freeze⟩
theorem Met.dat_len' (x:Met):(Met.dat x).length=3:=rfl
theorem Blo.dat_len' (x:Blo):(Blo.dat x).length=3:=rfl
theorem c104 {F:Fr} {w:World} {ex:List Ex} {ro:List Ro} {L:List Blo} {l:Option Addr} {c:Nat} (H:Sat F w ex ro) (hl:Ro.deep [.row 3 (L.flatMap Blo.dat)] [.slice l L.length c]∈ro) (hn:L.length<=1000000) (hn2:∀B∈L,B.2.2.length<=1000000) :
  Calls pg 104 #[.slice l L.length c] w fun en w'=>∃o oc,en=.returned (.slice o L.length oc)/\Sat F w' ex (.deep [.row 3 (L.flatMap Blo.dat)] [.slice o L.length oc]::ro):=by
 apply of104
 refine ⟨fun o ol oc x m w=>∃(j:Nat) (r:Option Nat),x=(j:Int)/\j+m=L.length/\ol=j/\Sat F w (.own 176 3 o ol oc r ((L.take j).flatMap Blo.dat)::ex) ro,⟨L.length,0,none,rfl,by omega,rfl,H.nilOwn 176 3⟩,?_⟩
 clear H;rintro dd2 o ol oc x m w ⟨j,r,rfl,hjm,rfl,H⟩
 refine ⟨fun hc=>?_,fun hc=>?_⟩
 ·rw [decide_eq_true_eq] at hc
  have hjl:ol < L.length:=by omega
  obtain ⟨p,us,e,hus,hcell,H1⟩:=H.eltF Blo.dat_len' (by decide) hl (j:=ol) hjl
  have htk:L.take (ol+1)=L.take ol++[L[ol]]:=by rw [List.take_add_one,List.getElem?_eq_getElem hjl];rfl
  have hDm:=hn2 L[ol] (List.getElem_mem hjl)
  clear H
  generalize L[ol]=D at H1 htk hDm
  obtain ⟨d0,d1,ms⟩:=D
  replace hDm:ms.length<=1000000:=hDm
  refine ⟨p,e,by omega,by omega,?_⟩
  obtain ⟨x0,us0,rfl,H2⟩:=H1.uncons List.mem_cons_self
  obtain ⟨x1,us1,rfl,H3⟩:=H2.uncons (List.mem_cons_of_mem _ List.mem_cons_self)
  obtain ⟨x2,us2,rfl,H4⟩:=H3.uncons (List.mem_cons_of_mem _ List.mem_cons_self)
  obtain rfl:us2=[]:=by simpa using hus
  obtain rfl:=H2.one1 List.mem_cons_self
  obtain rfl:=H3.one1 List.mem_cons_self
  obtain ⟨sa,sn,sc,rfl,hsl⟩:=H4.rowS List.mem_cons_self
  rw [flat_len Met.dat_len'] at hsl
  obtain rfl:sn=ms.length:=by omega
  refine ⟨_,_,_,_,_,LdC [.int .u32 d0,.int .u16 d1,.slice sa ms.length sc] (by kernel_rfl) (by rw [show (ol:Int).toNat*3=ol*3 by omega];exact hcell),?_⟩
  have H:Sat F w _ (.deep [.row 3 (ms.flatMap Met.dat)] [.slice sa ms.length sc]::ro):=H4.sub (List.Sublist.refl _) (fun r h=>by rcases List.mem_cons.1 h with rfl | h;exact List.mem_cons_self;simp [h])
  clear H1 H2 H3 H4 hcell
  refine sNew H ?_;clear H;intro b13 w _ H
  refine sSw0 H rfl (by kernel_rfl) (by rfl) (by rfl) ?_;clear H;intro w _ H
  refine ⟨_,(by exact Ce (by exact add_flat _ _ _) H.b0 rfl),?_⟩
  refine ⟨_,(by exact Ce (by exact add_flat _ _ _) H.b0 rfl),?_⟩
  refine sNew H ?_;clear H;intro b18 w _ H
  refine sSw0 H rfl (by kernel_rfl) (by rfl) (by rfl) ?_;clear H;intro w _ H
  refine ⟨_,_,_,(by exact Ce (by exact add_flat _ _ _) H.b1 rfl),?_⟩
  refine ⟨fun x m2 w=>∃(i:Nat) (o2:Option Addr) (oc2:Nat) (r2:Option Nat),x=(i:Int)/\i+m2=ms.length /\
    Sat F w (.blk b18 176 [.int .u32 d0,.int .u16 d1,.slice o2 i oc2]::.blk b13 278 [.int .u32 d0,.int .u16 d1,.slice sa ms.length sc]::.own 177 3 o2 i oc2 r2 ((ms.take i).flatMap Met.dat)::.own 176 3 o ol oc r ((L.take ol).flatMap Blo.dat)::ex)
     (.deep [.row 3 (ms.flatMap Met.dat)] [.slice sa ms.length sc]::ro),
   ⟨ms.length,0,none,0,none,rfl,by omega,(H.nilOwn 177 3).u2⟩,?_⟩
  clear H;rintro dd23 x m2 w ⟨i,o2,oc2,r2,rfl,him,H⟩
  refine ⟨fun hc=>?_,fun hc=>?_⟩
  ·rw [decide_eq_true_eq] at hc
   have hil:i < ms.length:=by omega
   obtain ⟨p2,us,e2,hus2,hcell,H1⟩:=H.eltF Met.dat_len' (by decide) List.mem_cons_self (j:=i) hil
   have htk2:ms.take (i+1)=ms.take i++[ms[i]]:=by rw [List.take_add_one,List.getElem?_eq_getElem hil];rfl
   clear H
   generalize ms[i]=E at H1 htk2
   obtain ⟨e0,e1,e3⟩:=E
   refine ⟨p2,e2,by omega,by omega,?_⟩
   obtain rfl:=H1.ones (us:=[.bool e0,.int .u8 e1,.int .u16 e3]) List.mem_cons_self
   refine ⟨_,_,_,LdC [.bool e0,.int .u8 e1,.int .u16 e3] (by kernel_rfl) (by rw [show (i:Int).toNat*3=i*3 by omega];exact hcell),?_⟩
   have H:=H1
   clear H1 hcell
   refine sNew H ?_;clear H;intro b33 w _ H
   refine sSw0 H rfl (by kernel_rfl) (by rfl) (by rfl) ?_;clear H;intro w _ H
   refine ⟨_,_,_,(by exact Ce (by exact add_flat _ _ _) H.b1 rfl),?_⟩
   refine ⟨_,(by exact Ce (by exact add_flat _ _ _) H.b0 rfl),?_⟩
   refine ⟨_,(by exact Ce (by exact add_flat _ _ _) H.b0 rfl),?_⟩
   refine ⟨_,(by exact Ce (by exact add_flat _ _ _) H.b0 rfl),?_⟩
   refine ⟨rfl,?_⟩
   refine sPush3 H (bytes:=4) (by kernel_rfl) (Met.dat (e0,e1,e3)) (by rfl) (fun G h=>DeepL.ones [_,_,_]) (by rfl) (by unfold maxLen;omega) (by omega) ?_
   clear H;intro o3 ol3 oc3 r3 w ex3 _ H
   refine sSt1 H (by exact add_flat _ _ _) (by kernel_rfl) (by rfl) (by rfl) ?_;clear H;intro w _ H
   subst ex3
   refine ⟨m2 - 1,by omega,i+1,o3,oc3,r3,?_,by omega,?_⟩
   ·rw [wi64_of (by omega) (by omega)];simp
   ·rw [htk2,List.flatMap_append]
    simp only [List.flatMap_cons,List.flatMap_nil,List.append_nil]
    exact H.sub (List.sublist_cons_self _ _) (fun r h=>List.mem_cons_of_mem _ h)
  ·rw [decide_eq_false_iff_not] at hc
   obtain rfl:i=ms.length:=by omega
   rw [List.take_length] at H
   replace H:=H.r2.freeze
   refine ⟨_,_,_,_,_,(by exact Ld0 rfl H.b0 (by kernel_rfl)),?_⟩
   refine ⟨rfl,?_⟩
   refine sPush2 H (bytes:=32) (by kernel_rfl) (Blo.dat (d0,d1,ms)) (by rfl) (fun G h=>DeepL.cons (.one _) (DeepL.cons (.one _) (DeepL.cons (h (.deep [_] [_]) List.mem_cons_self).head (DeepL.nil _ _)))) (by rfl) (by unfold maxLen;omega) (by omega) ?_
   clear H;intro o3 ol3 oc3 r3 w ex3 _ H
   subst ex3
   refine ⟨m - 1,by omega,ol+1,r3,?_,by omega,rfl,?_⟩
   ·rw [wi64_of (by omega) (by omega)];simp
   ·rw [htk,List.flatMap_append]
    simp only [List.flatMap_cons,List.flatMap_nil,List.append_nil]
    exact H.sub (by exact (List.sublist_cons_self _ _).trans (List.sublist_cons_self _ _)) (fun r h=>by simp [h])
 ·rw [decide_eq_false_iff_not] at hc
  obtain rfl:ol=L.length:=by omega
  rw [List.take_length] at H
  exact ⟨o,oc,rfl,H.freeze⟩
theorem Chk.dat_len' (x:Chk):(Chk.dat x).length=2:=rfl
theorem c103 {F:Fr} {w:World} {ex:List Ex} {ro:List Ro} {L:List Chk} {v:Value} (H:Sat F w ex ro) (hp:Ro.deep [.ptr [.row 2 (L.flatMap Chk.dat)]] [v]∈ro) (hn:L.length<=1000000) (hn2:∀B∈L,B.2.length<=1000000) :
  Calls pg 103 #[v] w fun en w'=>∃o oc,en=.returned (.slice o L.length oc)/\Sat F w' ex (.deep [.row 2 (L.flatMap Chk.dat)] [.slice o L.length oc]::ro):=by
 obtain ⟨b,vs,rfl,hcell,_,_,H1⟩:=H.ptr hp
 obtain ⟨x0,us0,rfl,H2⟩:=H1.uncons List.mem_cons_self
 obtain ⟨l,n,c,rfl,hll⟩:=H2.rowS List.mem_cons_self
 rw [flat_len Chk.dat_len'] at hll
 obtain rfl:n=L.length:=by omega
 apply of103
 refine ⟨_,rfl,?_⟩
 refine ⟨_,_,_,hcell 0 _ rfl,?_⟩
 replace H:Sat F w ex (.deep [.row 2 (L.flatMap Chk.dat)] [.slice l L.length c]::ro):=H2.sub (List.Sublist.refl _) (fun r h=>by rcases List.mem_cons.1 h with rfl | h;exact List.mem_cons_self;simp [h])
 clear H1 H2 hcell
 refine ⟨fun o ol oc x m w=>∃(j:Nat) (r:Option Nat),x=(j:Int)/\j+m=L.length/\ol=j/\Sat F w (.own 169 2 o ol oc r ((L.take j).flatMap Chk.dat)::ex) (.deep [.row 2 (L.flatMap Chk.dat)] [.slice l L.length c]::ro),⟨L.length,0,none,rfl,by omega,rfl,H.nilOwn 169 2⟩,?_⟩
 clear H;rintro dd2 o ol oc x m w ⟨j,r,rfl,hjm,rfl,H⟩
 refine ⟨fun hc=>?_,fun hc=>?_⟩
 ·rw [decide_eq_true_eq] at hc
  have hjl:ol < L.length:=by omega
  obtain ⟨p,us,e,hus,hcell,H1⟩:=H.eltF Chk.dat_len' (by decide) List.mem_cons_self (j:=ol) hjl
  have htk:L.take (ol+1)=L.take ol++[L[ol]]:=by rw [List.take_add_one,List.getElem?_eq_getElem hjl];rfl
  have hDm:=hn2 L[ol] (List.getElem_mem hjl)
  clear H
  generalize L[ol]=D at H1 htk hDm
  obtain ⟨d0,ms⟩:=D
  replace hDm:ms.length<=1000000:=hDm
  refine ⟨p,e,by omega,by omega,?_⟩
  obtain ⟨x0,us0,rfl,H2⟩:=H1.uncons List.mem_cons_self
  obtain ⟨x1,us1,rfl,H3⟩:=H2.uncons (List.mem_cons_of_mem _ List.mem_cons_self)
  obtain rfl:us1=[]:=by simpa using hus
  obtain rfl:=H2.one1 List.mem_cons_self
  obtain ⟨sa,sn,sc,rfl,hsl⟩:=H3.rowS List.mem_cons_self
  rw [flat_len Itm.dat_len] at hsl
  obtain rfl:sn=ms.length:=by omega
  refine ⟨_,_,_,_,LdC [.int .u32 d0,.slice sa ms.length sc] (by kernel_rfl) (by rw [show (ol:Int).toNat*2=ol*2 by omega];exact hcell),?_⟩
  have H:Sat F w _ (.deep [.row 2 (ms.flatMap Itm.dat)] [.slice sa ms.length sc]::.deep [.row 2 (L.flatMap Chk.dat)] [.slice l L.length c]::ro):=H3.sub (List.Sublist.refl _) (fun r h=>by
   rcases List.mem_cons.1 h with rfl | h
   ·exact List.mem_cons_self
   ·exact List.mem_cons_of_mem _ (List.mem_cons_of_mem _ (List.mem_cons_of_mem _ (List.mem_cons_of_mem _ (List.mem_cons_of_mem _ h)))))
  clear H1 H2 H3 hcell
  refine sNew H ?_;clear H;intro b13 w _ H
  refine sSw0 H rfl (by kernel_rfl) (by rfl) (by rfl) ?_;clear H;intro w _ H
  refine ⟨_,(by exact Ce (by exact add_flat _ _ _) H.b0 rfl),?_⟩
  refine sNew H ?_;clear H;intro b18 w _ H
  refine sSw0 H rfl (by kernel_rfl) (by rfl) (by rfl) ?_;clear H;intro w _ H
  refine ⟨_,_,_,(by exact Ce (by exact add_flat _ _ _) H.b1 rfl),?_⟩
  refine ⟨fun x m2 w=>∃(i:Nat) (o2:Option Addr) (oc2:Nat) (r2:Option Nat),x=(i:Int)/\i+m2=ms.length /\
    Sat F w (.blk b18 169 [.int .u32 d0,.slice o2 i oc2]::.blk b13 255 [.int .u32 d0,.slice sa ms.length sc]::.own 170 2 o2 i oc2 r2 ((ms.take i).flatMap Itm.dat)::.own 169 2 o ol oc r ((L.take ol).flatMap Chk.dat)::ex)
     (.deep [.row 2 (ms.flatMap Itm.dat)] [.slice sa ms.length sc]::.deep [.row 2 (L.flatMap Chk.dat)] [.slice l L.length c]::ro),
   ⟨ms.length,0,none,0,none,rfl,by omega,(H.nilOwn 170 2).u2⟩,?_⟩
  clear H;rintro dd23 x m2 w ⟨i,o2,oc2,r2,rfl,him,H⟩
  refine ⟨fun hc=>?_,fun hc=>?_⟩
  ·rw [decide_eq_true_eq] at hc
   have hil:i < ms.length:=by omega
   obtain ⟨p2,us,e2,hus2,hcell,H1⟩:=H.eltF Itm.dat_len (by decide) List.mem_cons_self (j:=i) hil
   have htk2:ms.take (i+1)=ms.take i++[ms[i]]:=by rw [List.take_add_one,List.getElem?_eq_getElem hil];rfl
   clear H
   generalize ms[i]=E at H1 htk2
   obtain ⟨e0,e1⟩:=E
   refine ⟨p2,e2,by omega,by omega,?_⟩
   obtain rfl:=H1.ones (us:=[.int .u8 e0,.string e1]) List.mem_cons_self
   refine ⟨_,_,LdC [.int .u8 e0,.string e1] (by kernel_rfl) (by rw [show (i:Int).toNat*2=i*2 by omega];exact hcell),?_⟩
   have H:=H1
   clear H1 hcell
   refine sNew H ?_;clear H;intro b33 w _ H
   refine sSw0 H rfl (by kernel_rfl) (by rfl) (by rfl) ?_;clear H;intro w _ H
   refine ⟨_,_,_,(by exact Ce (by exact add_flat _ _ _) H.b1 rfl),?_⟩
   refine ⟨_,(by exact Ce (by exact add_flat _ _ _) H.b0 rfl),?_⟩
   refine ⟨_,(by exact Ce (by exact add_flat _ _ _) H.b0 rfl),?_⟩
   refine ⟨rfl,?_⟩
   refine sPush3 H (bytes:=24) (by kernel_rfl) (Itm.dat (e0,e1)) (by rfl) (fun G h=>DeepL.ones [_,_]) (by rfl) (by unfold maxLen;omega) (by omega) ?_
   clear H;intro o3 ol3 oc3 r3 w ex3 _ H
   refine sSt1 H (by exact add_flat _ _ _) (by kernel_rfl) (by rfl) (by rfl) ?_;clear H;intro w _ H
   subst ex3
   refine ⟨m2 - 1,by omega,i+1,o3,oc3,r3,?_,by omega,?_⟩
   ·rw [wi64_of (by omega) (by omega)];simp
   ·rw [htk2,List.flatMap_append]
    simp only [List.flatMap_cons,List.flatMap_nil,List.append_nil]
    exact H.sub (List.sublist_cons_self _ _) (fun r h=>List.mem_cons_of_mem _ h)
  ·rw [decide_eq_false_iff_not] at hc
   obtain rfl:i=ms.length:=by omega
   rw [List.take_length] at H
   replace H:=H.r2.freeze
   refine ⟨_,_,_,_,(by exact Ld0 rfl H.b0 (by kernel_rfl)),?_⟩
   refine ⟨rfl,?_⟩
   refine sPush2 H (bytes:=32) (by kernel_rfl) (Chk.dat (d0,ms)) (by rfl) (fun G h=>DeepL.cons (.one _) (DeepL.cons (h (.deep [_] [_]) List.mem_cons_self).head (DeepL.nil _ _))) (by rfl) (by unfold maxLen;omega) (by omega) ?_
   clear H;intro o3 ol3 oc3 r3 w ex3 _ H
   subst ex3
   refine ⟨m - 1,by omega,ol+1,r3,?_,by omega,rfl,?_⟩
   ·rw [wi64_of (by omega) (by omega)];simp
   ·rw [htk,List.flatMap_append]
    simp only [List.flatMap_cons,List.flatMap_nil,List.append_nil]
    exact H.sub (by exact (List.sublist_cons_self _ _).trans (List.sublist_cons_self _ _)) (fun r h=>List.mem_cons_of_mem _ (List.mem_cons_of_mem _ h))
 ·rw [decide_eq_false_iff_not] at hc
  obtain rfl:ol=L.length:=by omega
  rw [List.take_length] at H
  exact ⟨o,oc,rfl,H.freeze.sub (List.Sublist.refl _) (fun r h=>by rcases List.mem_cons.1 h with rfl | h;exact List.mem_cons_self;simp [h])⟩
theorem c96 {F:Fr} {w:World} {ex:List Ex} {ro:List Ro} {L:List Rep} {l:Option Addr} {c:Nat} (H:Sat F w ex ro) (hl:Ro.deep [.row 7 (L.flatMap Rep.dat)] [.slice l L.length c]∈ro) (hn:L.length<=1000000) :
  Calls pg 96 #[.slice l L.length c] w fun en w'=>∃o oc,en=.returned (.slice o L.length oc)/\Sat F w' ex (.deep [.row 7 (L.flatMap Rep.dat)] [.slice o L.length oc]::ro):=by
 apply of96
 refine ⟨fun o ol oc x m w=>∃(j:Nat) (r:Option Nat),x=(j:Int)/\j+m=L.length/\ol=j/\Sat F w (.own 275 7 o ol oc r ((L.take j).flatMap Rep.dat)::ex) ro,⟨L.length,0,none,rfl,by omega,rfl,H.nilOwn 275 7⟩,?_⟩
 clear H;rintro dd2 o ol oc x m w ⟨j,r,rfl,hjm,rfl,H⟩
 refine ⟨fun hc=>?_,fun hc=>?_⟩
 ·rw [decide_eq_true_eq] at hc
  have hjl:ol < L.length:=by omega
  obtain ⟨p,us,e,hus,hcell,H1⟩:=H.eltF Rep.dat_len' (by decide) hl (j:=ol) hjl
  have htk:L.take (ol+1)=L.take ol++[L[ol]]:=by rw [List.take_add_one,List.getElem?_eq_getElem hjl];rfl
  clear H
  generalize L[ol]=D at H1 htk
  obtain ⟨d0,d1,d2,d3,d4,d5,d6⟩:=D
  refine ⟨p,e,by omega,by omega,?_⟩
  obtain rfl:=H1.ones (us:=[.int .u32 d0,.int .u8 d1,.int .u32 d2,.int .u32 d3,.int .u32 d4,.int .u32 d5,.int .u32 d6]) ms
  refine ⟨_,_,_,_,_,_,_,LdC [.int .u32 d0,.int .u8 d1,.int .u32 d2,.int .u32 d3,.int .u32 d4,.int .u32 d5,.int .u32 d6] (by kernel_rfl) (by rw [show (ol:Int).toNat*7=ol*7 by omega];exact hcell),?_⟩
  have H:=H1
  clear H1 hcell
  refine sNew H ?_;clear H;intro b15 w _ H
  refine sSw0 H rfl (by kernel_rfl) (by rfl) (by rfl) ?_;clear H;intro w _ H
  refine ⟨_,(H.b0.at0 rfl),?_⟩
  refine ⟨_,(H.b0.at0 rfl),?_⟩
  refine ⟨_,(H.b0.at0 rfl),?_⟩
  refine ⟨_,(H.b0.at0 rfl),?_⟩
  refine ⟨_,(H.b0.at0 rfl),?_⟩
  refine ⟨_,(H.b0.at0 rfl),?_⟩
  refine ⟨_,(H.b0.at0 rfl),?_⟩
  refine ⟨rfl,?_⟩
  refine sPush1 H (bytes:=28) (by kernel_rfl) (Rep.dat (d0,d1,d2,d3,d4,d5,d6)) (by rfl) (fun G h=>DeepL.ones [_,_,_,_,_,_,_]) (by rfl) (by unfold maxLen;omega) (by omega) ?_
  clear H;intro o2 ol2 oc2 r2 w ex2 _ H
  subst ex2
  refine ⟨m - 1,by omega,ol+1,r2,?_,by omega,rfl,?_⟩
  ·rw [wi64_of (by omega) (by omega)];simp
  ·rw [htk,List.flatMap_append]
   simp only [fm1,fm2,fm3]
   exact H.sub (sc1) (fun r h=>mt h)
 ·rw [decide_eq_false_iff_not] at hc
  obtain rfl:ol=L.length:=by omega
  rw [List.take_length] at H
  exact ⟨o,oc,rfl,H.freeze⟩
theorem c99 {F:Fr} {w:World} {ex:List Ex} {ro:List Ro} {L:List Blo} {l:Option Addr} {c:Nat} (H:Sat F w ex ro) (hl:Ro.deep [.row 3 (L.flatMap Blo.dat)] [.slice l L.length c]∈ro) (hn:L.length<=1000000) (hn2:∀B∈L,B.2.2.length<=1000000) :
  Calls pg 99 #[.slice l L.length c] w fun en w'=>∃o oc,en=.returned (.slice o L.length oc)/\Sat F w' ex (.deep [.row 3 (L.flatMap Blo.dat)] [.slice o L.length oc]::ro):=by
 apply of99
 refine ⟨fun o ol oc x m w=>∃(j:Nat) (r:Option Nat),x=(j:Int)/\j+m=L.length/\ol=j/\Sat F w (.own 278 3 o ol oc r ((L.take j).flatMap Blo.dat)::ex) ro,⟨L.length,0,none,rfl,by omega,rfl,H.nilOwn 278 3⟩,?_⟩
 clear H;rintro dd2 o ol oc x m w ⟨j,r,rfl,hjm,rfl,H⟩
 refine ⟨fun hc=>?_,fun hc=>?_⟩
 ·rw [decide_eq_true_eq] at hc
  have hjl:ol < L.length:=by omega
  obtain ⟨p,us,e,hus,hcell,H1⟩:=H.eltF Blo.dat_len' (by decide) hl (j:=ol) hjl
  have htk:L.take (ol+1)=L.take ol++[L[ol]]:=by rw [List.take_add_one,List.getElem?_eq_getElem hjl];rfl
  have hDm:=hn2 L[ol] (List.getElem_mem hjl)
  clear H
  generalize L[ol]=D at H1 htk hDm
  obtain ⟨d0,d1,ms⟩:=D
  replace hDm:ms.length<=1000000:=hDm
  refine ⟨p,e,by omega,by omega,?_⟩
  obtain ⟨x0,us0,rfl,H2⟩:=H1.uncons List.mem_cons_self
  obtain ⟨x1,us1,rfl,H3⟩:=H2.uncons (List.mem_cons_of_mem _ List.mem_cons_self)
  obtain ⟨x2,us2,rfl,H4⟩:=H3.uncons (List.mem_cons_of_mem _ List.mem_cons_self)
  obtain rfl:us2=[]:=by simpa using hus
  obtain rfl:=H2.one1 List.mem_cons_self
  obtain rfl:=H3.one1 List.mem_cons_self
  obtain ⟨sa,sn,sc,rfl,hsl⟩:=H4.rowS List.mem_cons_self
  rw [flat_len Met.dat_len'] at hsl
  obtain rfl:sn=ms.length:=by omega
  refine ⟨_,_,_,_,_,LdC [.int .u32 d0,.int .u16 d1,.slice sa ms.length sc] (by kernel_rfl) (by rw [show (ol:Int).toNat*3=ol*3 by omega];exact hcell),?_⟩
  have H:Sat F w _ (.deep [.row 3 (ms.flatMap Met.dat)] [.slice sa ms.length sc]::ro):=H4.sub (List.Sublist.refl _) (fun r h=>by rcases List.mem_cons.1 h with rfl | h;exact List.mem_cons_self;simp [h])
  clear H1 H2 H3 H4 hcell
  refine sNew H ?_;clear H;intro b13 w _ H
  refine sSw0 H rfl (by kernel_rfl) (by rfl) (by rfl) ?_;clear H;intro w _ H
  refine ⟨_,(by exact Ce (by exact add_flat _ _ _) H.b0 rfl),?_⟩
  refine ⟨_,(by exact Ce (by exact add_flat _ _ _) H.b0 rfl),?_⟩
  refine sNew H ?_;clear H;intro b18 w _ H
  refine sSw0 H rfl (by kernel_rfl) (by rfl) (by rfl) ?_;clear H;intro w _ H
  refine ⟨_,_,_,(by exact Ce (by exact add_flat _ _ _) H.b1 rfl),?_⟩
  refine ⟨fun x m2 w=>∃(i:Nat) (o2:Option Addr) (oc2:Nat) (r2:Option Nat),x=(i:Int)/\i+m2=ms.length /\
    Sat F w (.blk b18 278 [.int .u32 d0,.int .u16 d1,.slice o2 i oc2]::.blk b13 176 [.int .u32 d0,.int .u16 d1,.slice sa ms.length sc]::.own 281 3 o2 i oc2 r2 ((ms.take i).flatMap Met.dat)::.own 278 3 o ol oc r ((L.take ol).flatMap Blo.dat)::ex)
     (.deep [.row 3 (ms.flatMap Met.dat)] [.slice sa ms.length sc]::ro),
   ⟨ms.length,0,none,0,none,rfl,by omega,(H.nilOwn 281 3).u2⟩,?_⟩
  clear H;rintro dd23 x m2 w ⟨i,o2,oc2,r2,rfl,him,H⟩
  refine ⟨fun hc=>?_,fun hc=>?_⟩
  ·rw [decide_eq_true_eq] at hc
   have hil:i < ms.length:=by omega
   obtain ⟨p2,us,e2,hus2,hcell,H1⟩:=H.eltF Met.dat_len' (by decide) List.mem_cons_self (j:=i) hil
   have htk2:ms.take (i+1)=ms.take i++[ms[i]]:=by rw [List.take_add_one,List.getElem?_eq_getElem hil];rfl
   clear H
   generalize ms[i]=E at H1 htk2
   obtain ⟨e0,e1,e3⟩:=E
   refine ⟨p2,e2,by omega,by omega,?_⟩
   obtain rfl:=H1.ones (us:=[.bool e0,.int .u8 e1,.int .u16 e3]) List.mem_cons_self
   refine ⟨_,_,_,LdC [.bool e0,.int .u8 e1,.int .u16 e3] (by kernel_rfl) (by rw [show (i:Int).toNat*3=i*3 by omega];exact hcell),?_⟩
   have H:=H1
   clear H1 hcell
   refine sNew H ?_;clear H;intro b33 w _ H
   refine sSw0 H rfl (by kernel_rfl) (by rfl) (by rfl) ?_;clear H;intro w _ H
   refine ⟨_,_,_,(by exact Ce (by exact add_flat _ _ _) H.b1 rfl),?_⟩
   refine ⟨_,(by exact Ce (by exact add_flat _ _ _) H.b0 rfl),?_⟩
   refine ⟨_,(by exact Ce (by exact add_flat _ _ _) H.b0 rfl),?_⟩
   refine ⟨_,(by exact Ce (by exact add_flat _ _ _) H.b0 rfl),?_⟩
   refine ⟨rfl,?_⟩
   refine sPush3 H (bytes:=4) (by kernel_rfl) (Met.dat (e0,e1,e3)) (by rfl) (fun G h=>DeepL.ones [_,_,_]) (by rfl) (by unfold maxLen;omega) (by omega) ?_
   clear H;intro o3 ol3 oc3 r3 w ex3 _ H
   refine sSt1 H (by exact add_flat _ _ _) (by kernel_rfl) (by rfl) (by rfl) ?_;clear H;intro w _ H
   subst ex3
   refine ⟨m2 - 1,by omega,i+1,o3,oc3,r3,?_,by omega,?_⟩
   ·rw [wi64_of (by omega) (by omega)];simp
   ·rw [htk2,List.flatMap_append]
    simp only [List.flatMap_cons,List.flatMap_nil,List.append_nil]
    exact H.sub (List.sublist_cons_self _ _) (fun r h=>List.mem_cons_of_mem _ h)
  ·rw [decide_eq_false_iff_not] at hc
   obtain rfl:i=ms.length:=by omega
   rw [List.take_length] at H
   replace H:=H.r2.freeze
   refine ⟨_,_,_,_,_,(by exact Ld0 rfl H.b0 (by kernel_rfl)),?_⟩
   refine ⟨rfl,?_⟩
   refine sPush2 H (bytes:=32) (by kernel_rfl) (Blo.dat (d0,d1,ms)) (by rfl) (fun G h=>DeepL.cons (.one _) (DeepL.cons (.one _) (DeepL.cons (h (.deep [_] [_]) List.mem_cons_self).head (DeepL.nil _ _)))) (by rfl) (by unfold maxLen;omega) (by omega) ?_
   clear H;intro o3 ol3 oc3 r3 w ex3 _ H
   subst ex3
   refine ⟨m - 1,by omega,ol+1,r3,?_,by omega,rfl,?_⟩
   ·rw [wi64_of (by omega) (by omega)];simp
   ·rw [htk,List.flatMap_append]
    simp only [List.flatMap_cons,List.flatMap_nil,List.append_nil]
    exact H.sub (by exact (List.sublist_cons_self _ _).trans (List.sublist_cons_self _ _)) (fun r h=>by simp [h])
 ·rw [decide_eq_false_iff_not] at hc
  obtain rfl:ol=L.length:=by omega
  rw [List.take_length] at H
  exact ⟨o,oc,rfl,H.freeze⟩
theorem c97 {F:Fr} {w:World} {ex:List Ex} {ro:List Ro} {L:List Chk} {l:Option Addr} {c:Nat} (H:Sat F w ex ro) (hl:Ro.deep [.row 2 (L.flatMap Chk.dat)] [.slice l L.length c]∈ro) (hn:L.length<=1000000) (hn2:∀B∈L,B.2.length<=1000000) :
  Calls pg 97 #[.slice l L.length c] w fun en w'=>∃b,en=.returned (.pointer (some ⟨b,0,none⟩))/\Sat F w' ex (.deep [.ptr [.row 2 (L.flatMap Chk.dat)]] [.pointer (some ⟨b,0,none⟩)]::ro):=by
 apply of97
 refine sNew H ?_;clear H;intro b1 w _ H
 refine ⟨fun x m w=>∃(ol:Nat) (o:Option Addr) (oc:Nat) (r:Option Nat),x=(ol:Int)/\ol+m=L.length/\Sat F w (.blk b1 252 [.slice o ol oc]::.own 255 2 o ol oc r ((L.take ol).flatMap Chk.dat)::ex) ro,⟨L.length,0,none,0,none,rfl,by omega,(H.nilOwn 255 2).u1⟩,?_⟩
 clear H;rintro dd2 x m w ⟨ol,o,oc,r,rfl,hjm,H⟩
 refine ⟨fun hc=>?_,fun hc=>?_⟩
 ·rw [decide_eq_true_eq] at hc
  have hjl:ol < L.length:=by omega
  obtain ⟨p,us,e,hus,hcell,H1⟩:=H.eltF Chk.dat_len' (by decide) hl (j:=ol) hjl
  have htk:L.take (ol+1)=L.take ol++[L[ol]]:=by rw [List.take_add_one,List.getElem?_eq_getElem hjl];rfl
  have hDm:=hn2 L[ol] (List.getElem_mem hjl)
  clear H
  generalize L[ol]=D at H1 htk hDm
  obtain ⟨d0,ms⟩:=D
  replace hDm:ms.length<=1000000:=hDm
  refine ⟨p,e,by omega,by omega,?_⟩
  obtain ⟨x0,us0,rfl,H2⟩:=H1.uncons List.mem_cons_self
  obtain ⟨x1,us1,rfl,H3⟩:=H2.uncons (List.mem_cons_of_mem _ List.mem_cons_self)
  obtain rfl:us1=[]:=by simpa using hus
  obtain rfl:=H2.one1 List.mem_cons_self
  obtain ⟨sa,sn,sc,rfl,hsl⟩:=H3.rowS List.mem_cons_self
  rw [flat_len Itm.dat_len] at hsl
  obtain rfl:sn=ms.length:=by omega
  refine ⟨_,_,_,_,LdC [.int .u32 d0,.slice sa ms.length sc] (by kernel_rfl) (by rw [show (ol:Int).toNat*2=ol*2 by omega];exact hcell),?_⟩
  have H:Sat F w _ (.deep [.row 2 (ms.flatMap Itm.dat)] [.slice sa ms.length sc]::ro):=H3.sub (List.Sublist.refl _) (fun r h=>by
   rcases List.mem_cons.1 h with rfl | h
   ·exact List.mem_cons_self
   ·exact List.mem_cons_of_mem _ (List.mem_cons_of_mem _ (List.mem_cons_of_mem _ (List.mem_cons_of_mem _ (List.mem_cons_of_mem _ h)))))
  clear H1 H2 H3 hcell
  refine sNew H ?_;clear H;intro b13 w _ H
  refine sSw0 H rfl (by kernel_rfl) (by rfl) (by rfl) ?_;clear H;intro w _ H
  refine ⟨_,(by exact Ce (by exact add_flat _ _ _) H.b0 rfl),?_⟩
  refine sNew H ?_;clear H;intro b18 w _ H
  refine sSw0 H rfl (by kernel_rfl) (by rfl) (by rfl) ?_;clear H;intro w _ H
  refine ⟨_,_,_,(by exact Ce (by exact add_flat _ _ _) H.b1 rfl),?_⟩
  refine ⟨fun x m2 w=>∃(i:Nat) (o2:Option Addr) (oc2:Nat) (r2:Option Nat),x=(i:Int)/\i+m2=ms.length /\
    Sat F w (.blk b18 255 [.int .u32 d0,.slice o2 i oc2]::.blk b13 169 [.int .u32 d0,.slice sa ms.length sc]::.own 258 2 o2 i oc2 r2 ((ms.take i).flatMap Itm.dat)::.blk b1 252 [.slice o ol oc]::.own 255 2 o ol oc r ((L.take ol).flatMap Chk.dat)::ex)
     (.deep [.row 2 (ms.flatMap Itm.dat)] [.slice sa ms.length sc]::ro),
   ⟨ms.length,0,none,0,none,rfl,by omega,(H.nilOwn 258 2).u2⟩,?_⟩
  clear H;rintro dd23 x m2 w ⟨i,o2,oc2,r2,rfl,him,H⟩
  refine ⟨fun hc=>?_,fun hc=>?_⟩
  ·rw [decide_eq_true_eq] at hc
   have hil:i < ms.length:=by omega
   obtain ⟨p2,us,e2,hus2,hcell,H1⟩:=H.eltF Itm.dat_len (by decide) List.mem_cons_self (j:=i) hil
   have htk2:ms.take (i+1)=ms.take i++[ms[i]]:=by rw [List.take_add_one,List.getElem?_eq_getElem hil];rfl
   clear H
   generalize ms[i]=E at H1 htk2
   obtain ⟨e0,e1⟩:=E
   refine ⟨p2,e2,by omega,by omega,?_⟩
   obtain rfl:=H1.ones (us:=[.int .u8 e0,.string e1]) List.mem_cons_self
   refine ⟨_,_,LdC [.int .u8 e0,.string e1] (by kernel_rfl) (by rw [show (i:Int).toNat*2=i*2 by omega];exact hcell),?_⟩
   have H:=H1
   clear H1 hcell
   refine sNew H ?_;clear H;intro b33 w _ H
   refine sSw0 H rfl (by kernel_rfl) (by rfl) (by rfl) ?_;clear H;intro w _ H
   refine ⟨_,_,_,(by exact Ce (by exact add_flat _ _ _) H.b1 rfl),?_⟩
   refine ⟨_,(by exact Ce (by exact add_flat _ _ _) H.b0 rfl),?_⟩
   refine ⟨_,(by exact Ce (by exact add_flat _ _ _) H.b0 rfl),?_⟩
   refine ⟨rfl,?_⟩
   refine sPush3 H (bytes:=24) (by kernel_rfl) (Itm.dat (e0,e1)) (by rfl) (fun G h=>DeepL.ones [_,_]) (by rfl) (by unfold maxLen;omega) (by omega) ?_
   clear H;intro o3 ol3 oc3 r3 w ex3 _ H
   refine sSt1 H (by exact add_flat _ _ _) (by kernel_rfl) (by rfl) (by rfl) ?_;clear H;intro w _ H
   subst ex3
   refine ⟨m2 - 1,by omega,i+1,o3,oc3,r3,?_,by omega,?_⟩
   ·rw [wi64_of (by omega) (by omega)];simp
   ·rw [htk2,List.flatMap_append]
    simp only [List.flatMap_cons,List.flatMap_nil,List.append_nil]
    exact H.sub (List.sublist_cons_self _ _) (fun r h=>List.mem_cons_of_mem _ h)
  ·rw [decide_eq_false_iff_not] at hc
   obtain rfl:i=ms.length:=by omega
   rw [List.take_length] at H
   replace H:=H.r2.freeze
   replace H:=H.r1.sub (List.sublist_cons_self _ _) (fun _ h=>h)
   refine ⟨r,?_⟩;replace H:=H.drew;generalize w.drew=wd1 at H ⊢;have K:=grew_refl wd1 (r)
   refine ⟨_,rfl,?_⟩
   refine ⟨(by exact H.ne (by (apply List.mem_cons_of_mem;exact List.mem_cons_self)) (by (apply List.mem_cons_of_mem;(apply List.mem_cons_of_mem;exact List.mem_cons_self)))),?_⟩
   refine ⟨(by exact H.b1.row),?_⟩
   refine ⟨_,_,_,(by exact Ce (by exact add_flat _ _ _) H.b1 rfl),?_⟩
   refine ⟨(by exact H.ne (by exact List.mem_cons_self) (by (apply List.mem_cons_of_mem;(apply List.mem_cons_of_mem;exact List.mem_cons_self)))),?_⟩
   refine ⟨(by exact H.b0.row),?_⟩
   refine ⟨_,_,_,_,(by exact Ld0 rfl H.b0 (by kernel_rfl)),?_⟩
   refine ⟨rfl,?_⟩
   refine sNew H ?_;clear H;intro b47 w g H;replace K:=World.grownBy.trans K (grew_none _ g);clear g
   refine ⟨K,?_⟩
   refine sApp3 H (bytes:=32) (by kernel_rfl) [.int .u32 d0,.slice o2 ms.length oc2] (Chk.dat (d0,ms)) (by rfl) (fun j u hu=>by rw [add_flat,Nat.zero_add];exact H.b0.cell hu) (fun G h=>DeepL.cons (.one _) (DeepL.cons (h (.deep [_] [_]) List.mem_cons_self).head (DeepL.nil _ _))) (by simp [Value.oneCell']) (by unfold maxLen;omega) (by omega) ?_
   clear H;intro o3 ol3 oc3 r3 w ex3 g H
   replace K:=World.grownBy.trans K g;clear g;replace H:=H.sub (List.sublist_cons_self _ _) (fun _ h=>h)
   refine ⟨K,?_⟩
   refine ⟨_,rfl,?_⟩
   refine sSt1 H (by exact add_flat _ _ _) (by kernel_rfl) (by rfl) (by rfl) ?_;clear H;intro w _ H
   subst ex3
   refine ⟨m - 1,by omega,ol+1,o3,oc3,r3,?_,by omega,?_⟩
   ·rw [wi64_of (by omega) (by omega)];simp
   ·rw [htk,List.flatMap_append]
    simp only [List.flatMap_cons,List.flatMap_nil,List.append_nil]
    exact H.sub (List.sublist_cons_self _ _) (fun r h=>by simp [h])
 ·rw [decide_eq_false_iff_not] at hc
  obtain rfl:ol=L.length:=by omega
  rw [List.take_length] at H
  refine ⟨b1,rfl,?_⟩
  exact (H.r1.freeze.blkPtr [.row 2 (L.flatMap Chk.dat)] (fun G h=>by repeat (first | exact DeepL.nil _ _ | refine DeepL.cons (h (.deep [_] [_]) (by exact List.mem_cons_self)).head ?_))).sub (List.Sublist.refl _) (fun r h=>by rcases List.mem_cons.1 h with rfl | h;exact List.mem_cons_self;simp [h])
def isz:List Itm->Nat
 | []=>0
 | i::r=>1+i.2.size+isz r
def csz:List Chk->Nat
 | []=>0
 | c::r=>1+isz c.2+csz r
def bsz:List Blo->Nat
 | []=>0
 | b::r=>1+b.2.2.length+bsz r
def ssz:List Sta->Nat
 | []=>0
 | s::r=>1+s.2.2.2.2.length+ssz r
def Pk.size (p:Pk):Nat:=p.reports.length+p.ext.length+csz p.chunks+p.sources.length+p.text.size+p.data.length+p.pairs.length+p.slices.length+p.entries.length+bsz p.blocks+ssz p.statuses+p.deltas.length
def trim (p:Pk):Pk:=
 if p.kind=1 then { kind:=1,sender:=p.sender,ntp:=p.ntp,rtp:=p.rtp,packets:=p.packets,octets:=p.octets,reports:=p.reports,ext:=p.ext } else
 if p.kind=2 then { kind:=2,sender:=p.sender,reports:=p.reports,ext:=p.ext } else
 if p.kind=3 then { kind:=3,chunks:=p.chunks } else
 if p.kind=4 then { kind:=4,sources:=p.sources,text:=p.text } else
 if p.kind=5 then { kind:=5,sender:=p.sender,text:=p.text,sub:=p.sub,data:=p.data } else
 if p.kind=6 then { kind:=6,sender:=p.sender,media:=p.media,pairs:=p.pairs } else
 if p.kind=8 then { kind:=8,sender:=p.sender,blocks:=p.blocks,time:=p.time } else
 if p.kind=10 then { kind:=10,sender:=p.sender,media:=p.media,slices:=p.slices } else
 if p.kind=11 then { kind:=11,sender:=p.sender,media:=p.media,entries:=p.entries } else
 if p.kind=12 then { kind:=12,sender:=p.sender,bits:=p.bits,sources:=p.sources } else
 if p.kind=13 then { kind:=13,sender:=p.sender,media:=p.media,base:=p.base,count:=p.count,ref:=p.ref,fb:=p.fb,statuses:=p.statuses,deltas:=p.deltas,hp:=p.hp,hc:=p.hc,ht:=p.ht,hl:=p.hl } else
 if p.kind=0 then { data:=p.data } else
 { kind:=p.kind,sender:=p.sender,media:=p.media }
theorem isz_len:∀l:List Itm,l.length<=isz l
 | []=>Nat.le_refl _
 | i::r=>by have:=isz_len r;simp only [isz,List.length_cons];omega
theorem csz_len:∀l:List Chk,l.length<=csz l
 | []=>Nat.le_refl _
 | i::r=>by have:=csz_len r;simp only [csz,List.length_cons];omega
theorem bsz_len:∀l:List Blo,l.length<=bsz l
 | []=>Nat.le_refl _
 | i::r=>by have:=bsz_len r;simp only [bsz,List.length_cons];omega
theorem ssz_len:∀l:List Sta,l.length<=ssz l
 | []=>Nat.le_refl _
 | i::r=>by have:=ssz_len r;simp only [ssz,List.length_cons];omega
theorem csz_mem:∀(l:List Chk) (B:Chk),B∈l->B.2.length<=csz l
 | c::r,B,h=>by
  simp only [csz]
  rcases List.mem_cons.1 h with rfl | h
  ·have:=isz_len B.2;omega
  ·have:=csz_mem r B h;omega
theorem bsz_mem:∀(l:List Blo) (B:Blo),B∈l->B.2.2.length<=bsz l
 | c::r,B,h=>by
  simp only [bsz]
  rcases List.mem_cons.1 h with rfl | h
  ·omega
  ·have:=bsz_mem r B h;omega
structure Gd (p:Pk) (n:Nat):Prop where
 lo:0<=p.kind
 hi:p.kind<=12
 trim:trim p=p
 sz:p.size<=2*n
 bits:p.bits=(p.bits.toNat:Int)
theorem reps_lenZ:∀(k:Nat) (ys:List Int),(reps k ys).length=k
 | 0,_=>rfl
 | k+1,ys=>by rw [reps,List.length_cons,reps_lenZ k]
theorem items_sz (xs:List Int):∀(f i:Nat) (l:List Itm) (j:Nat),items xs f i=some (l,j)->isz l+i+1<=j/\j<=xs.length
 | 0,_,_,_,h=>by simp [items] at h
 | f+1,i,l,j,h=>by
  unfold items at h
  split at h
  ·cases h
  split at h
  ·cases h;simp only [isz];omega
  split at h
  ·cases h
  split at h
  ·cases h
  cases hq:items xs f (i+2+(xs.getD (i+1) 0).toNat) with
  | none=>rw [hq] at h;cases h
  | some q=>
   obtain ⟨l2,j2⟩:=q
   rw [hq] at h
   simp only [Option.map_some,Option.some.injEq,Prod.mk.injEq] at h
   obtain ⟨rfl,rfl⟩:=h
   have ih:=items_sz xs f _ _ _ hq
   simp only [isz]
   rw [strOfNums_size,List.length_take,List.length_drop]
   omega
theorem zeros_ge (xs:List Int):∀(f i j:Nat),zeros xs f i=some j->i<=j
 | 0,i,j,h=>by
  unfold zeros at h
  split at h
  ·cases h;omega
  ·cases h
 | f+1,i,j,h=>by
  unfold zeros at h
  split at h
  ·cases h;omega
  split at h
  ·cases h
  split at h
  ·have:=zeros_ge xs f _ _ h;omega
  ·cases h
theorem chks_sz:∀(n:Nat) (xs:List Int) (l:List Chk),chks n xs=some l->csz l<=xs.length
 | 0,xs,l,h=>by
  unfold chks at h
  split at h
  ·cases h;exact Nat.zero_le _
  ·cases h
 | n+1,xs,l,h=>by
  unfold chks at h
  split at h
  ·cases h
  cases hi:items xs xs.length 4 with
  | none=>rw [hi] at h;cases h
  | some q=>
   obtain ⟨l0,i⟩:=q
   rw [hi] at h
   simp only at h
   have h1:=items_sz _ _ _ _ _ hi
   cases hz:zeros xs 3 i with
   | none=>rw [hz] at h;cases h
   | some j=>
    rw [hz] at h
    simp only at h
    have h2:=zeros_ge _ _ _ _ hz
    cases hr:chks n (xs.drop j) with
    | none=>rw [hr] at h;cases h
    | some r=>
     rw [hr] at h
     simp only [Option.map_some,Option.some.injEq] at h
     subst h
     have ih:=chks_sz n _ _ hr
     rw [List.length_drop] at ih
     simp only [csz]
     omega
theorem metsL_lenZ:∀(k:Nat) (xs:List Int) (l:List Met),metsL k xs=some l->l.length=k
 | 0,_,l,h=>by unfold metsL at h;cases h;rfl
 | k+1,xs,l,h=>by
  by_cases hc:n16 xs / 32768≠1/\n16 xs≠0
  ·rw [metsL_none hc] at h;cases h
  ·rw [metsL_some hc] at h
   cases hq:metsL k (xs.drop 2) with
   | none=>rw [hq] at h;cases h
   | some q=>
    rw [hq] at h
    simp only [Option.map_some,Option.some.injEq] at h
    subst h
    rw [List.length_cons,metsL_lenZ k _ _ hq]
theorem blocksL_sz:∀(f:Nat) (xs:List Int) (l:List Blo) (ys:List Int),blocksL f xs=some (l,ys)->bsz l<=xs.length
 | 0,_,_,_,h=>by simp [blocksL] at h
 | f+1,xs,l,ys,h=>by
  unfold blocksL at h
  simp only at h
  split at h
  ·cases h;exact Nat.zero_le _
  split at h
  ·cases h
  split at h
  ·cases h
  cases hm:metsL (n16 (xs.drop 6)).toNat (xs.drop 8) with
  | none=>rw [hm] at h;cases h
  | some msz=>
   rw [hm] at h
   simp only at h
   split at h
   ·cases h
   cases hq:blocksL f (xs.drop (8+2*((n16 (xs.drop 6)).toNat+(n16 (xs.drop 6)).toNat % 2))) with
   | none=>rw [hq] at h;cases h
   | some q=>
    obtain ⟨l2,y2⟩:=q
    rw [hq] at h
    simp only [Option.map_some,Option.some.injEq,Prod.mk.injEq] at h
    obtain ⟨rfl,rfl⟩:=h
    have h1:=metsL_lenZ _ _ _ hm
    have ih:=blocksL_sz f _ _ _ hq
    rw [List.length_drop] at ih
    simp only [bsz]
    omega
theorem entryL_sz:∀(n:Nat) (xs:List Int) (l:List Ent),entryL n xs=some l->l.length=n
 | 0,xs,l,h=>by
  unfold entryL at h
  split at h
  ·cases h;rfl
  ·cases h
 | n+1,xs,l,h=>by
  unfold entryL at h
  split at h
  ·cases h
  cases hq:entryL n (xs.drop 8) with
  | none=>rw [hq] at h;cases h
  | some q=>
   rw [hq] at h
   simp only [Option.map_some,Option.some.injEq] at h
   subst h
   rw [List.length_cons,entryL_sz n _ _ hq]
theorem noText:(⟨#[]⟩:ByteArray).size=0:=rfl
theorem rdT_kind {s m:Int} {hp:Bool} {hc ht hl:Int} {xs:List Int} {p:Pk} (h:rdT s m hp hc ht hl xs=some p):p.kind=13:=by
 unfold rdT at h
 split at h
 ·cases h
 split at h
 ·cases h
 split at h
 ·cases h
 split at h
 ·cases h
 split at h
 ·cases h
 split at h
 ·cases h;rfl
 ·cases h
theorem Gd.mk0 {p:Pk} {n:Nat} (lo:0<=p.kind) (hi:p.kind<=12) (ht:Go.Proofs.YtkdialecadjedaaGreatDoor.trim p=p) (hs:p.size<=2*n) (hb:p.bits=(p.bits.toNat:Int)) (_:p.statuses=[]) (_:p.deltas=[]):Gd p n:=
 ⟨lo,hi,ht,hs,hb⟩
theorem body_Gd {xs:List Int} {p:Pk} (hk13:p.kind≠13) (h:rdBody xs=some p):Gd p xs.length:=by
 unfold rdBody at h
 simp only at h
 generalize kindOf (hT xs) (hC xs)=k at h
 split at h
 ·split at h
  ·cases h
  ·cases h
   refine Gd.mk0 (by simp) (by simp) (by simp [trim]) ?_ (by simp) rfl rfl
   simp only [Pk.size,csz,bsz,ssz,List.length_nil,reps_lenZ,noText]
   simp only [List.length_drop] at *
   omega
 split at h
 ·split at h
  ·cases h
  ·cases h
   refine Gd.mk0 (by simp) (by simp) (by simp [trim]) ?_ (by simp) rfl rfl
   simp only [Pk.size,csz,bsz,ssz,List.length_nil,reps_lenZ,noText]
   simp only [List.length_drop] at *
   omega
 split at h
 ·cases hq:chks (hC xs).toNat (xs.drop 4) with
  | none=>rw [hq] at h;cases h
  | some l=>
   rw [hq] at h
   simp only [Option.map_some,Option.some.injEq] at h
   subst h
   have:=chks_sz _ _ _ hq
   refine Gd.mk0 (by simp) (by simp) (by simp [trim]) ?_ (by simp) rfl rfl
   simp only [Pk.size,csz,bsz,ssz,List.length_nil,noText]
   rw [List.length_drop] at this
   omega
 split at h
 ·unfold rdBye at h
  simp only at h
  split at h
  ·cases h
  split at h
  ·cases h
   refine Gd.mk0 (by simp) (by simp) (by simp [trim]) ?_ (by simp) rfl rfl
   simp only [Pk.size,csz,bsz,ssz,List.length_nil,words_len,noText]
   simp only [List.length_drop] at *
   omega
  split at h
  ·cases h
  split at h
  ·cases h
  split at h
  ·cases h
  split at h
  ·cases h
   refine Gd.mk0 (by simp) (by simp) (by simp [trim]) ?_ (by simp) rfl rfl
   simp only [Pk.size,csz,bsz,ssz,List.length_nil,words_len]
   rw [strOfNums_size,List.length_take,List.length_drop]
   simp only [List.length_drop] at *
   omega
  ·cases h
 split at h
 ·split at h
  ·cases h
  ·cases h
   refine Gd.mk0 (by simp) (by simp) (by simp [trim]) ?_ (by simp) rfl rfl
   simp only [Pk.size,csz,bsz,ssz,List.length_nil]
   rw [strOfNums_size,List.length_take]
   simp only [List.length_drop] at *
   omega
 split at h
 ·cases h
 rename_i hlen
 rw [List.length_drop] at hlen
 unfold rdFb at h
 simp only at h
 split at h
 ·rename_i hk
  split at h
  ·cases h
   refine Gd.mk0 (by simp only;omega) (by simp only;omega) ?_ ?_ (by simp) rfl rfl
   ·rcases hk with rfl | rfl<;>simp [trim]
   ·simp only [Pk.size,csz,bsz,ssz,List.length_nil,noText];omega
  ·cases h
 split at h
 ·split at h
  ·cases h
  ·cases h
   refine Gd.mk0 (by simp) (by simp) (by simp [trim]) ?_ (by simp) rfl rfl
   simp only [Pk.size,csz,bsz,ssz,List.length_nil,pairsL_length,noText]
   simp only [List.length_drop] at *
   omega
 split at h
 ·split at h
  ·cases h
  ·cases h
   refine Gd.mk0 (by simp) (by simp) (by simp [trim]) ?_ (by simp) rfl rfl
   simp only [Pk.size,csz,bsz,ssz,List.length_nil,sliceL_length,noText]
   simp only [List.length_drop] at *
   omega
 split at h
 ·cases hq:entryL (((xs.drop 4).drop 8).length / 8) ((xs.drop 4).drop 8) with
  | none=>rw [hq] at h;cases h
  | some l=>
   rw [hq] at h
   simp only at h
   have:=entryL_sz _ _ _ hq
   split at h
   ·cases h
   ·cases h
    refine Gd.mk0 (by simp) (by simp) (by simp [trim]) ?_ (by simp) rfl rfl
    simp only [Pk.size,csz,bsz,ssz,List.length_nil,noText]
    simp only [List.length_drop] at *
    omega
 split at h
 ·unfold rdRemb at h
  split at h
  ·cases h
  split at h
  ·cases h
  split at h
  ·cases h
  split at h
  ·cases h
  split at h
  ·cases h
  cases h
  refine Gd.mk0 (by simp) (by simp) (by simp [trim]) ?_ (by simp) rfl rfl
  simp only [Pk.size,csz,bsz,ssz,List.length_nil,words_len,noText]
  simp only [List.length_drop] at *
  omega
 split at h
 ·unfold rdCc at h
  cases hq:blocksL ((xs.drop 4).drop 4).length ((xs.drop 4).drop 4) with
  | none=>rw [hq] at h;cases h
  | some q=>
   obtain ⟨l,ys⟩:=q
   rw [hq] at h
   simp only at h
   have:=blocksL_sz _ _ _ _ hq
   split at h
   ·cases h
    refine Gd.mk0 (by simp) (by simp) (by simp [trim]) ?_ (by simp) rfl rfl
    simp only [Pk.size,csz,bsz,ssz,List.length_nil,noText]
    simp only [List.length_drop] at *
    omega
   ·cases h
 ·exact absurd (rdT_kind h) hk13
theorem go_Gd {xs:List Int} {p:Pk} (h:go xs=some p) (hk:p.kind≠13):Gd p xs.length:=by
 have hgo:=h
 unfold go at h
 split at h
 ·rename_i h0
  have hok:hdrOk xs=true:=by
   cases hh:hdrOk xs with
   | true=>rfl
   | false=>unfold rdOne at h0;rw [if_pos hh] at h0;exact absurd h0 (by decide)
  have hlen:4*(hL xs+1)=(xs.length:Int):=by
   by_cases hl:4*(hL xs+1)=(xs.length:Int)
   ·exact hl
   ·unfold rdOne at h0;rw [if_neg (by rw [hok];decide),if_pos hl] at h0;exact absurd h0 (by decide)
  have hd:Hd xs (hT xs) (hC xs):=⟨hok,hlen,rfl,rfl⟩
  by_cases hk0:kindOf (hT xs) (hC xs)=0
  ·have hr:=go_raw hd hk0
   rw [hgo] at hr
   split at hr
   ·cases hr
   ·cases hr
    refine Gd.mk0 (by simp) (by simp) (by simp [Go.Proofs.YtkdialecadjedaaGreatDoor.trim]) ?_ (by simp) rfl rfl
    simp only [Pk.size,csz,bsz,ssz,List.length_nil,noText]
    omega
  ·have hr:=go_gd hd hk0
   rw [hgo] at hr
   obtain ⟨_,hr⟩:=gd_some hr.symm
   cases h
   exact body_Gd hk hr
 ·cases h
theorem Par.dat_lenK (x:Par):(Par.dat x).length=2:=rfl
theorem Sli.dat_lenK (x:Sli):(Sli.dat x).length=3:=rfl
theorem Ent.dat_lenK (x:Ent):(Ent.dat x).length=2:=rfl
theorem Sta.dat_lenK (x:Sta):(Sta.dat x).length=5:=rfl
theorem Del.dat_lenK (x:Del):(Del.dat x).length=2:=rfl
theorem DeepL.consInv {w:World} {G:Nat->Prop} {d:Dat} {ds:List Dat} {vs:List Value} (h:DeepL w G (d::ds) vs):∃v us,vs=v::us/\Deep w G d v/\DeepL w G ds us:=by
 cases vs with
 | nil=>have:=h.1;simp at this
 | cons v us=>exact ⟨v,us,rfl,h.head,h.tail⟩
theorem DeepL.nilInv {w:World} {G:Nat->Prop} {vs:List Value} (h:DeepL w G [] vs):vs=[]:=by
 cases vs with
 | nil=>rfl
 | cons v us=>have:=h.1;simp at this
theorem Deep.oneInv {w:World} {G:Nat->Prop} {u v:Value} (h:Deep w G (.one u) v):v=u:=by cases h;rfl
theorem Deep.rowInv {w:World} {G:Nat->Prop} {sz:Nat} {ds:List Dat} {v:Value} (h:Deep w G (.row sz ds) v):∃a n c,v=.slice a n c/\ds.length=n*sz:=by
 have hl:∀a n c,v=.slice a n c->ds.length=n*sz:=by rintro a n c rfl;exact h.len.1
 cases h with
 | emp=>exact ⟨_,_,_,rfl,by simp⟩
 | row _ b o n c _ vs=>exact ⟨_,_,_,rfl,hl _ _ _ rfl⟩
def pkC (p:Pk) (a7 a8 a9 a10 a13 a14 a15 a16 a18 a24 a25:Option Addr) (c7 c8 c9 c10 c13 c14 c15 c16 c18 c24 c25:Nat):List Value:=
 [.int .i64 p.kind,.int .u32 p.sender,.int .u32 p.media,.int .u64 p.ntp,.int .u32 p.rtp,.int .u32 p.packets,.int .u32 p.octets,.slice a7 p.reports.length c7,.slice a8 p.ext.length c8,.slice a9 p.chunks.length c9,.slice a10 p.sources.length c10,.string p.text,.int .u8 p.sub,.slice a13 p.data.length c13,.slice a14 p.pairs.length c14,.slice a15 p.slices.length c15,.slice a16 p.entries.length c16,.int .u32 p.bits,.slice a18 p.blocks.length c18,.int .u32 p.time,.int .u16 p.base,.int .u16 p.count,.int .u32 p.ref,.int .u8 p.fb,.slice a24 p.statuses.length c24,.slice a25 p.deltas.length c25,.bool p.hp,.int .u8 p.hc,.int .u8 p.ht,.int .u16 p.hl]
def pkR (p:Pk) (a7 a8 a9 a10 a13 a14 a15 a16 a18 a24 a25:Option Addr) (c7 c8 c9 c10 c13 c14 c15 c16 c18 c24 c25:Nat):List Ro:=
 [.deep [.row 7 (p.reports.flatMap Rep.dat)] [.slice a7 p.reports.length c7],.deep [.row 1 (ob p.ext)] [.slice a8 p.ext.length c8],.deep [.row 2 (p.chunks.flatMap Chk.dat)] [.slice a9 p.chunks.length c9],.deep [.row 1 (oi .u32 p.sources)] [.slice a10 p.sources.length c10],.deep [.row 1 (ob p.data)] [.slice a13 p.data.length c13],.deep [.row 2 (p.pairs.flatMap Par.dat)] [.slice a14 p.pairs.length c14],.deep [.row 3 (p.slices.flatMap Sli.dat)] [.slice a15 p.slices.length c15],.deep [.row 2 (p.entries.flatMap Ent.dat)] [.slice a16 p.entries.length c16],.deep [.row 3 (p.blocks.flatMap Blo.dat)] [.slice a18 p.blocks.length c18],.deep [.row 5 (p.statuses.flatMap Sta.dat)] [.slice a24 p.statuses.length c24],.deep [.row 2 (p.deltas.flatMap Del.dat)] [.slice a25 p.deltas.length c25]]
theorem Sat.pk {F:Fr} {w:World} {ex:List Ex} {ro:List Ro} {p:Pk} {cells:List Value} (H:Sat F w ex ro) (h:Ro.deep p.dat cells∈ro) :
  ∃a7 a8 a9 a10 a13 a14 a15 a16 a18 a24 a25 c7 c8 c9 c10 c13 c14 c15 c16 c18 c24 c25,cells=pkC p a7 a8 a9 a10 a13 a14 a15 a16 a18 a24 a25 c7 c8 c9 c10 c13 c14 c15 c16 c18 c24 c25/\Sat F w ex (pkR p a7 a8 a9 a10 a13 a14 a15 a16 a18 a24 a25 c7 c8 c9 c10 c13 c14 c15 c16 c18 c24 c25++ro):=by
 have D:=H.deep h
 unfold Pk.dat at D
 obtain ⟨v0,us0,rfl,d0,D⟩:=D.consInv
 obtain ⟨v1,us1,rfl,d1,D⟩:=D.consInv
 obtain ⟨v2,us2,rfl,d2,D⟩:=D.consInv
 obtain ⟨v3,us3,rfl,d3,D⟩:=D.consInv
 obtain ⟨v4,us4,rfl,d4,D⟩:=D.consInv
 obtain ⟨v5,us5,rfl,d5,D⟩:=D.consInv
 obtain ⟨v6,us6,rfl,d6,D⟩:=D.consInv
 obtain ⟨v7,us7,rfl,d7,D⟩:=D.consInv
 obtain ⟨v8,us8,rfl,d8,D⟩:=D.consInv
 obtain ⟨v9,us9,rfl,d9,D⟩:=D.consInv
 obtain ⟨v10,us10,rfl,d10,D⟩:=D.consInv
 obtain ⟨v11,us11,rfl,d11,D⟩:=D.consInv
 obtain ⟨v12,us12,rfl,d12,D⟩:=D.consInv
 obtain ⟨v13,us13,rfl,d13,D⟩:=D.consInv
 obtain ⟨v14,us14,rfl,d14,D⟩:=D.consInv
 obtain ⟨v15,us15,rfl,d15,D⟩:=D.consInv
 obtain ⟨v16,us16,rfl,d16,D⟩:=D.consInv
 obtain ⟨v17,us17,rfl,d17,D⟩:=D.consInv
 obtain ⟨v18,us18,rfl,d18,D⟩:=D.consInv
 obtain ⟨v19,us19,rfl,d19,D⟩:=D.consInv
 obtain ⟨v20,us20,rfl,d20,D⟩:=D.consInv
 obtain ⟨v21,us21,rfl,d21,D⟩:=D.consInv
 obtain ⟨v22,us22,rfl,d22,D⟩:=D.consInv
 obtain ⟨v23,us23,rfl,d23,D⟩:=D.consInv
 obtain ⟨v24,us24,rfl,d24,D⟩:=D.consInv
 obtain ⟨v25,us25,rfl,d25,D⟩:=D.consInv
 obtain ⟨v26,us26,rfl,d26,D⟩:=D.consInv
 obtain ⟨v27,us27,rfl,d27,D⟩:=D.consInv
 obtain ⟨v28,us28,rfl,d28,D⟩:=D.consInv
 obtain ⟨v29,us29,rfl,d29,D⟩:=D.consInv
 obtain rfl:=D.nilInv
 obtain rfl:=d0.oneInv
 obtain rfl:=d1.oneInv
 obtain rfl:=d2.oneInv
 obtain rfl:=d3.oneInv
 obtain rfl:=d4.oneInv
 obtain rfl:=d5.oneInv
 obtain rfl:=d6.oneInv
 obtain ⟨a7,n7,c7,rfl,e7⟩:=d7.rowInv
 rw [flat_len Rep.dat_len'] at e7
 obtain rfl:n7=p.reports.length:=by omega
 obtain ⟨a8,n8,c8,rfl,e8⟩:=d8.rowInv
 rw [ob_length] at e8
 obtain rfl:n8=p.ext.length:=by omega
 obtain ⟨a9,n9,c9,rfl,e9⟩:=d9.rowInv
 rw [flat_len Chk.dat_len'] at e9
 obtain rfl:n9=p.chunks.length:=by omega
 obtain ⟨a10,n10,c10,rfl,e10⟩:=d10.rowInv
 rw [oi_length] at e10
 obtain rfl:n10=p.sources.length:=by omega
 obtain rfl:=d11.oneInv
 obtain rfl:=d12.oneInv
 obtain ⟨a13,n13,c13,rfl,e13⟩:=d13.rowInv
 rw [ob_length] at e13
 obtain rfl:n13=p.data.length:=by omega
 obtain ⟨a14,n14,c14,rfl,e14⟩:=d14.rowInv
 rw [flat_len Par.dat_lenK] at e14
 obtain rfl:n14=p.pairs.length:=by omega
 obtain ⟨a15,n15,c15,rfl,e15⟩:=d15.rowInv
 rw [flat_len Sli.dat_lenK] at e15
 obtain rfl:n15=p.slices.length:=by omega
 obtain ⟨a16,n16,c16,rfl,e16⟩:=d16.rowInv
 rw [flat_len Ent.dat_lenK] at e16
 obtain rfl:n16=p.entries.length:=by omega
 obtain rfl:=d17.oneInv
 obtain ⟨a18,n18,c18,rfl,e18⟩:=d18.rowInv
 rw [flat_len Blo.dat_len'] at e18
 obtain rfl:n18=p.blocks.length:=by omega
 obtain rfl:=d19.oneInv
 obtain rfl:=d20.oneInv
 obtain rfl:=d21.oneInv
 obtain rfl:=d22.oneInv
 obtain rfl:=d23.oneInv
 obtain ⟨a24,n24,c24,rfl,e24⟩:=d24.rowInv
 rw [flat_len Sta.dat_lenK] at e24
 obtain rfl:n24=p.statuses.length:=by omega
 obtain ⟨a25,n25,c25,rfl,e25⟩:=d25.rowInv
 rw [flat_len Del.dat_lenK] at e25
 obtain rfl:n25=p.deltas.length:=by omega
 obtain rfl:=d26.oneInv
 obtain rfl:=d27.oneInv
 obtain rfl:=d28.oneInv
 obtain rfl:=d29.oneInv
 exact ⟨a7,a8,a9,a10,a13,a14,a15,a16,a18,a24,a25,c7,c8,c9,c10,c13,c14,c15,c16,c18,c24,c25,rfl,(Sat.addRo (r:=.deep [.row 7 (p.reports.flatMap Rep.dat)] [.slice a7 p.reports.length c7]) (Sat.addRo (r:=.deep [.row 1 (ob p.ext)] [.slice a8 p.ext.length c8]) (Sat.addRo (r:=.deep [.row 2 (p.chunks.flatMap Chk.dat)] [.slice a9 p.chunks.length c9]) (Sat.addRo (r:=.deep [.row 1 (oi .u32 p.sources)] [.slice a10 p.sources.length c10]) (Sat.addRo (r:=.deep [.row 1 (ob p.data)] [.slice a13 p.data.length c13]) (Sat.addRo (r:=.deep [.row 2 (p.pairs.flatMap Par.dat)] [.slice a14 p.pairs.length c14]) (Sat.addRo (r:=.deep [.row 3 (p.slices.flatMap Sli.dat)] [.slice a15 p.slices.length c15]) (Sat.addRo (r:=.deep [.row 2 (p.entries.flatMap Ent.dat)] [.slice a16 p.entries.length c16]) (Sat.addRo (r:=.deep [.row 3 (p.blocks.flatMap Blo.dat)] [.slice a18 p.blocks.length c18]) (Sat.addRo (r:=.deep [.row 5 (p.statuses.flatMap Sta.dat)] [.slice a24 p.statuses.length c24]) (Sat.addRo (r:=.deep [.row 2 (p.deltas.flatMap Del.dat)] [.slice a25 p.deltas.length c25]) H (dc d25 dn)) (dc d24 dn)) (dc d18 dn)) (dc d16 dn)) (dc d15 dn)) (dc d14 dn)) (dc d13 dn)) (dc d10 dn)) (dc d9 dn)) (dc d8 dn)) (dc d7 dn))⟩
/-! ### The text of spec.Key -/
def uw (x:Int):Int:=IntKind.u64.wrap x
def un (n:Nat):Int:=IntKind.u64.wrap (n:Int)
def ub (x:Bool):Int:=if x then 1 else 0
def sbs (s:ByteArray):List Int:=s.data.toList.map fun c=>(c.toNat:Int)
def k8 (v:Int):List Int:=[56,48,40,32,24,16,8,0].map fun i=>IntKind.u8.wrap (ishr .u64 v i)
def kn (l:List Int):List Int:=l.flatMap k8
def kt (s:ByteArray):List Int:=kn [un s.size]++sbs s
def kRep:Rep->List Int
 | (a,b,c,d,e,f,g)=>kn [uw a,uw b,uw c,uw d,uw e,uw f,uw g]
def kItm:Itm->List Int
 | (t,s)=>kn [uw t]++kt s
def kChk:Chk->List Int
 | (s,l)=>kn [uw s,un l.length]++l.flatMap kItm
def kSrc (x:Int):List Int:=kn [uw x]
def kPar:Par->List Int
 | (a,b)=>kn [uw a,uw b]
def kSli:Sli->List Int
 | (a,b,c)=>kn [uw a,uw b,uw c]
def kEnt:Ent->List Int
 | (a,b)=>kn [uw a,uw b]
def kMet:Met->List Int
 | (a,b,c)=>kn [ub a,uw b,uw c]
def kBlo:Blo->List Int
 | (a,b,l)=>kn [uw a,uw b,un l.length]++l.flatMap kMet
def kSta:Sta->List Int
 | (v,a,b,c,l)=>kn [ub v,uw a,uw b,uw c,un l.length]++l.flatMap kSrc
def kDel:Del->List Int
 | (a,b)=>kn [uw a,uw b]
def kb1 (p:Pk):List Int:=kn [uw p.kind,uw p.sender,uw p.media,p.ntp,uw p.rtp,uw p.packets,uw p.octets,un p.reports.length]++p.reports.flatMap kRep
def kb2 (p:Pk):List Int:=kb1 p++kt (strOfNums p.ext)++kn [un p.chunks.length]++p.chunks.flatMap kChk
def kb3 (p:Pk):List Int:=kb2 p++kn [un p.sources.length]++p.sources.flatMap kSrc
def kb4 (p:Pk):List Int:=kb3 p++kt p.text++kn [uw p.sub]++kt (strOfNums p.data)++kn [un p.pairs.length]++p.pairs.flatMap kPar
def kb5 (p:Pk):List Int:=kb4 p++kn [un p.slices.length]++p.slices.flatMap kSli
def kb6 (p:Pk):List Int:=kb5 p++kn [un p.entries.length]++p.entries.flatMap kEnt
def kb7 (p:Pk):List Int:=kb6 p++kn [uw p.bits,un p.blocks.length]++p.blocks.flatMap kBlo
def kb8 (p:Pk):List Int:=kb7 p++kn [uw p.time,uw p.base,uw p.count,uw p.ref,uw p.fb,un p.statuses.length]++p.statuses.flatMap kSta
def keyB (p:Pk):List Int:=kb8 p++kn [un p.deltas.length]++p.deltas.flatMap kDel
theorem k8_len (v:Int):(k8 v).length=8:=rfl
theorem kn_len:∀l:List Int,(kn l).length=8*l.length
 | []=>rfl
 | x::r=>by
  have:=kn_len r
  unfold kn at this ⊢
  rw [List.flatMap_cons,List.length_append,this,k8_len,List.length_cons]
  omega
theorem sbs_len (s:ByteArray):(sbs s).length=s.size:=by simp [sbs]
theorem kt_len (s:ByteArray):(kt s).length=8+s.size:=by
 unfold kt
 rw [List.length_append,kn_len,sbs_len]
 simp
theorem flat_at {α:Type} {f:α->List Int} {L:List α} {j:Nat} (h:j < L.length):((L.take j).flatMap f).length+((f L[j]).length+((L.drop (j+1)).flatMap f).length)=(L.flatMap f).length:=by
 conv=>rhs;rw [<-List.take_append_drop j L,List.drop_eq_getElem_cons h]
 rw [List.flatMap_append,List.flatMap_cons,List.length_append,List.length_append]
theorem flat_bd {α:Type} {f:α->List Int} {k:Nat} (hk:∀x,(f x).length=k):∀L:List α,(L.flatMap f).length=k*L.length
 | []=>rfl
 | x::r=>by
  rw [List.flatMap_cons,List.length_append,hk,flat_bd hk r,List.length_cons]
  rw [Nat.mul_add];omega
theorem kItm_sz:∀l:List Itm,(l.flatMap kItm).length<=16*isz l
 | []=>Nat.le_refl _
 | (t,s)::r=>by
  have:=kItm_sz r
  rw [List.flatMap_cons,List.length_append]
  simp only [kItm,List.length_append,kn_len,kt_len,isz,List.length_cons,List.length_nil]
  omega
theorem kChk_sz:∀l:List Chk,(l.flatMap kChk).length<=16*csz l
 | []=>Nat.le_refl _
 | (s,i)::r=>by
  have:=kChk_sz r
  have:=kItm_sz i
  rw [List.flatMap_cons,List.length_append]
  simp only [kChk,List.length_append,kn_len,csz,List.length_cons,List.length_nil]
  omega
theorem kMet_len (x:Met):(kMet x).length=24:=by obtain ⟨a,b,c⟩:=x;simp only [kMet,kn_len];rfl
theorem kSrc_len (x:Int):(kSrc x).length=8:=by simp only [kSrc,kn_len];rfl
theorem kBlo_sz:∀l:List Blo,(l.flatMap kBlo).length<=24*bsz l
 | []=>Nat.le_refl _
 | (a,b,i)::r=>by
  have:=kBlo_sz r
  rw [List.flatMap_cons,List.length_append]
  simp only [kBlo,List.length_append,kn_len,bsz,List.length_cons,List.length_nil,flat_bd kMet_len]
  omega
theorem kSta_sz:∀l:List Sta,(l.flatMap kSta).length<=40*ssz l
 | []=>Nat.le_refl _
 | (v,a,b,c,i)::r=>by
  have:=kSta_sz r
  rw [List.flatMap_cons,List.length_append]
  simp only [kSta,List.length_append,kn_len,ssz,List.length_cons,List.length_nil,flat_bd kSrc_len]
  omega
theorem kRep_len (x:Rep):(kRep x).length=56:=by obtain ⟨a,b,c,d,e,f,g⟩:=x;simp only [kRep,kn_len];rfl
theorem kPar_len (x:Par):(kPar x).length=16:=by obtain ⟨a,b⟩:=x;simp only [kPar,kn_len];rfl
theorem kSli_len (x:Sli):(kSli x).length=24:=by obtain ⟨a,b,c⟩:=x;simp only [kSli,kn_len];rfl
theorem kEnt_len (x:Ent):(kEnt x).length=16:=by obtain ⟨a,b⟩:=x;simp only [kEnt,kn_len];rfl
theorem kDel_len (x:Del):(kDel x).length=16:=by obtain ⟨a,b⟩:=x;simp only [kDel,kn_len];rfl
theorem keyB_sz (p:Pk):(keyB p).length<=400+60*p.size:=by
 have h1:=kChk_sz p.chunks
 have h2:=kBlo_sz p.blocks
 have h3:=kSta_sz p.statuses
 have h4:(strOfNums p.ext).size=p.ext.length:=strOfNums_size _
 have h5:(strOfNums p.data).size=p.data.length:=strOfNums_size _
 simp only [keyB,kb8,kb7,kb6,kb5,kb4,kb3,kb2,kb1,List.length_append,kn_len,kt_len,flat_bd kRep_len,flat_bd kSrc_len,flat_bd kPar_len,flat_bd kSli_len,flat_bd kEnt_len,flat_bd kDel_len,List.length_cons,List.length_nil,Pk.size,h4,h5]
 omega
theorem DeepL.i1 {w:World} {G:Nat->Prop} {u:Value} {ds:List Dat} {vs:List Value} (h:DeepL w G (.one u::ds) vs):∃us,vs=u::us/\DeepL w G ds us:=by
 obtain ⟨v,us,rfl,d,D⟩:=h.consInv
 obtain rfl:=d.oneInv
 exact ⟨us,rfl,D⟩
theorem Sat.rowC {F:Fr} {w:World} {ex:List Ex} {ro:List Ro} {b o:Nat} {v:Value} (H:Sat F w ex ro) (h:Ro.cell b o v∈ro):∃c ty f,w.heap[b]?=some (.cells c ty f):=by
 have hc:=(H.hr _ h).1
 unfold World.cell? at hc
 cases hb:w.heap[b]? with
 | none=>simp [hb] at hc
 | some x=>
  cases x with
  | cells c ty f=>exact ⟨c,ty,f,rfl⟩
  | _=>simp [hb] at hc
theorem Sat.ptrC {F:Fr} {w:World} {ex:List Ex} {ro:List Ro} {ds:List Dat} {v:Value} (H:Sat F w ex ro) (h:Ro.deep [.ptr ds] [v]∈ro) :
  ∃b vs ro1,v=.pointer (some ⟨b,0,none⟩)/\DeepL w (fun b=>b ∉ foots ex) ds vs/\(∀(i:Nat) (u:Value),vs[i]?=some u->Ro.cell b i u∈ro1) /\
   (∀(i:Nat) (d:Dat) (u:Value),ds[i]?=some d->vs[i]?=some u->Ro.deep [d] [u]∈ro1)/\(∀r∈ro,r∈ro1)/\Sat F w ex ro1:=by
 obtain ⟨b,vs,rfl,hcell,_,hnb,H1⟩:=H.ptr h
 have D:=H1.deep ms
 refine ⟨b,vs,vs.zipIdx.map (fun q=>Ro.cell b q.2 q.1)++((ds.zip vs).map (fun q=>Ro.deep [q.1] [q.2])++ro),rfl,D,fun i u hu=>?_,fun i d u hd hu=>?_,fun r hr=>?_,⟨H.gr,H.nd,H.lt,H.he,fun r hr=>?_⟩⟩
 ·refine List.mem_append_left _ (List.mem_map.2 ⟨(u,i),?_,rfl⟩)
  exact List.mem_iff_getElem?.2 ⟨i,by rw [List.getElem?_zipIdx,hu];simp⟩
 ·refine List.mem_append_right _ (List.mem_append_left _ (List.mem_map.2 ⟨(d,u),?_,rfl⟩))
  exact List.mem_iff_getElem?.2 ⟨i,by rw [List.getElem?_zip_eq_some];exact ⟨hd,hu⟩⟩
 ·exact List.mem_append_right _ (List.mem_append_right _ hr)
 ·rcases List.mem_append.1 hr with hr | hr
  ·obtain ⟨⟨u,i⟩,hq,rfl⟩:=List.mem_map.1 hr
   obtain ⟨k,hk⟩:=List.mem_iff_getElem?.1 hq
   rw [List.getElem?_zipIdx] at hk
   cases hv:vs[k]? with
   | none=>rw [hv] at hk;cases hk
   | some u'=>
    rw [hv] at hk
    simp only [Option.map_some,Option.some.injEq,Prod.mk.injEq,Nat.zero_add] at hk
    obtain ⟨rfl,rfl⟩:=hk
    exact ⟨hcell k u' hv,hnb⟩
  ·rcases List.mem_append.1 hr with hr | hr
   ·obtain ⟨⟨d,u⟩,hq,rfl⟩:=List.mem_map.1 hr
    obtain ⟨k,hk⟩:=List.mem_iff_getElem?.1 hq
    rw [List.getElem?_zip_eq_some] at hk
    exact dc (D.2 k d u hk.1 hk.2) dn
   ·exact H.hr r hr
def PlPost (F:Fr) (ex:List Ex) (ro:List Ro) (p:Pk) (en:Ending) (w':World):Prop:=
 ∃cells ro',en=.returned (.agg cells.toArray)/\(∀r∈ro,r∈ro')/\Sat F w' ex ro'/\Ro.deep (trim p).dat cells∈ro'
theorem PlPost.mk {F:Fr} {w:World} {exs ex:List Ex} {ro ro':List Ro} {p:Pk} {cells:List Value} (H:Sat F w exs ro') (hs:ex.Sublist exs) (hr:∀r∈ro,r∈ro')
  (hD:∀G:Nat->Prop,(∀r∈ro',Ro.holds w G r)->DeepL w G (trim p).dat cells):PlPost F ex ro p (.returned (.agg cells.toArray)) w:=
 ⟨cells,_,rfl,fun r h=>mt (hr r h),(H.addD hD).sub hs (fun _ h=>h),ms⟩
theorem Sat.pkF {F:Fr} {w:World} {ex:List Ex} {ro:List Ro} {p:Pk} {cells:List Value} (H:Sat F w ex ro) (h:Ro.deep p.dat cells∈ro) :
  ∃a7 a8 a9 a10 a13 a14 a15 a16 a18 a24 a25 c7 c8 c9 c10 c13 c14 c15 c16 c18 c24 c25 R,cells=pkC p a7 a8 a9 a10 a13 a14 a15 a16 a18 a24 a25 c7 c8 c9 c10 c13 c14 c15 c16 c18 c24 c25/\(∀r∈ro,r∈R)/\Sat F w ex R/\Ro.deep [.row 7 (p.reports.flatMap Rep.dat)] [.slice a7 p.reports.length c7]∈R/\Ro.deep [.row 1 (ob p.ext)] [.slice a8 p.ext.length c8]∈R/\Ro.deep [.row 2 (p.chunks.flatMap Chk.dat)] [.slice a9 p.chunks.length c9]∈R/\Ro.deep [.row 1 (oi .u32 p.sources)] [.slice a10 p.sources.length c10]∈R/\Ro.deep [.row 1 (ob p.data)] [.slice a13 p.data.length c13]∈R/\Ro.deep [.row 2 (p.pairs.flatMap Par.dat)] [.slice a14 p.pairs.length c14]∈R/\Ro.deep [.row 3 (p.slices.flatMap Sli.dat)] [.slice a15 p.slices.length c15]∈R/\Ro.deep [.row 2 (p.entries.flatMap Ent.dat)] [.slice a16 p.entries.length c16]∈R/\Ro.deep [.row 3 (p.blocks.flatMap Blo.dat)] [.slice a18 p.blocks.length c18]∈R/\Ro.deep [.row 5 (p.statuses.flatMap Sta.dat)] [.slice a24 p.statuses.length c24]∈R/\Ro.deep [.row 2 (p.deltas.flatMap Del.dat)] [.slice a25 p.deltas.length c25]∈R:=by
 obtain ⟨a7,a8,a9,a10,a13,a14,a15,a16,a18,a24,a25,c7,c8,c9,c10,c13,c14,c15,c16,c18,c24,c25,rfl,H1⟩:=H.pk h
 refine ⟨a7,a8,a9,a10,a13,a14,a15,a16,a18,a24,a25,c7,c8,c9,c10,c13,c14,c15,c16,c18,c24,c25,_,rfl,fun r h=>List.mem_append_right _ h,H1,?_⟩
 unfold pkR
 simp
def BuPost (F:Fr) (ex:List Ex) (ro:List Ro) (p:Pk) (en:Ending) (w':World):Prop:=
 ∃T v ro',en=.returned (.iface T v)/\(∀r∈ro,r∈ro')/\Sat F w' ex ro'/\Ro.deep [pkI p] [.iface T v]∈ro'
theorem BuPost.at {F:Fr} {w:World} {exs ex:List Ex} {ro ro':List Ro} {p:Pk} {T:TypeId} {v:Value} {ds:List Dat} (H:Sat F w exs ro') (hs:ex.Sublist exs) (hr:∀r∈ro,r∈ro') (hm:Ro.deep [.ptr ds] [v]∈ro') (hT:tyK p.kind=T) (hd:rtcpD p=ds) :
  BuPost F ex ro p (.returned (.iface T v)) w:=by
 subst hT hd
 refine ⟨_,_,_,rfl,fun r h=>mt (hr r h),(H.addD (ds:=[pkI p]) (vs:=[.iface (tyK p.kind) v]) (fun G h=>?_)).sub hs (fun _ h=>h),ms⟩
 exact dc (.ifc _ _ _ (h (.deep [_] [_]) hm).head) dn
theorem BuPost.mk {F:Fr} {w:World} {exs ex:List Ex} {ro ro':List Ro} {p:Pk} {T TT:TypeId} {b:Nat} {cells:List Value} {ds:List Dat} (H:Sat F w (.blk b TT cells::exs) ro') (hs:ex.Sublist exs) (hr:∀r∈ro,r∈ro') (hT:tyK p.kind=T) (hd:rtcpD p=ds)
  (hD:∀G:Nat->Prop,(∀r∈ro',Ro.holds w G r)->DeepL w G ds cells):BuPost F ex ro p (.returned (.iface T (.pointer (some ⟨b,0,none⟩)))) w:=
 BuPost.at (H.blkPtr ds hD) hs (fun r h=>mt (hr r h)) ms hT hd
theorem bu0 {F:Fr} {w:World} {ex:List Ex} {ro:List Ro} {p:Pk} {cells:List Value} (H:Sat F w ex ro) (hk:p.kind=0) (hp:Ro.deep p.dat cells∈ro) (hs:p.size<=600000):Calls pg 65 #[.agg cells.toArray] w (BuPost F ex ro p):=by
 have hD:rtcpD p=[.row 1 (ob p.data)]:=by unfold rtcpD;simp [hk]
 have hT:tyK p.kind=242:=by rw [hk];rfl
 unfold Pk.size at hs
 obtain ⟨a7,a8,a9,a10,a13,a14,a15,a16,a18,a24,a25,c7,c8,c9,c10,c13,c14,c15,c16,c18,c24,c25,R,rfl,hr,H,m7,m8,m9,m10,m13,m14,m15,m16,m18,m24,m25⟩:=H.pkF hp
 unfold pkC
 rw [hk]
 apply of65
 refine sNew H ?_;clear H;intro b1 w _ H
 refine ⟨_,(H.b0.at0 rfl),?_⟩
 refine fF ?_
 refine fF ?_
 refine fF ?_
 refine fF ?_
 refine fF ?_
 refine fF ?_
 refine fF ?_
 refine fF ?_
 refine fF ?_
 refine fF ?_
 refine fF ?_
 refine fF ?_
 refine fF ?_
 refine ⟨_,_,_,(H.b0.at0 rfl),?_⟩
 refine call_j (c37 (xs:=p.data) H m13 (by omega)) ?_
 clear H;rintro _ w ⟨o0,q0,rfl,_,H⟩
 refine ⟨_,_,_,rfl,?_⟩
 refine sNew H ?_;clear H;intro b2 w _ H
 refine sSt0 H (by rfl) (by kernel_rfl) (by rfl) (by rfl) ?_;clear H;intro w _ H
 exact BuPost.mk H sl1 (fun r h=>mt (hr r h)) hT hD (fun G h=>(dc (h (.deep [_] [_]) (ms)).head dn))
theorem bu1 {F:Fr} {w:World} {ex:List Ex} {ro:List Ro} {p:Pk} {cells:List Value} (H:Sat F w ex ro) (hk:p.kind=1) (hp:Ro.deep p.dat cells∈ro) (hs:p.size<=600000):Calls pg 65 #[.agg cells.toArray] w (BuPost F ex ro p):=by
 have hD:rtcpD p=[.one (.int .u32 p.sender),.one (.int .u64 p.ntp),.one (.int .u32 p.rtp),.one (.int .u32 p.packets),.one (.int .u32 p.octets),.row 7 (p.reports.flatMap Rep.dat),.row 1 (ob p.ext)]:=by unfold rtcpD;simp [hk]
 have hT:tyK p.kind=190:=by rw [hk];rfl
 unfold Pk.size at hs
 obtain ⟨a7,a8,a9,a10,a13,a14,a15,a16,a18,a24,a25,c7,c8,c9,c10,c13,c14,c15,c16,c18,c24,c25,R,rfl,hr,H,m7,m8,m9,m10,m13,m14,m15,m16,m18,m24,m25⟩:=H.pkF hp
 unfold pkC
 rw [hk]
 apply of65
 refine sNew H ?_;clear H;intro b1 w _ H
 refine ⟨_,(H.b0.at0 rfl),?_⟩
 refine fT ?_
 refine ⟨none,?_⟩;replace H:=H.drew;generalize w.drew=wd1 at H ⊢;have K:=grew_refl wd1 (none)
 refine ⟨nn,H.b0.row,_,(H.b0.at0 rfl),?_⟩
 refine ⟨nn,H.b0.row,_,(H.b0.at0 rfl),?_⟩
 refine ⟨nn,H.b0.row,_,(H.b0.at0 rfl),?_⟩
 refine ⟨nn,H.b0.row,_,(H.b0.at0 rfl),?_⟩
 refine ⟨nn,H.b0.row,_,(H.b0.at0 rfl),?_⟩
 refine ⟨nn,H.b0.row,_,_,_,(H.b0.at0 rfl),?_⟩
 refine ⟨nn,H.b0.row,_,_,_,(H.b0.at0 rfl),?_⟩
 obtain ⟨ex2,S,back⟩:=H.still
 refine call_j (c96 S (m7) (by omega)) ?_
 clear H;rintro _ w ⟨o7,q7,rfl,S⟩
 obtain ⟨g,H⟩:=back w _ S
 clear S back
 replace K:=gtr K g;clear g
 refine ⟨_,_,_,rfl,K,?_⟩
 refine call_j (c37 (xs:=p.ext) H (mt (m8)) (by omega)) ?_
 clear H;rintro _ w ⟨o8,q8,rfl,g,H⟩
 replace K:=gtr K g;clear g
 refine ⟨_,_,_,rfl,K,?_⟩
 refine sNew H ?_;clear H;intro b2 w g H;replace K:=gtr K (grew_none _ g);clear g
 refine ⟨K,?_⟩
 exact BuPost.mk H sl1 (fun r h=>mt (mt (hr r h))) hT hD (fun G h=>(dc (.one _) (dc (.one _) (dc (.one _) (dc (.one _) (dc (.one _) (dc (h (.deep [_] [_]) (mt (ms))).head (dc (h (.deep [_] [_]) (ms)).head dn))))))))
theorem bu2 {F:Fr} {w:World} {ex:List Ex} {ro:List Ro} {p:Pk} {cells:List Value} (H:Sat F w ex ro) (hk:p.kind=2) (hp:Ro.deep p.dat cells∈ro) (hs:p.size<=600000):Calls pg 65 #[.agg cells.toArray] w (BuPost F ex ro p):=by
 have hD:rtcpD p=[.one (.int .u32 p.sender),.row 7 (p.reports.flatMap Rep.dat),.row 1 (ob p.ext)]:=by unfold rtcpD;simp [hk]
 have hT:tyK p.kind=195:=by rw [hk];rfl
 unfold Pk.size at hs
 obtain ⟨a7,a8,a9,a10,a13,a14,a15,a16,a18,a24,a25,c7,c8,c9,c10,c13,c14,c15,c16,c18,c24,c25,R,rfl,hr,H,m7,m8,m9,m10,m13,m14,m15,m16,m18,m24,m25⟩:=H.pkF hp
 unfold pkC
 rw [hk]
 apply of65
 refine sNew H ?_;clear H;intro b1 w _ H
 refine ⟨_,(H.b0.at0 rfl),?_⟩
 refine fF ?_
 refine fT ?_
 refine ⟨none,?_⟩;replace H:=H.drew;generalize w.drew=wd1 at H ⊢;have K:=grew_refl wd1 (none)
 refine ⟨nn,H.b0.row,_,(H.b0.at0 rfl),?_⟩
 refine ⟨nn,H.b0.row,_,_,_,(H.b0.at0 rfl),?_⟩
 refine ⟨nn,H.b0.row,_,_,_,(H.b0.at0 rfl),?_⟩
 obtain ⟨ex2,S,back⟩:=H.still
 refine call_j (c96 S (m7) (by omega)) ?_
 clear H;rintro _ w ⟨o7,q7,rfl,S⟩
 obtain ⟨g,H⟩:=back w _ S
 clear S back
 replace K:=gtr K g;clear g
 refine ⟨_,_,_,rfl,K,?_⟩
 refine call_j (c37 (xs:=p.ext) H (mt (m8)) (by omega)) ?_
 clear H;rintro _ w ⟨o8,q8,rfl,g,H⟩
 replace K:=gtr K g;clear g
 refine ⟨_,_,_,rfl,K,?_⟩
 refine sNew H ?_;clear H;intro b2 w g H;replace K:=gtr K (grew_none _ g);clear g
 refine ⟨K,?_⟩
 exact BuPost.mk H sl1 (fun r h=>mt (mt (hr r h))) hT hD (fun G h=>(dc (.one _) (dc (h (.deep [_] [_]) (mt (ms))).head (dc (h (.deep [_] [_]) (ms)).head dn))))
theorem bu3 {F:Fr} {w:World} {ex:List Ex} {ro:List Ro} {p:Pk} {cells:List Value} (H:Sat F w ex ro) (hk:p.kind=3) (hp:Ro.deep p.dat cells∈ro) (hs:p.size<=600000):Calls pg 65 #[.agg cells.toArray] w (BuPost F ex ro p):=by
 have hD:rtcpD p=[.row 2 (p.chunks.flatMap Chk.dat)]:=by unfold rtcpD;simp [hk]
 have hT:tyK p.kind=198:=by rw [hk];rfl
 unfold Pk.size at hs
 have hcl:=csz_len p.chunks
 have hcm:=csz_mem p.chunks
 obtain ⟨a7,a8,a9,a10,a13,a14,a15,a16,a18,a24,a25,c7,c8,c9,c10,c13,c14,c15,c16,c18,c24,c25,R,rfl,hr,H,m7,m8,m9,m10,m13,m14,m15,m16,m18,m24,m25⟩:=H.pkF hp
 unfold pkC
 rw [hk]
 apply of65
 refine sNew H ?_;clear H;intro b1 w _ H
 refine ⟨_,(H.b0.at0 rfl),?_⟩
 refine fF ?_
 refine fF ?_
 refine fT ?_
 refine ⟨_,_,_,(H.b0.at0 rfl),?_⟩
 refine call_j (c97 H m9 (by omega) (fun B hB=>by have:=hcm B hB;omega)) ?_
 clear H;rintro _ w ⟨b2,rfl,H⟩
 refine ⟨_,rfl,?_⟩
 exact BuPost.at H sl1 (fun r h=>mt (hr r h)) ms hT hD
theorem bu4 {F:Fr} {w:World} {ex:List Ex} {ro:List Ro} {p:Pk} {cells:List Value} (H:Sat F w ex ro) (hk:p.kind=4) (hp:Ro.deep p.dat cells∈ro) (hs:p.size<=600000):Calls pg 65 #[.agg cells.toArray] w (BuPost F ex ro p):=by
 have hD:rtcpD p=[.row 1 (oi .u32 p.sources),.one (.string p.text)]:=by unfold rtcpD;simp [hk]
 have hT:tyK p.kind=200:=by rw [hk];rfl
 unfold Pk.size at hs
 obtain ⟨a7,a8,a9,a10,a13,a14,a15,a16,a18,a24,a25,c7,c8,c9,c10,c13,c14,c15,c16,c18,c24,c25,R,rfl,hr,H,m7,m8,m9,m10,m13,m14,m15,m16,m18,m24,m25⟩:=H.pkF hp
 unfold pkC
 rw [hk]
 apply of65
 refine sNew H ?_;clear H;intro b1 w _ H
 refine ⟨_,(H.b0.at0 rfl),?_⟩
 refine fF ?_
 refine fF ?_
 refine fF ?_
 refine fT ?_
 refine ⟨none,?_⟩;replace H:=H.drew;generalize w.drew=wd1 at H ⊢;have K:=grew_refl wd1 (none)
 refine ⟨nn,H.b0.row,_,_,_,(H.b0.at0 rfl),?_⟩
 refine ⟨nn,H.b0.row,_,(H.b0.at0 rfl),?_⟩
 refine call_j (c98 H (m10) (by omega)) ?_
 clear H;rintro _ w ⟨o10,q10,rfl,g,H⟩
 replace K:=gtr K g;clear g
 refine ⟨_,_,_,rfl,K,?_⟩
 refine sNew H ?_;clear H;intro b2 w g H;replace K:=gtr K (grew_none _ g);clear g
 refine ⟨K,?_⟩
 exact BuPost.mk H sl1 (fun r h=>mt (hr r h)) hT hD (fun G h=>(dc (h (.deep [_] [_]) (ms)).head (dc (.one _) dn)))
theorem bu5 {F:Fr} {w:World} {ex:List Ex} {ro:List Ro} {p:Pk} {cells:List Value} (H:Sat F w ex ro) (hk:p.kind=5) (hp:Ro.deep p.dat cells∈ro) (hs:p.size<=600000):Calls pg 65 #[.agg cells.toArray] w (BuPost F ex ro p):=by
 have hD:rtcpD p=[.one (.int .u8 p.sub),.one (.int .u32 p.sender),.one (.string p.text),.row 1 (ob p.data)]:=by unfold rtcpD;simp [hk]
 have hT:tyK p.kind=204:=by rw [hk];rfl
 unfold Pk.size at hs
 obtain ⟨a7,a8,a9,a10,a13,a14,a15,a16,a18,a24,a25,c7,c8,c9,c10,c13,c14,c15,c16,c18,c24,c25,R,rfl,hr,H,m7,m8,m9,m10,m13,m14,m15,m16,m18,m24,m25⟩:=H.pkF hp
 unfold pkC
 rw [hk]
 apply of65
 refine sNew H ?_;clear H;intro b1 w _ H
 refine ⟨_,(H.b0.at0 rfl),?_⟩
 refine fF ?_
 refine fF ?_
 refine fF ?_
 refine fF ?_
 refine fT ?_
 refine ⟨none,?_⟩;replace H:=H.drew;generalize w.drew=wd1 at H ⊢;have K:=grew_refl wd1 (none)
 refine ⟨nn,H.b0.row,_,(H.b0.at0 rfl),?_⟩
 refine ⟨nn,H.b0.row,_,(H.b0.at0 rfl),?_⟩
 refine ⟨nn,H.b0.row,_,(H.b0.at0 rfl),?_⟩
 refine ⟨nn,H.b0.row,_,_,_,(H.b0.at0 rfl),?_⟩
 refine call_j (c37 (xs:=p.data) H (m13) (by omega)) ?_
 clear H;rintro _ w ⟨o13,q13,rfl,g,H⟩
 replace K:=gtr K g;clear g
 refine ⟨_,_,_,rfl,K,?_⟩
 refine sNew H ?_;clear H;intro b2 w g H;replace K:=gtr K (grew_none _ g);clear g
 refine ⟨K,?_⟩
 exact BuPost.mk H sl1 (fun r h=>mt (hr r h)) hT hD (fun G h=>(dc (.one _) (dc (.one _) (dc (.one _) (dc (h (.deep [_] [_]) (ms)).head dn)))))
theorem bu6 {F:Fr} {w:World} {ex:List Ex} {ro:List Ro} {p:Pk} {cells:List Value} (H:Sat F w ex ro) (hk:p.kind=6) (hp:Ro.deep p.dat cells∈ro) (hs:p.size<=600000):Calls pg 65 #[.agg cells.toArray] w (BuPost F ex ro p):=by
 have hD:rtcpD p=[.one (.int .u32 p.sender),.one (.int .u32 p.media),.row 2 (p.pairs.flatMap Par.dat)]:=by unfold rtcpD;simp [hk]
 have hT:tyK p.kind=207:=by rw [hk];rfl
 unfold Pk.size at hs
 obtain ⟨a7,a8,a9,a10,a13,a14,a15,a16,a18,a24,a25,c7,c8,c9,c10,c13,c14,c15,c16,c18,c24,c25,R,rfl,hr,H,m7,m8,m9,m10,m13,m14,m15,m16,m18,m24,m25⟩:=H.pkF hp
 unfold pkC
 rw [hk]
 apply of65
 refine sNew H ?_;clear H;intro b1 w _ H
 refine ⟨_,(H.b0.at0 rfl),?_⟩
 refine fF ?_
 refine fF ?_
 refine fF ?_
 refine fF ?_
 refine fF ?_
 refine fT ?_
 refine ⟨_,(H.b0.at0 rfl),?_⟩
 refine ⟨_,(H.b0.at0 rfl),?_⟩
 refine sNew H ?_;clear H;intro b2 w _ H
 refine ⟨_,_,_,(H.b1.at0 rfl),?_⟩
 have H0:=H;clear H
 obtain ⟨CC,hCC⟩:∃CC:List Value,CC=(pkC p a7 a8 a9 a10 a13 a14 a15 a16 a18 a24 a25 c7 c8 c9 c10 c13 c14 c15 c16 c18 c24 c25).set 0 (.int .i64 6):=⟨_,rfl⟩
 have H:Sat F w (.blk b2 210 [.int .u32 p.sender,.int .u32 p.media,.slice none 0 0]::.blk b1 75 CC::ex) R:=by rw [hCC];exact H0
 clear H0
 refine ⟨fun x m w=>∃(j:Nat) (o:Option Addr) (oc:Nat) (r:Option Nat),x=(j:Int)/\j+m=p.pairs.length/\Sat F w (.blk b2 210 [.int .u32 p.sender,.int .u32 p.media,.slice o j oc]::.own 213 2 o j oc r ((p.pairs.take j).flatMap Par.dat)::.blk b1 75 CC::ex) R,⟨p.pairs.length,0,none,0,none,rfl,by omega,(H.nilOwn 213 2).u1⟩,?_⟩
 clear H;rintro dd x m w ⟨j,o,oc,r,rfl,hjm,H⟩
 refine ⟨fun hc=>?_,fun hc=>?_⟩
 ·rw [decide_eq_true_eq] at hc
  have hjl:j < p.pairs.length:=by omega
  obtain ⟨q,us,e,hus,hcell,H1⟩:=H.eltF Par.dat_lenK (by decide) m14 (j:=j) hjl
  have htk:p.pairs.take (j+1)=p.pairs.take j++[p.pairs[j]]:=by rw [List.take_add_one,List.getElem?_eq_getElem hjl];rfl
  clear H
  generalize p.pairs[j]=E at H1 htk
  obtain ⟨e0,e1⟩:=E
  refine ⟨q,e,by omega,by omega,?_⟩
  obtain rfl:=H1.ones (us:=[.int .u16 e0,.int .u16 e1]) ms
  refine ⟨_,_,LdC [.int .u16 e0,.int .u16 e1] (by kernel_rfl) (by rw [show (j:Int).toNat*2=j*2 by omega];exact hcell),?_⟩
  have H:=H1
  clear H1 hcell
  refine sNew H ?_;clear H;intro b3 w _ H
  refine sSw0 H rfl (by kernel_rfl) (by rfl) (by rfl) ?_;clear H;intro w _ H
  refine ⟨r,?_⟩;replace H:=H.drew;generalize w.drew=wd1 at H ⊢;have K:=grew_refl wd1 (r)
  refine ⟨_,rfl,?_⟩
  refine ⟨(H.ne (mt ms) (mt (mt ms))),H.b1.row,_,_,_,(H.b1.at0 rfl),?_⟩
  refine ⟨(H.ne ms (mt (mt ms))),H.b0.row,_,(H.b0.at0 rfl),?_⟩
  refine ⟨(H.ne ms (mt (mt ms))),H.b0.row,_,(H.b0.at0 rfl),?_⟩
  refine ⟨rfl,?_⟩
  refine sNew H ?_;clear H;intro b4 w g H;replace K:=gtr K (grew_none _ g);clear g
  refine ⟨K,?_⟩
  refine sApp3 H (bytes:=4) (by kernel_rfl) [.int .u16 e0,.int .u16 e1] (Par.dat (e0,e1)) (by rfl) (fun j u hu=>by rw [add_flat,Nat.zero_add];exact H.b0.cell hu) (fun G h=>DeepL.ones [_,_]) (by simp [Value.oneCell']) (by unfold maxLen;omega) (by omega) ?_
  clear H;intro o3 ol3 oc3 r3 w ex3 g H
  replace K:=gtr K g;clear g;replace H:=H.d1
  refine ⟨K,?_⟩
  refine ⟨_,rfl,?_⟩
  refine sSt1 H (by exact add_flat _ _ _) (by kernel_rfl) (by rfl) (by rfl) ?_;clear H;intro w _ H
  subst ex3
  refine ⟨m - 1,by omega,j+1,o3,oc3,r3,?_,by omega,?_⟩
  ·rw [wi64_of (by omega) (by omega)];simp
  ·rw [htk,List.flatMap_append]
   simp only [fm1,fm2,fm3]
   exact H.sub (sc1) (fun r h=>mt h)
 ·rw [decide_eq_false_iff_not] at hc
  obtain rfl:j=p.pairs.length:=by omega
  rw [List.take_length] at H
  replace H:=H.r1.freeze
  exact BuPost.mk H sl1 (fun r h=>mt (hr r h)) hT hD (fun G h=>(dc (.one _) (dc (.one _) (dc (h (.deep [_] [_]) (ms)).head dn))))
theorem bu7 {F:Fr} {w:World} {ex:List Ex} {ro:List Ro} {p:Pk} {cells:List Value} (H:Sat F w ex ro) (hk:p.kind=7) (hp:Ro.deep p.dat cells∈ro) (hs:p.size<=600000):Calls pg 65 #[.agg cells.toArray] w (BuPost F ex ro p):=by
 have hD:rtcpD p=[.one (.int .u32 p.sender),.one (.int .u32 p.media)]:=by unfold rtcpD;simp [hk]
 have hT:tyK p.kind=214:=by rw [hk];rfl
 unfold Pk.size at hs
 obtain ⟨a7,a8,a9,a10,a13,a14,a15,a16,a18,a24,a25,c7,c8,c9,c10,c13,c14,c15,c16,c18,c24,c25,R,rfl,hr,H,m7,m8,m9,m10,m13,m14,m15,m16,m18,m24,m25⟩:=H.pkF hp
 unfold pkC
 rw [hk]
 apply of65
 refine sNew H ?_;clear H;intro b1 w _ H
 refine ⟨_,(H.b0.at0 rfl),?_⟩
 refine fF ?_
 refine fF ?_
 refine fF ?_
 refine fF ?_
 refine fF ?_
 refine fF ?_
 refine fT ?_
 refine ⟨_,(H.b0.at0 rfl),?_⟩
 refine ⟨_,(H.b0.at0 rfl),?_⟩
 refine sNew H ?_;clear H;intro b2 w _ H
 exact BuPost.mk H sl1 (fun r h=>hr r h) hT hD (fun G h=>(dc (.one _) (dc (.one _) dn)))
theorem bu8 {F:Fr} {w:World} {ex:List Ex} {ro:List Ro} {p:Pk} {cells:List Value} (H:Sat F w ex ro) (hk:p.kind=8) (hp:Ro.deep p.dat cells∈ro) (hs:p.size<=600000):Calls pg 65 #[.agg cells.toArray] w (BuPost F ex ro p):=by
 have hD:rtcpD p=[.one (.int .u32 p.sender),.row 3 (p.blocks.flatMap Blo.dat),.one (.int .u32 p.time)]:=by unfold rtcpD;simp [hk]
 have hT:tyK p.kind=217:=by rw [hk];rfl
 unfold Pk.size at hs
 have hcl:=bsz_len p.blocks
 have hcm:=bsz_mem p.blocks
 obtain ⟨a7,a8,a9,a10,a13,a14,a15,a16,a18,a24,a25,c7,c8,c9,c10,c13,c14,c15,c16,c18,c24,c25,R,rfl,hr,H,m7,m8,m9,m10,m13,m14,m15,m16,m18,m24,m25⟩:=H.pkF hp
 unfold pkC
 rw [hk]
 apply of65
 refine sNew H ?_;clear H;intro b1 w _ H
 refine ⟨_,(H.b0.at0 rfl),?_⟩
 refine fF ?_
 refine fF ?_
 refine fF ?_
 refine fF ?_
 refine fF ?_
 refine fF ?_
 refine fF ?_
 refine fT ?_
 refine ⟨none,?_⟩;replace H:=H.drew;generalize w.drew=wd1 at H ⊢;have K:=grew_refl wd1 (none)
 refine ⟨nn,H.b0.row,_,(H.b0.at0 rfl),?_⟩
 refine ⟨nn,H.b0.row,_,_,_,(H.b0.at0 rfl),?_⟩
 refine ⟨nn,H.b0.row,_,(H.b0.at0 rfl),?_⟩
 obtain ⟨ex2,S,back⟩:=H.still
 refine call_j (c99 S (m18) (by omega) (fun B hB=>by have:=hcm B hB;omega)) ?_
 clear H;rintro _ w ⟨o18,q18,rfl,S⟩
 obtain ⟨g,H⟩:=back w _ S
 clear S back
 replace K:=gtr K g;clear g
 refine ⟨_,_,_,rfl,K,?_⟩
 refine sNew H ?_;clear H;intro b2 w g H;replace K:=gtr K (grew_none _ g);clear g
 refine ⟨K,?_⟩
 exact BuPost.mk H sl1 (fun r h=>mt (hr r h)) hT hD (fun G h=>(dc (.one _) (dc (h (.deep [_] [_]) (ms)).head (dc (.one _) dn))))
theorem bu9 {F:Fr} {w:World} {ex:List Ex} {ro:List Ro} {p:Pk} {cells:List Value} (H:Sat F w ex ro) (hk:p.kind=9) (hp:Ro.deep p.dat cells∈ro) (hs:p.size<=600000):Calls pg 65 #[.agg cells.toArray] w (BuPost F ex ro p):=by
 have hD:rtcpD p=[.one (.int .u32 p.sender),.one (.int .u32 p.media)]:=by unfold rtcpD;simp [hk]
 have hT:tyK p.kind=222:=by rw [hk];rfl
 unfold Pk.size at hs
 obtain ⟨a7,a8,a9,a10,a13,a14,a15,a16,a18,a24,a25,c7,c8,c9,c10,c13,c14,c15,c16,c18,c24,c25,R,rfl,hr,H,m7,m8,m9,m10,m13,m14,m15,m16,m18,m24,m25⟩:=H.pkF hp
 unfold pkC
 rw [hk]
 apply of65
 refine sNew H ?_;clear H;intro b1 w _ H
 refine ⟨_,(H.b0.at0 rfl),?_⟩
 refine fF ?_
 refine fF ?_
 refine fF ?_
 refine fF ?_
 refine fF ?_
 refine fF ?_
 refine fF ?_
 refine fF ?_
 refine fT ?_
 refine ⟨_,(H.b0.at0 rfl),?_⟩
 refine ⟨_,(H.b0.at0 rfl),?_⟩
 refine sNew H ?_;clear H;intro b2 w _ H
 exact BuPost.mk H sl1 (fun r h=>hr r h) hT hD (fun G h=>(dc (.one _) (dc (.one _) dn)))
theorem bu10 {F:Fr} {w:World} {ex:List Ex} {ro:List Ro} {p:Pk} {cells:List Value} (H:Sat F w ex ro) (hk:p.kind=10) (hp:Ro.deep p.dat cells∈ro) (hs:p.size<=600000):Calls pg 65 #[.agg cells.toArray] w (BuPost F ex ro p):=by
 have hD:rtcpD p=[.one (.int .u32 p.sender),.one (.int .u32 p.media),.row 3 (p.slices.flatMap Sli.dat)]:=by unfold rtcpD;simp [hk]
 have hT:tyK p.kind=224:=by rw [hk];rfl
 unfold Pk.size at hs
 obtain ⟨a7,a8,a9,a10,a13,a14,a15,a16,a18,a24,a25,c7,c8,c9,c10,c13,c14,c15,c16,c18,c24,c25,R,rfl,hr,H,m7,m8,m9,m10,m13,m14,m15,m16,m18,m24,m25⟩:=H.pkF hp
 unfold pkC
 rw [hk]
 apply of65
 refine sNew H ?_;clear H;intro b1 w _ H
 refine ⟨_,(H.b0.at0 rfl),?_⟩
 refine fF ?_
 refine fF ?_
 refine fF ?_
 refine fF ?_
 refine fF ?_
 refine fF ?_
 refine fF ?_
 refine fF ?_
 refine fF ?_
 refine fT ?_
 refine ⟨_,(H.b0.at0 rfl),?_⟩
 refine ⟨_,(H.b0.at0 rfl),?_⟩
 refine sNew H ?_;clear H;intro b2 w _ H
 refine ⟨_,_,_,(H.b1.at0 rfl),?_⟩
 have H0:=H;clear H
 obtain ⟨CC,hCC⟩:∃CC:List Value,CC=(pkC p a7 a8 a9 a10 a13 a14 a15 a16 a18 a24 a25 c7 c8 c9 c10 c13 c14 c15 c16 c18 c24 c25).set 0 (.int .i64 10):=⟨_,rfl⟩
 have H:Sat F w (.blk b2 227 [.int .u32 p.sender,.int .u32 p.media,.slice none 0 0]::.blk b1 75 CC::ex) R:=by rw [hCC];exact H0
 clear H0
 refine ⟨fun x m w=>∃(j:Nat) (o:Option Addr) (oc:Nat) (r:Option Nat),x=(j:Int)/\j+m=p.slices.length/\Sat F w (.blk b2 227 [.int .u32 p.sender,.int .u32 p.media,.slice o j oc]::.own 228 3 o j oc r ((p.slices.take j).flatMap Sli.dat)::.blk b1 75 CC::ex) R,⟨p.slices.length,0,none,0,none,rfl,by omega,(H.nilOwn 228 3).u1⟩,?_⟩
 clear H;rintro dd x m w ⟨j,o,oc,r,rfl,hjm,H⟩
 refine ⟨fun hc=>?_,fun hc=>?_⟩
 ·rw [decide_eq_true_eq] at hc
  have hjl:j < p.slices.length:=by omega
  obtain ⟨q,us,e,hus,hcell,H1⟩:=H.eltF Sli.dat_lenK (by decide) m15 (j:=j) hjl
  have htk:p.slices.take (j+1)=p.slices.take j++[p.slices[j]]:=by rw [List.take_add_one,List.getElem?_eq_getElem hjl];rfl
  clear H
  generalize p.slices[j]=E at H1 htk
  obtain ⟨e0,e1,e2⟩:=E
  refine ⟨q,e,by omega,by omega,?_⟩
  obtain rfl:=H1.ones (us:=[.int .u16 e0,.int .u16 e1,.int .u8 e2]) ms
  refine ⟨_,_,_,LdC [.int .u16 e0,.int .u16 e1,.int .u8 e2] (by kernel_rfl) (by rw [show (j:Int).toNat*3=j*3 by omega];exact hcell),?_⟩
  have H:=H1
  clear H1 hcell
  refine sNew H ?_;clear H;intro b3 w _ H
  refine sSw0 H rfl (by kernel_rfl) (by rfl) (by rfl) ?_;clear H;intro w _ H
  refine ⟨r,?_⟩;replace H:=H.drew;generalize w.drew=wd1 at H ⊢;have K:=grew_refl wd1 (r)
  refine ⟨_,rfl,?_⟩
  refine ⟨(H.ne (mt ms) (mt (mt ms))),H.b1.row,_,_,_,(H.b1.at0 rfl),?_⟩
  refine ⟨(H.ne ms (mt (mt ms))),H.b0.row,_,(H.b0.at0 rfl),?_⟩
  refine ⟨(H.ne ms (mt (mt ms))),H.b0.row,_,(H.b0.at0 rfl),?_⟩
  refine ⟨(H.ne ms (mt (mt ms))),H.b0.row,_,(H.b0.at0 rfl),?_⟩
  refine ⟨rfl,?_⟩
  refine sNew H ?_;clear H;intro b4 w g H;replace K:=gtr K (grew_none _ g);clear g
  refine ⟨K,?_⟩
  refine sApp3 H (bytes:=6) (by kernel_rfl) [.int .u16 e0,.int .u16 e1,.int .u8 e2] (Sli.dat (e0,e1,e2)) (by rfl) (fun j u hu=>by rw [add_flat,Nat.zero_add];exact H.b0.cell hu) (fun G h=>DeepL.ones [_,_,_]) (by simp [Value.oneCell']) (by unfold maxLen;omega) (by omega) ?_
  clear H;intro o3 ol3 oc3 r3 w ex3 g H
  replace K:=gtr K g;clear g;replace H:=H.d1
  refine ⟨K,?_⟩
  refine ⟨_,rfl,?_⟩
  refine sSt1 H (by exact add_flat _ _ _) (by kernel_rfl) (by rfl) (by rfl) ?_;clear H;intro w _ H
  subst ex3
  refine ⟨m - 1,by omega,j+1,o3,oc3,r3,?_,by omega,?_⟩
  ·rw [wi64_of (by omega) (by omega)];simp
  ·rw [htk,List.flatMap_append]
   simp only [fm1,fm2,fm3]
   exact H.sub (sc1) (fun r h=>mt h)
 ·rw [decide_eq_false_iff_not] at hc
  obtain rfl:j=p.slices.length:=by omega
  rw [List.take_length] at H
  replace H:=H.r1.freeze
  exact BuPost.mk H sl1 (fun r h=>mt (hr r h)) hT hD (fun G h=>(dc (.one _) (dc (.one _) (dc (h (.deep [_] [_]) (ms)).head dn))))
theorem bu11 {F:Fr} {w:World} {ex:List Ex} {ro:List Ro} {p:Pk} {cells:List Value} (H:Sat F w ex ro) (hk:p.kind=11) (hp:Ro.deep p.dat cells∈ro) (hs:p.size<=600000):Calls pg 65 #[.agg cells.toArray] w (BuPost F ex ro p):=by
 have hD:rtcpD p=[.one (.int .u32 p.sender),.one (.int .u32 p.media),.row 2 (p.entries.flatMap Ent.dat)]:=by unfold rtcpD;simp [hk]
 have hT:tyK p.kind=229:=by rw [hk];rfl
 unfold Pk.size at hs
 obtain ⟨a7,a8,a9,a10,a13,a14,a15,a16,a18,a24,a25,c7,c8,c9,c10,c13,c14,c15,c16,c18,c24,c25,R,rfl,hr,H,m7,m8,m9,m10,m13,m14,m15,m16,m18,m24,m25⟩:=H.pkF hp
 unfold pkC
 rw [hk]
 apply of65
 refine sNew H ?_;clear H;intro b1 w _ H
 refine ⟨_,(H.b0.at0 rfl),?_⟩
 refine fF ?_
 refine fF ?_
 refine fF ?_
 refine fF ?_
 refine fF ?_
 refine fF ?_
 refine fF ?_
 refine fF ?_
 refine fF ?_
 refine fF ?_
 refine fT ?_
 refine ⟨_,(H.b0.at0 rfl),?_⟩
 refine ⟨_,(H.b0.at0 rfl),?_⟩
 refine sNew H ?_;clear H;intro b2 w _ H
 refine ⟨_,_,_,(H.b1.at0 rfl),?_⟩
 have H0:=H;clear H
 obtain ⟨CC,hCC⟩:∃CC:List Value,CC=(pkC p a7 a8 a9 a10 a13 a14 a15 a16 a18 a24 a25 c7 c8 c9 c10 c13 c14 c15 c16 c18 c24 c25).set 0 (.int .i64 11):=⟨_,rfl⟩
 have H:Sat F w (.blk b2 232 [.int .u32 p.sender,.int .u32 p.media,.slice none 0 0]::.blk b1 75 CC::ex) R:=by rw [hCC];exact H0
 clear H0
 refine ⟨fun x m w=>∃(j:Nat) (o:Option Addr) (oc:Nat) (r:Option Nat),x=(j:Int)/\j+m=p.entries.length/\Sat F w (.blk b2 232 [.int .u32 p.sender,.int .u32 p.media,.slice o j oc]::.own 234 2 o j oc r ((p.entries.take j).flatMap Ent.dat)::.blk b1 75 CC::ex) R,⟨p.entries.length,0,none,0,none,rfl,by omega,(H.nilOwn 234 2).u1⟩,?_⟩
 clear H;rintro dd x m w ⟨j,o,oc,r,rfl,hjm,H⟩
 refine ⟨fun hc=>?_,fun hc=>?_⟩
 ·rw [decide_eq_true_eq] at hc
  have hjl:j < p.entries.length:=by omega
  obtain ⟨q,us,e,hus,hcell,H1⟩:=H.eltF Ent.dat_lenK (by decide) m16 (j:=j) hjl
  have htk:p.entries.take (j+1)=p.entries.take j++[p.entries[j]]:=by rw [List.take_add_one,List.getElem?_eq_getElem hjl];rfl
  clear H
  generalize p.entries[j]=E at H1 htk
  obtain ⟨e0,e1⟩:=E
  refine ⟨q,e,by omega,by omega,?_⟩
  obtain rfl:=H1.ones (us:=[.int .u32 e0,.int .u8 e1]) ms
  refine ⟨_,_,LdC [.int .u32 e0,.int .u8 e1] (by kernel_rfl) (by rw [show (j:Int).toNat*2=j*2 by omega];exact hcell),?_⟩
  have H:=H1
  clear H1 hcell
  refine sNew H ?_;clear H;intro b3 w _ H
  refine sSw0 H rfl (by kernel_rfl) (by rfl) (by rfl) ?_;clear H;intro w _ H
  refine ⟨r,?_⟩;replace H:=H.drew;generalize w.drew=wd1 at H ⊢;have K:=grew_refl wd1 (r)
  refine ⟨_,rfl,?_⟩
  refine ⟨(H.ne (mt ms) (mt (mt ms))),H.b1.row,_,_,_,(H.b1.at0 rfl),?_⟩
  refine ⟨(H.ne ms (mt (mt ms))),H.b0.row,_,(H.b0.at0 rfl),?_⟩
  refine ⟨(H.ne ms (mt (mt ms))),H.b0.row,_,(H.b0.at0 rfl),?_⟩
  refine ⟨rfl,?_⟩
  refine sNew H ?_;clear H;intro b4 w g H;replace K:=gtr K (grew_none _ g);clear g
  refine ⟨K,?_⟩
  refine sApp3 H (bytes:=8) (by kernel_rfl) [.int .u32 e0,.int .u8 e1] (Ent.dat (e0,e1)) (by rfl) (fun j u hu=>by rw [add_flat,Nat.zero_add];exact H.b0.cell hu) (fun G h=>DeepL.ones [_,_]) (by simp [Value.oneCell']) (by unfold maxLen;omega) (by omega) ?_
  clear H;intro o3 ol3 oc3 r3 w ex3 g H
  replace K:=gtr K g;clear g;replace H:=H.d1
  refine ⟨K,?_⟩
  refine ⟨_,rfl,?_⟩
  refine sSt1 H (by exact add_flat _ _ _) (by kernel_rfl) (by rfl) (by rfl) ?_;clear H;intro w _ H
  subst ex3
  refine ⟨m - 1,by omega,j+1,o3,oc3,r3,?_,by omega,?_⟩
  ·rw [wi64_of (by omega) (by omega)];simp
  ·rw [htk,List.flatMap_append]
   simp only [fm1,fm2,fm3]
   exact H.sub (sc1) (fun r h=>mt h)
 ·rw [decide_eq_false_iff_not] at hc
  obtain rfl:j=p.entries.length:=by omega
  rw [List.take_length] at H
  replace H:=H.r1.freeze
  exact BuPost.mk H sl1 (fun r h=>mt (hr r h)) hT hD (fun G h=>(dc (.one _) (dc (.one _) (dc (h (.deep [_] [_]) (ms)).head dn))))
theorem bu12 {F:Fr} {w:World} {ex:List Ex} {ro:List Ro} {p:Pk} {cells:List Value} (H:Sat F w ex ro) (hk:p.kind=12) (hp:Ro.deep p.dat cells∈ro) (hs:p.size<=600000) (hbits:0<=p.bits/\p.bits < 4294967296):Calls pg 65 #[.agg cells.toArray] w (BuPost F ex ro p):=by
 have hD:rtcpD p=[.one (.int .u32 p.sender),.one (.float .f32 p.bits.toNat),.row 1 (oi .u32 p.sources)]:=by unfold rtcpD;simp [hk]
 have hT:tyK p.kind=235:=by rw [hk];rfl
 unfold Pk.size at hs
 obtain ⟨a7,a8,a9,a10,a13,a14,a15,a16,a18,a24,a25,c7,c8,c9,c10,c13,c14,c15,c16,c18,c24,c25,R,rfl,hr,H,m7,m8,m9,m10,m13,m14,m15,m16,m18,m24,m25⟩:=H.pkF hp
 unfold pkC
 rw [hk]
 apply of65
 refine sNew H ?_;clear H;intro b1 w _ H
 refine ⟨_,(H.b0.at0 rfl),?_⟩
 refine fF ?_
 refine fF ?_
 refine fF ?_
 refine fF ?_
 refine fF ?_
 refine fF ?_
 refine fF ?_
 refine fF ?_
 refine fF ?_
 refine fF ?_
 refine fF ?_
 refine fT ?_
 refine ⟨none,?_⟩;replace H:=H.drew;generalize w.drew=wd1 at H ⊢;have K:=grew_refl wd1 (none)
 refine ⟨nn,H.b0.row,_,(H.b0.at0 rfl),?_⟩
 refine ⟨nn,H.b0.row,_,(H.b0.at0 rfl),?_⟩
 refine ⟨nn,H.b0.row,_,_,_,(H.b0.at0 rfl),?_⟩
 refine ⟨_,_,run_f32from hbits,K,?_⟩
 refine call_j (c98 H (m10) (by omega)) ?_
 clear H;rintro _ w ⟨o10,q10,rfl,g,H⟩
 replace K:=gtr K g;clear g
 refine ⟨_,_,_,rfl,K,?_⟩
 refine sNew H ?_;clear H;intro b2 w g H;replace K:=gtr K (grew_none _ g);clear g
 refine ⟨K,?_⟩
 exact BuPost.mk H sl1 (fun r h=>mt (hr r h)) hT hD (fun G h=>(dc (.one _) (dc (.one _) (dc (h (.deep [_] [_]) (ms)).head dn))))
theorem Gd.mono {p:Pk} {n m:Nat} (h:Gd p n) (hnm:n<=m):Gd p m:=
 ⟨h.lo,h.hi,h.trim,Nat.le_trans h.sz (Nat.mul_le_mul_left _ hnm),h.bits⟩
theorem Sat.still3 {F:Fr} {w:World} {E0 ex:List Ex} {ro:List Ro} (H:Sat F w (E0++ex) ro) (r:Option Nat) (hr:∀b∈foots E0,some b=r) :
  ∃ex2,Sat ⟨w,fun b=>b∈foots (E0++ex)⟩ w (E0++ex2) ro /\
   (∀E w' ro',Sat ⟨w,fun b=>b∈foots (E0++ex)⟩ w' (E++ex2) ro'->w.grownBy w' r/\Sat F w' (E++ex) ro')/\∀b t cells,Ex.blk b t cells∈ex->Ex.blk b t cells∈ex2:=by
 have hf:=foots_still w (foots ex)
 have hf0:foots (E0++stillEx w (foots ex))=foots (E0++ex):=by rw [foots_append,foots_append,hf]
 have hB:∀b∈foots ex,Blk w b (cellsAt w b).1 (cellsAt w b).2:=by
  intro b hb
  obtain ⟨e,he,hbe⟩:=List.mem_flatMap.1 (show b∈ex.flatMap Ex.foot from hb)
  obtain ⟨t,us,h⟩:=Ex.cellsOf (H.he e (List.mem_append_right _ he)) hbe
  rw [cellsAt_of h]
  exact h
 refine ⟨stillEx w (foots ex),Sat.start (by rw [hf0];exact H.nd) (by rw [hf0];exact fun b hb=>⟨(H.lt b hb).1,hb⟩) ?_ (by rw [hf0];exact H.hr),fun E w' ro' H'=>?_,fun b t cells hb=>?_⟩
 ·intro e he
  rw [hf0]
  rcases List.mem_append.1 he with he | he
  ·exact H.he e (List.mem_append_left _ he)
  ·obtain ⟨b,hb,rfl⟩:=List.mem_map.1 he
   exact hB b hb
 ·have hfE:foots (E++stillEx w (foots ex))=foots (E++ex):=by rw [foots_append,foots_append,hf]
  have hnd:=H'.nd
  rw [hfE] at hnd
  have hnd2:=hnd
  rw [foots_append,List.nodup_append] at hnd2
  have hE:∀b∈foots E,w.heap.size<=b\/b∈foots E0:=by
   intro b hb
   have h1:=H'.lt b (by rw [hfE,foots_append];exact List.mem_append_left _ hb)
   rcases h1.2 with h2 | h2
   ·exact .inl h2
   ·rw [foots_append] at h2
    rcases List.mem_append.1 h2 with h2 | h2
    ·exact .inr h2
    ·exact absurd rfl (hnd2.2.2 b hb b h2)
  have hsame:∀k,k < w.heap.size->k ∉ foots E0->w'.heap[k]?=w.heap[k]?:=by
   intro k hk hk0
   by_cases hm:k∈foots ex
   ·have h1:Blk w' k (cellsAt w k).1 (cellsAt w k).2:=H'.he _ (List.mem_append_right _ (List.mem_map.2 ⟨k,hm,rfl⟩))
    exact h1.eq.trans (hB k hm).eq.symm
   ·exact H'.gr.block k hk (by rw [foots_append];exact fun h=>(List.mem_append.1 h).elim hk0 hm)
  have hg:Gr w w' (fun b=>b∈foots E0):=⟨H'.gr.os,H'.gr.tape,H'.gr.output,H'.gr.size,hsame⟩
  refine ⟨⟨H'.gr.os,H'.gr.tape,H'.gr.output,H'.gr.size,fun k hk hne=>hsame k hk (fun h=>hne (hr k h))⟩,⟨H.gr.trans hg (fun i hi=>(H.lt i (by rw [foots_append];exact List.mem_append_left _ hi)).2),hnd,fun b hb=>?_,fun e he=>?_,fun q hq=>?_⟩⟩
  ·rw [foots_append] at hb
   rcases List.mem_append.1 hb with hb | hb
   ·refine ⟨(H'.lt b (by rw [hfE,foots_append];exact List.mem_append_left _ hb)).1,?_⟩
    rcases hE b hb with h | h
    ·exact .inl (Nat.le_trans H.gr.size h)
    ·exact (H.lt b (by rw [foots_append];exact List.mem_append_left _ h)).2
   ·have:=H.lt b (by rw [foots_append];exact List.mem_append_right _ hb)
    exact ⟨Nat.lt_of_lt_of_le this.1 H'.gr.size,this.2⟩
  ·rcases List.mem_append.1 he with he | he
   ·have:=H'.he e (List.mem_append_left _ he)
    rw [hfE] at this
    exact this
   ·refine (H.he e (List.mem_append_right _ he)).keep hg (fun b hlt hb=>?_) (fun b hb h0=>?_)
    ·rw [foots_append] at hb
     refine ⟨fun h=>hb (List.mem_append_left _ h),?_⟩
     rw [foots_append]
     intro h
     rcases List.mem_append.1 h with h | h
     ·rcases hE b h with h2 | h2
      ·omega
      ·exact hb (List.mem_append_left _ h2)
     ·exact hb (List.mem_append_right _ h)
    ·have hnd3:=H.nd
     rw [foots_append,List.nodup_append] at hnd3
     exact hnd3.2.2 b h0 b (mem_foots hb he) rfl
  ·have:=H'.hr q hq
   rw [hfE] at this
   exact this
 ·refine List.mem_map.2 ⟨b,mem_foots (show b∈Ex.foot (.blk b t cells) by simp [Ex.foot]) hb,?_⟩
  rw [cellsAt_of (H.he _ (List.mem_append_right _ hb))]
def b16 (v:Int):List Int:=[v / 256,v % 256]
def b32 (v:Int):List Int:=[v / 16777216,v / 65536 % 256,v / 256 % 256,v % 256]
theorem b32_16 {v:Int} (hv:0<=v/\v < 4294967296):b32 v=b16 (v / 65536)++b16 (v % 65536):=by
 unfold b32 b16
 rw [show v / 65536 / 256=v / 16777216 by omega,show v % 65536 / 256=v / 256 % 256 by omega,show v % 65536 % 256=v % 256 by omega]
 rfl
theorem b16_len (v:Int):(b16 v).length=2:=rfl
theorem b32_len (v:Int):(b32 v).length=4:=rfl
theorem c49 {F:Fr} {w:World} {ex:List Ex} {ro:List Ro} {a:Option Addr} {n c:Nat} {r:Option Nat} {B:List Int} (H:Sat F w (.own 5 1 a n c r (ob B)::ex) ro) {v:Int} (hv:0<=v/\v < 65536) (hn:n<=99000000) :
  Calls pg 49 #[.slice a n c,.int .u16 v] w fun en w'=>∃a' c' r',en=.returned (.slice a' (n+2) c')/\Sat F w' (.own 5 1 a' (n+2) c' r' (ob (B++b16 v))::ex) ro:=by
 apply of49
 unfold SW49
 rw [ishr_of (b:=(8:Int)) 8 (by rfl) (by decide),wu8,wu8,show v / 2 ^ 8 % 256=v / 256 by omega]
 refine sPush0 H (bytes:=1) (by kernel_rfl) (ob (b16 v)) (by rfl) (fun G h=>DeepL.ones [_,_]) (by rfl) (by unfold maxLen;omega) (by omega) ?_
 clear H;intro a' n' c' r' w' hn' _ H
 subst hn'
 rw [<-ob_append] at H
 exact ⟨a',c',r',rfl,H⟩
theorem c112 {F:Fr} {w:World} {ex:List Ex} {ro:List Ro} {a:Option Addr} {n c:Nat} {r:Option Nat} {B:List Int} (H:Sat F w (.own 5 1 a n c r (ob B)::ex) ro) {v:Int} (hv:0<=v/\v < 4294967296) (hn:n<=98000000) :
  Calls pg 112 #[.slice a n c,.int .u32 v] w fun en w'=>∃a' c' r',en=.returned (.slice a' (n+4) c')/\Sat F w' (.own 5 1 a' (n+4) c' r' (ob (B++b32 v))::ex) ro:=by
 apply of112
 unfold SW112
 rw [ishr_of (b:=(16:Int)) 16 (by rfl) (by decide),wu16,wu16,show v / 2 ^ 16 % 65536=v / 65536 by omega]
 refine call_j (c49 H (by omega) (by omega)) ?_
 clear H;rintro _ w ⟨a1,c1,r1,rfl,H⟩
 refine ⟨_,_,_,rfl,?_⟩
 refine call_j (c49 H (by omega) (by omega)) ?_
 clear H;rintro _ w ⟨a2,c2,r2,rfl,H⟩
 refine ⟨_,_,_,rfl,?_⟩
 refine ⟨a2,c2,r2,rfl,?_⟩
 rw [List.append_assoc,<-b32_16 hv] at H
 exact H
def pad4 (n:Nat):Nat:=(4 - n % 4) % 4
theorem c114 {F:Fr} {w:World} {ex:List Ex} {ro:List Ro} {a:Option Addr} {n c:Nat} {r:Option Nat} {B:List Int} (H:Sat F w (.own 5 1 a n c r (ob B)::ex) ro) (hn:n<=98000000) :
  Calls pg 114 #[.slice a n c] w fun en w'=>∃a' c' r',en=.returned (.slice a' (n+pad4 n) c')/\Sat F w' (.own 5 1 a' (n+pad4 n) c' r' (ob (B++List.replicate (pad4 n) 0))::ex) ro:=by
 apply of114
 refine ⟨fun a' n' c' m w=>∃(k:Nat) (r':Option Nat),n'=n+k/\k<=pad4 n/\m=pad4 n - k/\Sat F w (.own 5 1 a' n' c' r' (ob (B++List.replicate k 0))::ex) ro,⟨_,0,r,rfl,Nat.zero_le _,rfl,by simpa using H⟩,?_⟩
 clear H;rintro dd2 a' n' c' m w ⟨k,r',rfl,hk,rfl,H⟩
 refine ⟨by decide,?_⟩
 have ht:(((n+k:Nat):Int)).tmod 4=(((n+k) % 4:Nat):Int):=by rw [Int.tmod_eq_emod_of_nonneg (by omega)];omega
 rw [ht]
 refine ⟨fun hc=>?_,fun hc=>?_⟩
 ·have hc:¬(((n+k) % 4:Nat):Int)=0:=by simpa using hc
  have hlt:k < pad4 n:=by unfold pad4 at hk ⊢;omega
  have hp4:pad4 n<=3:=by unfold pad4;omega
  refine ⟨rfl,?_⟩
  refine sPush0 H (bytes:=1) (by kernel_rfl) (ob [0]) (by rfl) (fun G h=>DeepL.ones [_]) (by rfl) (by unfold maxLen;omega) (by omega) ?_
  clear H;intro a2 n2 c2 r2 w hn2 _ H
  subst hn2
  rw [<-ob_append,List.append_assoc] at H
  refine ⟨pad4 n - (k+1),by omega,k+1,r2,by omega,by omega,rfl,?_⟩
  rw [List.replicate_succ']
  exact H
 ·have hc:(((n+k) % 4:Nat):Int)=0:=by simpa using hc
  have hkp:k=pad4 n:=by unfold pad4 at hk ⊢;omega
  subst hkp
  exact ⟨a',c',r',rfl,H⟩
def hdrB (c t n:Int):List Int:=[128+c,t]++b16 n
theorem c21 {F:Fr} {w:World} {ex:List Ex} {ro:List Ro} (H:Sat F w ex ro) {c t n:Int} (hc:0<=c/\c<=31) (hn:0<=n/\n < 65536) :
  Calls pg 21 #[.agg #[.bool false,.int .u8 c,.int .u8 t,.int .u16 n]] w fun en w'=>∃a' c' r',en=.returned (.tuple #[.slice a' 4 c',.bool true])/\Sat F w' (.own 5 1 a' 4 c' r' (ob (hdrB c t n))::ex) ro:=by
 apply of21
 refine sNew H ?_;clear H;intro b1 w _ H
 refine ⟨_,(H.b0.at0 rfl),?_⟩
 refine ⟨fun h=>by rw [decide_eq_true_eq] at h;omega,fun _=>?_⟩
 refine ⟨_,(H.b0.at0 rfl),?_⟩
 refine ⟨_,(H.b0.at0 rfl),?_⟩
 refine ⟨fun h=>(by cases h),fun _=>?_⟩
 refine ⟨_,(H.b0.at0 rfl),?_⟩
 rw [ior_add (k:=.u8) (by rfl) 7 (a:=128) (b:=c) 1 (by decide) (by decide) hc.1 (by omega) (by simp only [IntKind.bits];omega)]
 refine sNew H ?_;clear H;intro b2 w _ H
 refine ⟨_,(H.b1.at0 rfl),?_⟩
 have H1:=H.toOwn 1 2 (ob [128+c,t]) (by rfl) (by decide) (fun G h=>DeepL.ones [_,_])
 clear H
 refine call_j (c49 H1 hn (by omega)) ?_
 clear H1;rintro _ w ⟨a1,c1,r1,rfl,H⟩
 refine ⟨_,_,_,rfl,?_⟩
 exact ⟨a1,c1,r1,rfl,H.sub (List.Sublist.cons_cons _ (sc1)) (fun _ h=>h)⟩
theorem c52 {F:Fr} {w:World} {ex:List Ex} {ro:List Ro} (H:Sat F w ex ro) {c t n:Int} (hc:0<=c/\c < 32) (ht:0<=t/\t < 256) (hn:0<=n/\n < 65536) :
  Calls pg 52 #[.agg #[.bool false,.int .u8 c,.int .u8 t,.int .u16 n]] w fun en w'=>∃g,en=.returned (.tuple #[.slice (some ⟨g,0,none⟩) 4 4,.nilIface]) /\
   Sat F w' (.blk g 5 (u8s [128+c,t,n / 256,n % 256])::ex) ro:=by
 apply of52
 refine sNew H ?_;clear H;intro b1 w _ H
 refine sMk H (e:=5) (z:=.int .u8 0) (bytes:=1) (by kernel_rfl) (by kernel_rfl) (by rfl) (by unfold maxLen;omega) (by omega) (n:=4) (by omega) (by omega) ?_
 clear H;intro g w _ H
 replace H:Sat F w (.blk g 5 (u8s [0,0,0,0])::.blk b1 109 [.bool false,.int .u8 c,.int .u8 t,.int .u16 n]::ex) ro:=H
 refine ⟨_,rfl,by omega,by omega,?_⟩
 refine ⟨_,H.bcell (i:=0) (by rw [add_flat];rfl) (by decide),?_⟩
 refine ⟨_,rfl,by omega,by omega,?_⟩
 refine sStB H (i:=0) (by rw [add_flat];rfl) (by decide) ?_
 clear H;intro w _ H
 replace H:Sat F w (.blk g 5 (u8s [128,0,0,0])::.blk b1 109 [.bool false,.int .u8 c,.int .u8 t,.int .u16 n]::ex) ro:=H
 refine ⟨fun _ w=>Sat F w (.blk g 5 (u8s [128,0,0,0])::.blk b1 109 [.bool false,.int .u8 c,.int .u8 t,.int .u16 n]::ex) ro,?_,?_⟩
 ·refine ⟨_,(H.b1.at0 rfl),?_⟩
  exact ⟨fun h=>absurd h (by decide),fun _=>H⟩
 clear H;rintro dd10 w H
 refine ⟨_,(H.b1.at0 rfl),?_⟩
 refine ⟨fun h=>?_,fun _=>?_⟩
 ·rw [decide_eq_true_eq] at h;omega
 refine ⟨_,rfl,by omega,by omega,?_⟩
 replace H:=H.drew;generalize w.drew=w at H ⊢
 refine ⟨_,H.bcell (i:=0) (by rw [add_flat];rfl) (by decide),?_⟩
 refine ⟨_,(H.b1.at0 rfl),?_⟩
 refine ⟨_,rfl,by omega,by omega,?_⟩
 have e1:ior .u8 (([128,0,0,0]:List Int).getD 0 0) (ishl .u8 c (0:Int))=128+c:=by
  rw [ishl_of (b:=(0:Int)) 0 (by rfl) (by decide),wu8,show c*2 ^ 0 % 256=c by omega]
  exact ior_add (k:=.u8) (by rfl) 5 4 (by rfl) (by decide) hc.1 (by omega) (by simp only [IntKind.bits];show (128:Int)+c < _;omega)
 rw [e1]
 refine sStB H (i:=0) (by rw [add_flat];rfl) (by decide) ?_
 clear H;intro w _ H
 refine ⟨_,(H.b1.at0 rfl),?_⟩
 refine ⟨_,rfl,by omega,by omega,?_⟩
 refine sStB H (i:=1) (by rw [add_flat];rfl) (by simp) ?_
 clear H;intro w _ H
 refine ⟨by omega,by omega,?_⟩
 replace H:=H.drew;generalize w.drew=w at H ⊢
 refine ⟨_,(H.b1.at0 rfl),?_⟩
 refine call_j (c89 (o:=2) (n:=2) (c:=2) H hn (by omega) (by simp)) ?_
 clear H
 rintro _ w ⟨rfl,H⟩
 refine ⟨rfl,g,rfl,?_⟩
 refine H.sub ?_ (fun _ h=>h)
 exact List.Sublist.cons_cons _ (sc1)
/-! ### Chunks -/
def wz (A:List Int) (z:Nat):List Int:=A++List.replicate z 0
theorem wz_len (A:List Int) (z:Nat):(wz A z).length=A.length+z:=by simp [wz]
theorem wz_set1 (A:List Int) {z:Nat} (x:Int) (h:1<=z):(wz A z).set A.length x=wz (A++[x]) (z - 1):=by
 obtain ⟨k,rfl⟩:∃k,z=k+1:=⟨z - 1,by omega⟩
 unfold wz
 rw [List.set_append_right _ _ (Nat.le_refl _),Nat.sub_self,List.replicate_succ,List.set_cons_zero,List.append_assoc]
 rfl
theorem wz_set2 (A:List Int) {z:Nat} (x y:Int) (h:2<=z):((wz A z).set A.length x).set (A.length+1) y=wz (A++[x,y]) (z - 2):=by
 rw [wz_set1 A x (by omega),show A.length+1=(A++[x]).length by simp,wz_set1 _ y (by omega),List.append_assoc]
 rfl
theorem wz_set4 (A:List Int) {z:Nat} (x y u v:Int) (h:4<=z):((((wz A z).set A.length x).set (A.length+1) y).set (A.length+2) u).set (A.length+3) v=wz (A++[x,y,u,v]) (z - 4):=by
 rw [wz_set2 A x y (by omega),show A.length+2=(A++[x,y]).length by simp,show A.length+3=(A++[x,y]).length+1 by simp,wz_set2 _ u v (by omega),List.append_assoc]
 rfl
theorem put16 {F:Fr} {w:World} {g:Nat} {t:TypeId} {A:List Int} {z:Nat} {ex:List Ex} {ro:List Ro} (H:Sat F w (.blk g t (u8s (wz A z))::ex) ro) {o n c:Nat} {v:Int} (ho:o=A.length) (hv:0<=v/\v < 65536) (hn:2<=n) (hz:2<=z) :
  Calls pg 89 #[.slice (some ⟨g,o,none⟩) n c,.int .u16 v] w fun en w'=>en=.returned (.tuple #[])/\Sat F w' (.blk g t (u8s (wz (A++b16 v) (z - 2)))::ex) ro:=by
 subst ho
 refine (c89 H hv hn (by rw [wz_len];omega)).mono ?_
 rintro _ w ⟨rfl,H⟩
 rw [wz_set2 A _ _ hz] at H
 exact ⟨rfl,H⟩
theorem put32 {F:Fr} {w:World} {g:Nat} {t:TypeId} {A:List Int} {z:Nat} {ex:List Ex} {ro:List Ro} (H:Sat F w (.blk g t (u8s (wz A z))::ex) ro) {o n c:Nat} {v:Int} (ho:o=A.length) (hv:0<=v/\v < 4294967296) (hn:4<=n) (hz:4<=z) :
  Calls pg 144 #[.slice (some ⟨g,o,none⟩) n c,.int .u32 v] w fun en w'=>en=.returned (.tuple #[])/\Sat F w' (.blk g t (u8s (wz (A++b32 v) (z - 4)))::ex) ro:=by
 subst ho
 refine (c144 H hv hn (by rw [wz_len];omega)).mono ?_
 rintro _ w ⟨rfl,H⟩
 rw [wz_set4 A _ _ _ _ hz] at H
 exact ⟨rfl,H⟩
theorem cutW {b o l m q:Nat} (h:l < m) (hq:o+l=q):cutA (some ⟨b,o,none⟩) l m 1=some ⟨b,q,none⟩:=by
 subst hq
 unfold cutA
 rw [if_neg (by omega)]
 simp only [Option.map_some,Nat.mul_one,add_flat]
def b64 (v:Int):List Int:=b32 (v / 4294967296)++b32 (v % 4294967296)
theorem put64 {F:Fr} {w:World} {g:Nat} {t:TypeId} {A:List Int} {z:Nat} {ex:List Ex} {ro:List Ro} (H:Sat F w (.blk g t (u8s (wz A z))::ex) ro) {o n c:Nat} {v:Int} (ho:o=A.length) (hv:0<=v/\v < 18446744073709551616) (hn:8<=n) (hc:n<=c) (hz:8<=z) :
  Calls pg 145 #[.slice (some ⟨g,o,none⟩) n c,.int .u64 v] w fun en w'=>en=.returned (.tuple #[])/\Sat F w' (.blk g t (u8s (wz (A++b64 v) (z - 8)))::ex) ro:=by
 subst ho
 apply of145
 refine ⟨_,rfl,by omega,by omega,?_⟩
 refine ⟨_,H.bcell (i:=A.length+7) (by rw [add_flat];rfl) (by rw [wz_len];omega),?_⟩
 rw [ishr_of (b:=(32:Int)) 32 (by rfl) (by decide),wu32,wu32,show v / 2 ^ 32 % 4294967296=v / 4294967296 by omega]
 refine call_j (put32 H rfl (by omega) (by omega) (by omega)) ?_
 clear H;rintro _ w ⟨rfl,H⟩
 refine ⟨rfl,?_⟩
 refine ⟨by omega,by omega,?_⟩
 rw [cutW (q:=A.length+4) (by omega) rfl]
 refine call_j (put32 H (by rw [List.length_append,b32_len]) (by omega) (by omega) (by omega)) ?_
 clear H;rintro _ w ⟨rfl,H⟩
 refine ⟨rfl,?_⟩
 rw [List.append_assoc] at H
 exact ⟨rfl,H⟩
theorem sStW {F:Fr} {w:World} {g:Nat} {t:TypeId} {A:List Int} {z:Nat} {ex:List Ex} {ro:List Ro} (H:Sat F w (.blk g t (u8s (wz A z))::ex) ro) {a:Addr} {x:Int} {K:World->Prop} (ha:a=⟨g,A.length,none⟩) (hz:1<=z)
  (h:∀w',Sat F w' (.blk g t (u8s (wz (A++[x]) (z - 1)))::ex) ro->K w'):∃w',StV pg 5 a (.int .u8 x) w w'/\K w':=by
 refine sStB H ha (by rw [wz_len];omega) fun w' _ H'=>h w' ?_
 rw [wz_set1 A x hz] at H'
 exact H'
theorem u8s_one:∀(D:List Int) (v:Value),v∈u8s D->v.oneCell'=true:=by
 intro D v hv
 unfold u8s at hv
 obtain ⟨x,_,rfl⟩:=List.mem_map.1 hv
 rfl
theorem sCpW {F:Fr} {w:World} {g:Nat} {t:TypeId} {A D:List Int} {z:Nat} {ex:List Ex} {ro:List Ro} (H:Sat F w (.blk g t (u8s (wz A z))::ex) ro) {o dLen dCap sLen sCap:Nat} {s:Option Addr} (hD:Ro.B D s sLen sCap∈ro) (h0:0 < sLen)
  (ho:o=A.length) (hd:sLen<=dLen) (hz:D.length<=z) {ty:TypeId} {K:Int->World->Prop} (h:∀w',w.grownBy w' (some g)->Sat F w' (.blk g t (u8s (wz (A++D) (z - D.length)))::ex) ro->K sLen w') :
  ∃n,∃w',(Builtin.copy_ #[22,22] ty #[.slice (some ⟨g,o,none⟩) dLen dCap,.slice s sLen sCap]).run pg w=.ok (.int .i64 n) w'/\K n w':=by
 subst ho
 have hl:=H.lenB hD
 obtain ⟨b,q,rfl,hcell⟩:=H.elt hD h0
 have hcl:(u8s D).length=D.length:=u8s_length D
 refine sCp H (elem:=5) (bytes:=1) (by kernel_rfl) (u8s D) (by rw [hcl,hl];exact (Nat.min_eq_left hd).symm) (fun j v hv=>?_) (by rw [hcl,u8s_length,wz_len];omega) (u8s_one D) fun w' hg H'=>?_
 ·unfold u8s at hv
  rw [List.getElem?_map] at hv
  rw [add_flat]
  refine hcell j v ?_
  unfold ob
  rw [List.getElem?_map]
  cases hj:D[j]? with
  | none=>rw [hj] at hv;cases hv
  | some x=>rw [hj] at hv;cases hv;rfl
 ·have e:(u8s (wz A z)).take A.length++u8s D++(u8s (wz A z)).drop (A.length+(u8s D).length)=u8s (wz (A++D) (z - D.length)):=by
   rw [hcl]
   unfold u8s wz
   rw [<-List.map_take,<-List.map_drop,<-List.map_append,<-List.map_append,List.take_left',List.drop_append,List.drop_replicate]
   ·congr 1
    rw [List.drop_eq_nil_of_le (by omega)]
    simp
   ·rfl
  rw [e] at H'
  rw [hcl,hl]
  exact h w' hg H'
def MPost (F:Fr) (ex:List Ex) (ro:List Ro) (bs:List Int) (en:Ending) (w':World):Prop:=
 ∃a c ro',en=.returned (.tuple #[.slice a bs.length c,.nilIface])/\(∀r∈ro,r∈ro')/\Sat F w' ex ro'/\Ro.B bs a bs.length c∈ro'
theorem MPost.blk {F:Fr} {w:World} {g:Nat} {exs ex:List Ex} {ro ro':List Ro} {bs:List Int} {n:Nat} (H:Sat F w (.blk g 5 (u8s bs)::exs) ro') (hs:ex.Sublist exs) (hr:∀r∈ro,r∈ro') (hn:n=bs.length) (hm:n<=maxLen) :
  MPost F ex ro bs (.returned (.tuple #[.slice (some ⟨g,0,none⟩) n n,.nilIface])) w:=by
 subst hn
 have H1:=H.blkRow 1 bs.length (ob bs) (by rw [u8s_length,Nat.mul_one]) hm (fun G h=>by
  have e:u8s bs=bs.map (Value.int .u8):=rfl
  have e2:ob bs=(bs.map (Value.int .u8)).map .one:=by simp [ob]
  rw [e,e2];exact DeepL.ones _)
 exact ⟨_,_,_,rfl,fun r h=>mt (hr r h),H1.sub hs (fun _ h=>h),ms⟩
theorem MPost.own {F:Fr} {w:World} {exs ex:List Ex} {ro ro':List Ro} {bs:List Int} {n c:Nat} {a:Option Addr} {r:Option Nat} (H:Sat F w (.own 5 1 a n c r (ob bs)::exs) ro') (hs:ex.Sublist exs) (hr:∀r∈ro,r∈ro') (hn:n=bs.length) :
  MPost F ex ro bs (.returned (.tuple #[.slice a n c,.nilIface])) w:=by
 subst hn
 exact ⟨_,_,_,rfl,fun r h=>mt (hr r h),H.freeze.sub hs (fun _ h=>h),ms⟩
theorem wz_start {N:Nat} (h:4<=N):List.replicate N (0:Int)=wz [0,0,0,0] (N - 4):=by
 obtain ⟨k,rfl⟩:∃k,N=k+4:=⟨N - 4,by omega⟩
 rfl
theorem u8s_z (N:Nat):List.replicate N (Value.int .u8 0)=u8s (List.replicate N 0):=by simp [u8s]
theorem hdrM {F:Fr} {w:World} {ex:List Ex} {ro:List Ro} (H:Sat F w ex ro) {c t n:Int} (hc:0<=c/\c < 32) (ht:0<=t/\t < 256) (hn:0<=n/\n < 65536) :
  Calls pg 52 #[.agg #[.bool false,.int .u8 c,.int .u8 t,.int .u16 n]] w fun en w'=>∃g,en=.returned (.tuple #[.slice (some ⟨g,0,none⟩) 4 4,.nilIface])/\Sat F w' ex (Ro.B (hdrB c t n) (some ⟨g,0,none⟩) 4 4::ro):=by
 refine (c52 H hc ht hn).mono ?_
 rintro _ w ⟨g,rfl,H⟩
 exact ⟨g,rfl,H.blkRow 1 4 (ob (hdrB c t n)) (by rfl) (by decide) (fun G h=>DeepL.ones [_,_,_,_])⟩
theorem sCpH {F:Fr} {w:World} {g:Nat} {t:TypeId} {hd B:List Int} {ex:List Ex} {ro:List Ro} (H:Sat F w (.blk g t (u8s (wz ([0,0,0,0]++B) 0))::ex) ro) {dLen dCap sCap:Nat} {s:Option Addr} (hD:Ro.B hd s 4 sCap∈ro) (hd4:4<=dLen)
  {ty:TypeId} {K:Int->World->Prop} (h:∀w',Sat F w' (.blk g t (u8s (hd++B))::ex) ro->K 4 w') :
  ∃n,∃w',(Builtin.copy_ #[22,22] ty #[.slice (some ⟨g,0,none⟩) dLen dCap,.slice s 4 sCap]).run pg w=.ok (.int .i64 n) w'/\K n w':=by
 have hl:=H.lenB hD
 obtain ⟨b,q,rfl,hcell⟩:=H.elt hD (by decide)
 have hcl:(u8s hd).length=4:=by rw [u8s_length,hl]
 have hBl:(wz ([0,0,0,0]++B) 0).length=4+B.length:=by rw [wz_len];simp;omega
 refine sCp H (elem:=5) (bytes:=1) (by kernel_rfl) (u8s hd) (by rw [hcl];exact (Nat.min_eq_left hd4).symm) (fun j v hv=>?_) (by rw [hcl,u8s_length,hBl];omega) (u8s_one hd) fun w' _ H'=>?_
 ·unfold u8s at hv
  rw [List.getElem?_map] at hv
  rw [add_flat]
  refine hcell j v ?_
  unfold ob
  rw [List.getElem?_map]
  cases hj:hd[j]? with
  | none=>rw [hj] at hv;cases hv
  | some x=>rw [hj] at hv;cases hv;rfl
 ·have e:(u8s (wz ([0,0,0,0]++B) 0)).take 0++u8s hd++(u8s (wz ([0,0,0,0]++B) 0)).drop (0+(u8s hd).length)=u8s (hd++B):=by
   rw [hcl]
   simp [u8s,wz]
  rw [e] at H'
  have h2:=h w' H'
  rw [hcl]
  exact h2
theorem c202 {w:World} {v:Option Addr}:Calls pg 202 #[.pointer v] w fun en w'=>en=.returned (.int .i64 12)/\w'=w:=by
 apply of202
 exact ⟨rfl,rfl⟩
theorem c185 {w:World} {v:Option Addr}:Calls pg 185 #[.pointer v] w fun en w'=>en=.returned (.int .i64 12)/\w'=w:=by
 apply of185
 exact ⟨rfl,rfl⟩
def wrTwo (c t s m:Int):List Int:=hdrB c t 2++(b32 s++b32 m)
theorem c201 {F:Fr} {w:World} {ex:List Ex} {ro:List Ro} (H:Sat F w ex ro) {s m:Int} (hs:0<=s/\s < 4294967296) (hm:0<=m/\m < 4294967296) :
  Calls pg 201 #[.agg #[.int .u32 s,.int .u32 m]] w (MPost F ex ro (wrTwo 1 206 s m)):=by
 apply of201
 refine sNew H ?_;clear H;intro b1 w _ H
 refine call_j c202 ?_
 rintro _ w' ⟨rfl,rfl⟩
 refine ⟨_,rfl,?_⟩
 refine sMk H (e:=5) (z:=.int .u8 0) (bytes:=1) (by kernel_rfl) (by kernel_rfl) (by rfl) (by unfold maxLen;omega) (by omega) (n:=12) (by rfl) (by rfl) ?_
 clear H;intro g w _ H
 rw [u8s_z,wz_start (by decide)] at H
 refine ⟨by omega,by omega,?_⟩
 refine ⟨_,(H.b1.at0 rfl),?_⟩
 rw [cutW (q:=4) (by decide) rfl]
 refine call_j (put32 H (by rfl) hs (by decide) (by decide)) ?_
 clear H;rintro _ w ⟨rfl,H⟩
 refine ⟨rfl,?_⟩
 refine ⟨by omega,by omega,?_⟩
 replace H:=H.drew;generalize w.drew=w at H ⊢
 refine ⟨_,(H.b1.at0 rfl),?_⟩
 rw [cutW (q:=8) (by decide) rfl]
 refine call_j (put32 H (by rfl) hm (by decide) (by decide)) ?_
 clear H;rintro _ w ⟨rfl,H⟩
 refine ⟨rfl,?_⟩
 refine sNew H ?_;clear H;intro b11 w _ H
 refine sSw0 H rfl (by kernel_rfl) (by rfl) (by rfl) ?_;clear H;intro w _ H
 refine ⟨_,_,_,_,H.b0.ld,?_⟩
 refine call_j (hdrM H (by decide) (by decide) (by decide)) ?_
 clear H;rintro _ w ⟨g2,rfl,H⟩
 refine ⟨_,_,_,_,rfl,?_⟩
 refine ⟨by simp [isIf],?_⟩
 refine fF ?_
 have H1:=H.r1
 clear H
 rw [List.append_assoc] at H1
 refine sCpH H1 ms (by decide) ?_
 clear H1;intro w H
 exact MPost.blk H ((sc1).trans (sc1)) (fun r h=>mt h) (by rfl) (by decide)
theorem c187 {F:Fr} {w:World} {ex:List Ex} {ro:List Ro} (H:Sat F w ex ro) {v:Option Addr}:Calls pg 187 #[.pointer v] w fun en w'=>
  en=.returned (.agg #[.bool false,.int .u8 5,.int .u8 205,.int .u16 2])/\Sat F w' ex ro:=by
 apply of187
 refine sNew H ?_;clear H;intro b1 w _ H
 refine sSw0 H rfl (by kernel_rfl) (by rfl) (by rfl) ?_;clear H;intro w _ H
 refine ⟨_,_,_,_,H.b0.ld,?_⟩
 exact ⟨rfl,H.d1⟩
theorem c184 {F:Fr} {w:World} {ex:List Ex} {ro:List Ro} (H:Sat F w ex ro) {s m:Int} (hs:0<=s/\s < 4294967296) (hm:0<=m/\m < 4294967296) :
  Calls pg 184 #[.agg #[.int .u32 s,.int .u32 m]] w (MPost F ex ro (wrTwo 5 205 s m)):=by
 apply of184
 refine sNew H ?_;clear H;intro b1 w _ H
 refine call_j c185 ?_
 rintro _ w' ⟨rfl,rfl⟩
 refine ⟨_,rfl,?_⟩
 refine sMk H (e:=5) (z:=.int .u8 0) (bytes:=1) (by kernel_rfl) (by kernel_rfl) (by rfl) (by unfold maxLen;omega) (by omega) (n:=12) (by rfl) (by rfl) ?_
 clear H;intro g w _ H
 rw [u8s_z,wz_start (by decide)] at H
 refine ⟨by omega,by omega,?_⟩
 refine ⟨_,(H.b1.at0 rfl),?_⟩
 rw [cutW (q:=4) (by decide) rfl]
 refine call_j (put32 H (by rfl) hs (by decide) (by decide)) ?_
 clear H;rintro _ w ⟨rfl,H⟩
 refine ⟨rfl,?_⟩
 refine ⟨by omega,by omega,?_⟩
 replace H:=H.drew;generalize w.drew=w at H ⊢
 refine ⟨_,(H.b1.at0 rfl),?_⟩
 rw [cutW (q:=8) (by decide) rfl]
 refine call_j (put32 H (by rfl) hm (by decide) (by decide)) ?_
 clear H;rintro _ w ⟨rfl,H⟩
 refine ⟨rfl,?_⟩
 refine call_j (c187 H) ?_
 clear H;rintro _ w ⟨rfl,H⟩
 refine ⟨_,_,_,_,rfl,?_⟩
 refine call_j (hdrM H (by decide) (by decide) (by decide)) ?_
 clear H;rintro _ w ⟨g2,rfl,H⟩
 refine ⟨_,_,_,_,rfl,?_⟩
 refine ⟨by simp [isIf],?_⟩
 refine fF ?_
 rw [List.append_assoc] at H
 refine sCpH H ms (by decide) ?_
 clear H;intro w H
 exact MPost.blk H (sc1) (fun r h=>mt h) (by rfl) (by decide)
theorem wz_pad (A:List Int) {z:Nat} (k:Nat) (h:k<=z):wz A z=wz (A++List.replicate k 0) (z - k):=by
 unfold wz
 rw [List.append_assoc,List.replicate_append_replicate,show k+(z - k)=z by omega]
theorem sAppR {F:Fr} {w:World} {A D:List Int} {a s:Option Addr} {n c sn sc:Nat} {r:Option Nat} {ex:List Ex} {ro:List Ro} (H:Sat F w (.own 5 1 a n c r (ob A)::ex) ro) (hD:Ro.B D s sn sc∈ro) (h0:0 < sn) (hs:n+sn<=100000000) {ty:TypeId} {K:Option Addr->Nat->Nat->World->Prop}
  (hK:∀a' n' c' r' w',n'=n+sn->w.grownBy w' r->Sat F w' (.own 5 1 a' n' c' r' (ob (A++D))::ex) ro->K a' n' c' w') :
  ∃a' n' c',∃w',(Builtin.append_ #[22,22] ty #[.slice a n c,.slice s sn sc]).run pg w=.ok (.slice a' n' c') w'/\K a' n' c' w':=by
 have hl:=H.lenB hD
 obtain ⟨b,q,rfl,hcell⟩:=H.elt hD h0
 refine sApp0 H (bytes:=1) (by kernel_rfl) (u8s D) (ob D) (by rw [u8s_length,hl,Nat.mul_one]) (fun j v hv=>?_) (fun G h=>?_) (u8s_one D) (by unfold maxLen;omega) (by omega) fun a' n' c' r' w' hn hg H'=>hK a' n' c' r' w' hn hg ?_
 ·unfold u8s at hv
  rw [List.getElem?_map] at hv
  rw [add_flat]
  refine hcell j v ?_
  unfold ob
  rw [List.getElem?_map]
  cases hj:D[j]? with
  | none=>rw [hj] at hv;cases hv
  | some x=>rw [hj] at hv;cases hv;rfl
 ·have e2:ob D=(D.map (Value.int .u8)).map .one:=by simp [ob]
  rw [e2]
  exact DeepL.ones _
 ·rw [ob_append]
  exact H'
theorem hdrOwn {F:Fr} {w:World} {ex:List Ex} {ro:List Ro} (H:Sat F w ex ro) {c t n:Int} (hc:0<=c/\c < 32) (ht:0<=t/\t < 256) (hn:0<=n/\n < 65536) :
  Calls pg 52 #[.agg #[.bool false,.int .u8 c,.int .u8 t,.int .u16 n]] w fun en w'=>∃g,en=.returned (.tuple #[.slice (some ⟨g,0,none⟩) 4 4,.nilIface])/\Sat F w' (.own 5 1 (some ⟨g,0,none⟩) 4 4 (some g) (ob (hdrB c t n))::ex) ro:=by
 refine (c52 H hc ht hn).mono ?_
 rintro _ w ⟨g,rfl,H⟩
 exact ⟨g,rfl,H.toOwn 1 4 (ob (hdrB c t n)) (by rfl) (by decide) (fun G h=>DeepL.ones [_,_,_,_])⟩
def wPar:Par->List Int
 | (a,b)=>b16 a++b16 b
def wSli:Sli->List Int
 | (f,n,p)=>b32 (f*524288+n*64+p)
def wEnt:Ent->List Int
 | (s,n)=>b32 s++[n,0,0,0]
theorem wPar_len (x:Par):(wPar x).length=4:=rfl
theorem wSli_len (x:Sli):(wSli x).length=4:=rfl
theorem wEnt_len (x:Ent):(wEnt x).length=8:=rfl
def wrFb (c t k s m:Int) (B:List Int):List Int:=hdrB c t k++(b32 s++b32 m++B)
theorem sli_v {f n p:Int} (hf:0<=f/\f < 8192) (hn:0<=n/\n < 8192) (hp:0<=p/\p < 64) :
  ior .u32 (ior .u32 (ishl .u32 (iand .u32 (IntKind.u32.wrap f) (8191:Int)) (19:Int)) (ishl .u32 (iand .u32 (IntKind.u32.wrap n) (8191:Int)) (6:Int))) (iand .u32 (IntKind.u32.wrap p) (63:Int))=f*524288+n*64+p:=by
 rw [wu32,wu32,wu32,show f % 4294967296=f by omega,show n % 4294967296=n by omega,show p % 4294967296=p by omega]
 rw [iand_low (k:=.u32) (by rfl) 13 (a:=f) (m:=8191) hf.1 (by simp only [IntKind.bits];omega) (by decide) (by decide),iand_low (k:=.u32) (by rfl) 13 (a:=n) (m:=8191) hn.1 (by simp only [IntKind.bits];omega) (by decide) (by decide),
  iand_low (k:=.u32) (by rfl) 6 (a:=p) (m:=63) hp.1 (by simp only [IntKind.bits];omega) (by decide) (by decide)]
 rw [ishl_of 19 (by rfl) (by decide),ishl_of 6 (by rfl) (by decide),wu32,wu32]
 rw [show f % 2 ^ 13*2 ^ 19 % 4294967296=f*524288 by omega,show n % 2 ^ 13*2 ^ 6 % 4294967296=n*64 by omega,show p % 2 ^ 6=p by omega]
 rw [ior_add (k:=.u32) (by rfl) 19 f (a:=f*524288) (b:=n*64) (by omega) hf.1 (by omega) (by omega) (by simp only [IntKind.bits];omega)]
 exact ior_add (by rfl) 6 (f*8192+n) (by omega) (by omega) hp.1 (by omega) (by simp only [IntKind.bits];omega)
theorem c180 {w:World} {b n k:Nat} {l:Option Addr} (hc:w.cell? ⟨b,2,none⟩=some (.slice l n k)) (hn:n<=100000):Calls pg 180 #[.pointer (some ⟨b,0,none⟩)] w fun en w'=>en=.returned (.int .i64 ((12+4*n:Nat):Int))/\w'=w:=by
 apply of180
 refine ⟨_,rfl,?_⟩
 refine ⟨_,_,_,hc,?_⟩
 refine ⟨?_,rfl⟩
 rw [wi64_of (n:=(n:Int)*4) (by omega) (by omega),wi64_of (by omega) (by omega)]
 congr 2
 omega
theorem c182 {F:Fr} {w:World} {e0:Ex} {ex:List Ex} {ro:List Ro} {b n k:Nat} {T:TypeId} {v0 v1:Value} {l:Option Addr} (H:Sat F w (e0::.blk b T [v0,v1,.slice l n k]::ex) ro) (hn:n<=60000) :
  Calls pg 182 #[.pointer (some ⟨b,0,none⟩)] w fun en w'=>en=.returned (.agg #[.bool false,.int .u8 1,.int .u8 205,.int .u16 ((2+1*n:Nat):Int)])/\Sat F w' (e0::.blk b T [v0,v1,.slice l n k]::ex) ro:=by
 apply of182
 refine sNew H ?_;clear H;intro b9 w _ H
 refine call_j (c180 (show w.cell? ⟨b,2,none⟩=some (.slice l n k) from H.b2.cell rfl) (by omega)) ?_
 rintro _ w' ⟨rfl,rfl⟩
 refine ⟨_,rfl,?_⟩
 refine ⟨by decide,?_⟩
 have e:IntKind.u16.wrap (IntKind.i64.wrap (IntKind.i64.wrap ((((12+4*n:Nat):Int).tdiv 4)) - 1))=((2+1*n:Nat):Int):=by
  rw [Int.tdiv_eq_ediv_of_nonneg (by omega),wi64_of (n:=((12+4*n:Nat):Int) / 4) (by omega) (by omega),wi64_of (by omega) (by omega),wu16]
  omega
 rw [e]
 refine sSw0 H rfl (by kernel_rfl) (by rfl) (by rfl) ?_;clear H;intro w _ H
 refine ⟨_,_,_,_,H.b0.ld,?_⟩
 exact ⟨rfl,H.d1⟩
theorem c179 {F:Fr} {w:World} {ex:List Ex} {ro:List Ro} {s m:Int} {L:List Par} {l:Option Addr} {k:Nat} (H:Sat F w ex ro) (hs:0<=s/\s < 4294967296) (hm:0<=m/\m < 4294967296) (hl:Ro.deep [.row 2 (L.flatMap Par.dat)] [.slice l L.length k]∈ro) (hn:L.length<=253) (hR:∀x∈L,(0<=x.1/\x.1 < 65536)/\0<=x.2/\x.2 < 65536) :
  Calls pg 179 #[.agg #[.int .u32 s,.int .u32 m,.slice l L.length k]] w (MPost F ex ro (wrFb 1 205 ((2+1*L.length:Nat):Int) s m (L.flatMap wPar))):=by
 apply of179
 refine sNew H ?_;clear H;intro b1 w _ H
 refine ⟨_,_,_,(H.b0.at0 rfl),?_⟩
 refine ⟨fun h=>by rw [decide_eq_true_eq,wi64_of (by omega) (by omega)] at h;omega,fun _=>?_⟩
 refine ⟨_,_,_,(H.b0.at0 rfl),?_⟩
 refine sMk H (e:=5) (z:=.int .u8 0) (bytes:=1) (by kernel_rfl) (by kernel_rfl) (by rfl) (by unfold maxLen;omega) (by omega) (n:=8+4*L.length) (by rw [wi64_of (n:=(L.length:Int)*4) (by omega) (by omega),wi64_of (by omega) (by omega)];omega) (by rw [wi64_of (n:=(L.length:Int)*4) (by omega) (by omega),wi64_of (by omega) (by omega)];omega) ?_
 clear H;intro g w _ H
 obtain ⟨N,hN⟩:∃N,N=8+4*L.length:=⟨_,rfl⟩
 rw [<-hN] at H ⊢
 rw [u8s_z] at H
 replace H:Sat F w (.blk g 5 (u8s (wz [] N))::_) ro:=H
 refine ⟨_,(H.b1.at0 rfl),?_⟩
 refine call_j (put32 H (by rfl) hs (by omega) (by omega)) ?_
 clear H;rintro _ w ⟨rfl,H⟩
 refine ⟨rfl,?_⟩
 refine ⟨by omega,by omega,?_⟩
 replace H:=H.drew;generalize w.drew=w at H ⊢
 refine ⟨_,(H.b1.at0 rfl),?_⟩
 rw [cutW (q:=4) (by omega) (by rfl)]
 refine call_j (put32 H (by rfl) hm (by omega) (by omega)) ?_
 clear H;rintro _ w ⟨rfl,H⟩
 refine ⟨rfl,?_⟩
 refine ⟨fun i q w=>∃j:Nat,i=(j:Int)/\j+q=L.length/\Sat F w (.blk g 5 (u8s (wz (b32 s++b32 m++(L.take j).flatMap wPar) (N - 8 - 4*j)))::.blk b1 210 [.int .u32 s,.int .u32 m,.slice l L.length k]::ex) ro,⟨L.length,0,rfl,by omega,H.sub (List.Sublist.refl _) (fun _ h=>h)⟩,?_⟩
 clear H;rintro dd i q w ⟨j,rfl,hjq,H⟩
 refine ⟨_,_,_,(H.b1.at0 rfl),?_⟩
 have hBl:(b32 s++b32 m++(L.take j).flatMap wPar).length=8+4*j:=by
  rw [List.length_append,List.length_append,b32_len,b32_len,flat_bd wPar_len,List.length_take]
  omega
 refine ⟨fun hc=>?_,fun hc=>?_⟩
 ·rw [decide_eq_true_eq] at hc
  have hjl:j < L.length:=by omega
  have htk:L.take (j+1)=L.take j++[L[j]]:=by rw [List.take_add_one,List.getElem?_eq_getElem hjl];rfl
  have hRj:=hR L[j] (List.getElem_mem hjl)
  rw [wi64_of (n:=4*(j:Int)) (by omega) (by omega),wi64_of (n:=8+4*(j:Int)) (by omega) (by omega),wi64_of (n:=8+4*(j:Int)+2) (by omega) (by omega),show (8+4*(j:Int)).toNat=8+4*j by omega,show (8+4*(j:Int)+2).toNat=10+4*j by omega]
  refine ⟨by omega,by omega,?_⟩
  replace H:=H.drew;generalize w.drew=w at H ⊢
  refine ⟨_,_,_,(H.b1.at0 rfl),?_⟩
  obtain ⟨p,us,e,hus,hcell,H1⟩:=H.eltF Par.dat_lenK (by decide) hl (j:=j) hjl
  obtain ⟨⟨e0,e1⟩,hE⟩:∃E,L[j]=E:=⟨_,rfl⟩
  rw [hE] at H1 htk hRj
  replace hRj:(0<=e0/\e0 < 65536)/\0<=e1/\e1 < 65536:=hRj
  obtain rfl:=H1.ones (us:=[.int .u16 e0,.int .u16 e1]) ms
  clear H
  have H:Sat F w _ (.deep (Par.dat (e0,e1)) [.int .u16 e0,.int .u16 e1]::_):=H1
  clear H1
  refine ⟨p,e,by omega,by omega,?_⟩
  refine ⟨_,(by rw [show (j:Int).toNat*2=j*2 by omega];exact hcell 0 _ rfl),?_⟩
  rw [cutW (l:=8+4*j) (q:=8+4*j) (by omega) (by omega),cutW (l:=10+4*j) (q:=10+4*j) (by omega) (by omega)]
  refine call_j (put16 H hBl.symm hRj.1 (by omega) (by omega)) ?_
  clear H hcell;rintro _ w ⟨rfl,H⟩
  refine ⟨rfl,?_⟩
  refine ⟨by omega,by omega,?_⟩
  replace H:=H.drew;generalize w.drew=w at H ⊢
  refine ⟨_,_,_,(H.b1.at0 rfl),?_⟩
  obtain ⟨p,us,e,hus,hcell,H1⟩:=H.eltF Par.dat_lenK (by decide) (mt hl) (j:=j) hjl
  rw [hE] at H1
  obtain rfl:=H1.ones (us:=[.int .u16 e0,.int .u16 e1]) ms
  clear H1
  refine ⟨p,e,by omega,by omega,?_⟩
  refine ⟨_,(by rw [show (j:Int).toNat*2=j*2 by omega];exact hcell 1 _ rfl),?_⟩
  refine call_j (put16 H (by rw [List.length_append,hBl,b16_len];omega) hRj.2 (by omega) (by omega)) ?_
  clear H hcell;rintro _ w ⟨rfl,H⟩
  refine ⟨rfl,?_⟩
  refine ⟨q - 1,by omega,j+1,?_,by omega,?_⟩
  ·rw [wi64_of (by omega) (by omega)];simp
  ·rw [htk,List.flatMap_append]
   simp only [fm1,fm2,fm3]
   have e4:N - 8 - 4*j - 2 - 2=N - 8 - 4*(j+1):=by omega
   rw [e4,List.append_assoc,List.append_assoc] at H
   rw [<-List.append_assoc]
   exact H.sub (List.Sublist.refl _) (fun r h=>mt h)
 ·rw [decide_eq_false_iff_not] at hc
  obtain rfl:j=L.length:=by omega
  rw [List.take_length] at H hBl
  refine call_j (c182 H (by omega)) ?_
  clear H;rintro _ w ⟨rfl,H⟩
  refine ⟨_,_,_,_,rfl,?_⟩
  refine sNew H ?_;clear H;intro b33 w _ H
  refine sSw0 H rfl (by kernel_rfl) (by rfl) (by rfl) ?_;clear H;intro w _ H
  refine ⟨_,_,_,_,H.b0.ld,?_⟩
  have e0:N - 8 - 4*L.length=0:=by omega
  rw [e0] at H
  have H1:=H.r1
  clear H
  rw [show wz (b32 s++b32 m++L.flatMap wPar) 0=b32 s++b32 m++L.flatMap wPar by simp [wz]] at H1
  have H:=H1.blkRow 1 N (ob (b32 s++b32 m++L.flatMap wPar)) (by rw [u8s_length,hBl,hN,Nat.mul_one]) (by unfold maxLen;omega) (fun G h=>by
   have e2:∀B:List Int,ob B=(u8s B).map .one:=fun B=>by simp [ob,u8s]
   rw [e2];exact DeepL.ones _)
  clear H1
  refine call_j (hdrOwn H (by decide) (by decide) (by omega)) ?_
  clear H;rintro _ w ⟨g2,rfl,H⟩
  refine ⟨_,_,_,_,rfl,?_⟩
  refine ⟨by simp [isIf],?_⟩
  refine fF ?_
  refine sAppR H ms (by omega) (by omega) ?_
  clear H;intro a2 n2 c2 r2 w hn2 _ H
  exact MPost.own H sl1 (fun r h=>mt h) (by rw [hn2,hN];unfold wrFb;rw [List.length_append,hBl];rfl)
theorem c206 {w:World} {b n k:Nat} {l:Option Addr} (hc:w.cell? ⟨b,2,none⟩=some (.slice l n k)) (hn:n<=100000):Calls pg 206 #[.pointer (some ⟨b,0,none⟩)] w fun en w'=>en=.returned (.int .i64 ((12+4*n:Nat):Int))/\w'=w:=by
 apply of206
 refine ⟨_,rfl,?_⟩
 refine ⟨_,_,_,hc,?_⟩
 refine ⟨?_,rfl⟩
 rw [wi64_of (n:=(n:Int)*4) (by omega) (by omega),wi64_of (by omega) (by omega)]
 congr 2
 omega
theorem c208 {F:Fr} {w:World} {e0:Ex} {ex:List Ex} {ro:List Ro} {b n k:Nat} {T:TypeId} {v0 v1:Value} {l:Option Addr} (H:Sat F w (e0::.blk b T [v0,v1,.slice l n k]::ex) ro) (hn:n<=60000) :
  Calls pg 208 #[.pointer (some ⟨b,0,none⟩)] w fun en w'=>en=.returned (.agg #[.bool false,.int .u8 2,.int .u8 206,.int .u16 ((2+1*n:Nat):Int)])/\Sat F w' (e0::.blk b T [v0,v1,.slice l n k]::ex) ro:=by
 apply of208
 refine sNew H ?_;clear H;intro b9 w _ H
 refine call_j (c206 (show w.cell? ⟨b,2,none⟩=some (.slice l n k) from H.b2.cell rfl) (by omega)) ?_
 rintro _ w' ⟨rfl,rfl⟩
 refine ⟨_,rfl,?_⟩
 refine ⟨by decide,?_⟩
 have e:IntKind.u16.wrap (IntKind.i64.wrap (IntKind.i64.wrap ((((12+4*n:Nat):Int).tdiv 4)) - 1))=((2+1*n:Nat):Int):=by
  rw [Int.tdiv_eq_ediv_of_nonneg (by omega),wi64_of (n:=((12+4*n:Nat):Int) / 4) (by omega) (by omega),wi64_of (by omega) (by omega),wu16]
  omega
 rw [e]
 refine sSw0 H rfl (by kernel_rfl) (by rfl) (by rfl) ?_;clear H;intro w _ H
 refine ⟨_,_,_,_,H.b0.ld,?_⟩
 exact ⟨rfl,H.d1⟩
theorem c205 {F:Fr} {w:World} {ex:List Ex} {ro:List Ro} {s m:Int} {L:List Sli} {l:Option Addr} {k:Nat} (H:Sat F w ex ro) (hs:0<=s/\s < 4294967296) (hm:0<=m/\m < 4294967296) (hl:Ro.deep [.row 3 (L.flatMap Sli.dat)] [.slice l L.length k]∈ro) (hn:L.length<=253) (hR:∀x∈L,(0<=x.1/\x.1 < 8192)/\(0<=x.2.1/\x.2.1 < 8192)/\0<=x.2.2/\x.2.2 < 64) :
  Calls pg 205 #[.agg #[.int .u32 s,.int .u32 m,.slice l L.length k]] w (MPost F ex ro (wrFb 2 206 ((2+1*L.length:Nat):Int) s m (L.flatMap wSli))):=by
 apply of205
 refine sNew H ?_;clear H;intro b1 w _ H
 refine ⟨_,_,_,(H.b0.at0 rfl),?_⟩
 refine ⟨fun h=>by rw [decide_eq_true_eq,wi64_of (by omega) (by omega)] at h;omega,fun _=>?_⟩
 refine ⟨_,_,_,(H.b0.at0 rfl),?_⟩
 refine sMk H (e:=5) (z:=.int .u8 0) (bytes:=1) (by kernel_rfl) (by kernel_rfl) (by rfl) (by unfold maxLen;omega) (by omega) (n:=8+4*L.length) (by rw [wi64_of (n:=(L.length:Int)*4) (by omega) (by omega),wi64_of (by omega) (by omega)];omega) (by rw [wi64_of (n:=(L.length:Int)*4) (by omega) (by omega),wi64_of (by omega) (by omega)];omega) ?_
 clear H;intro g w _ H
 obtain ⟨N,hN⟩:∃N,N=8+4*L.length:=⟨_,rfl⟩
 rw [<-hN] at H ⊢
 rw [u8s_z] at H
 replace H:Sat F w (.blk g 5 (u8s (wz [] N))::_) ro:=H
 refine ⟨_,(H.b1.at0 rfl),?_⟩
 refine call_j (put32 H (by rfl) hs (by omega) (by omega)) ?_
 clear H;rintro _ w ⟨rfl,H⟩
 refine ⟨rfl,?_⟩
 refine ⟨by omega,by omega,?_⟩
 replace H:=H.drew;generalize w.drew=w at H ⊢
 refine ⟨_,(H.b1.at0 rfl),?_⟩
 rw [cutW (q:=4) (by omega) (by rfl)]
 refine call_j (put32 H (by rfl) hm (by omega) (by omega)) ?_
 clear H;rintro _ w ⟨rfl,H⟩
 refine ⟨rfl,?_⟩
 refine ⟨_,_,_,(H.b1.at0 rfl),?_⟩
 refine ⟨fun i q w=>∃j:Nat,i=(j:Int)/\j+q=L.length/\Sat F w (.blk g 5 (u8s (wz (b32 s++b32 m++(L.take j).flatMap wSli) (N - 8 - 4*j)))::.blk b1 227 [.int .u32 s,.int .u32 m,.slice l L.length k]::ex) ro,⟨L.length,0,rfl,by omega,H.sub (List.Sublist.refl _) (fun _ h=>h)⟩,?_⟩
 clear H;rintro dd i q w ⟨j,rfl,hjq,H⟩
 have hBl:(b32 s++b32 m++(L.take j).flatMap wSli).length=8+4*j:=by
  rw [List.length_append,List.length_append,b32_len,b32_len,flat_bd wSli_len,List.length_take]
  omega
 refine ⟨fun hc=>?_,fun hc=>?_⟩
 ·rw [decide_eq_true_eq] at hc
  have hjl:j < L.length:=by omega
  have htk:L.take (j+1)=L.take j++[L[j]]:=by rw [List.take_add_one,List.getElem?_eq_getElem hjl];rfl
  have hRj:=hR L[j] (List.getElem_mem hjl)
  obtain ⟨p,us,e,hus,hcell,H1⟩:=H.eltF Sli.dat_lenK (by decide) hl (j:=j) hjl
  generalize L[j]=E at H1 htk hRj
  obtain ⟨e0,e1,e2⟩:=E
  replace hRj:(0<=e0/\e0 < 8192)/\(0<=e1/\e1 < 8192)/\0<=e2/\e2 < 64:=hRj
  obtain rfl:=H1.ones (us:=[.int .u16 e0,.int .u16 e1,.int .u8 e2]) ms
  clear H
  have H:Sat F w _ (.deep (Sli.dat (e0,e1,e2)) [.int .u16 e0,.int .u16 e1,.int .u8 e2]::_):=H1
  clear H1
  refine ⟨p,e,by omega,by omega,?_⟩
  refine ⟨_,_,_,LdC [.int .u16 e0,.int .u16 e1,.int .u8 e2] (by kernel_rfl) (by rw [show (j:Int).toNat*3=j*3 by omega];exact hcell),?_⟩
  clear hcell
  refine sNew H ?_;clear H;intro b24 w _ H
  refine sSw0 H rfl (by kernel_rfl) (by rfl) (by rfl) ?_;clear H;intro w _ H
  refine ⟨_,(H.b0.at0 rfl),?_⟩
  refine ⟨_,(H.b0.at0 rfl),?_⟩
  refine ⟨_,(H.b0.at0 rfl),?_⟩
  rw [wi64_of (n:=4*(j:Int)) (by omega) (by omega),wi64_of (n:=8+4*(j:Int)) (by omega) (by omega),show (8+4*(j:Int)).toNat=8+4*j by omega]
  refine ⟨by omega,by omega,?_⟩
  rw [cutW (l:=8+4*j) (q:=8+4*j) (by omega) (by omega),sli_v hRj.1 hRj.2.1 hRj.2.2]
  refine call_j (put32 H.r1 hBl.symm (by omega) (by omega) (by omega)) ?_
  clear H;rintro _ w ⟨rfl,H⟩
  refine ⟨rfl,?_⟩
  refine ⟨q - 1,by omega,j+1,?_,by omega,?_⟩
  ·rw [wi64_of (by omega) (by omega)];simp
  ·rw [htk,List.flatMap_append]
   simp only [fm1,fm2,fm3]
   have e4:N - 8 - 4*j - 4=N - 8 - 4*(j+1):=by omega
   rw [e4] at H
   rw [<-List.append_assoc]
   exact H.ds (fun r h=>mt h)
 ·rw [decide_eq_false_iff_not] at hc
  obtain rfl:j=L.length:=by omega
  rw [List.take_length] at H hBl
  refine call_j (c208 H (by omega)) ?_
  clear H;rintro _ w ⟨rfl,H⟩
  refine ⟨_,_,_,_,rfl,?_⟩
  have e0:N - 8 - 4*L.length=0:=by omega
  rw [e0] at H
  have H1:=H
  clear H
  rw [show wz (b32 s++b32 m++L.flatMap wSli) 0=b32 s++b32 m++L.flatMap wSli by simp [wz]] at H1
  have H:=H1.blkRow 1 N (ob (b32 s++b32 m++L.flatMap wSli)) (by rw [u8s_length,hBl,hN,Nat.mul_one]) (by unfold maxLen;omega) (fun G h=>by
   have e2:∀B:List Int,ob B=(u8s B).map .one:=fun B=>by simp [ob,u8s]
   rw [e2];exact DeepL.ones _)
  clear H1
  refine call_j (hdrOwn H (by decide) (by decide) (by omega)) ?_
  clear H;rintro _ w ⟨g2,rfl,H⟩
  refine ⟨_,_,_,_,rfl,?_⟩
  refine ⟨by simp [isIf],?_⟩
  refine fF ?_
  refine sAppR H ms (by omega) (by omega) ?_
  clear H;intro a2 n2 c2 r2 w hn2 _ H
  exact MPost.own H sl1 (fun r h=>mt h) (by rw [hn2,hN];unfold wrFb;rw [List.length_append,hBl];rfl)
theorem c211 {w:World} {b n k:Nat} {l:Option Addr} (hc:w.cell? ⟨b,2,none⟩=some (.slice l n k)) (hn:n<=100000):Calls pg 211 #[.pointer (some ⟨b,0,none⟩)] w fun en w'=>en=.returned (.int .i64 ((12+8*n:Nat):Int))/\w'=w:=by
 apply of211
 refine ⟨_,rfl,?_⟩
 refine ⟨_,_,_,hc,?_⟩
 refine ⟨?_,rfl⟩
 rw [wi64_of (n:=(n:Int)*8) (by omega) (by omega),wi64_of (by omega) (by omega)]
 congr 2
 omega
theorem c213 {F:Fr} {w:World} {e0:Ex} {ex:List Ex} {ro:List Ro} {b n k:Nat} {T:TypeId} {v0 v1:Value} {l:Option Addr} (H:Sat F w (e0::.blk b T [v0,v1,.slice l n k]::ex) ro) (hn:n<=30000) :
  Calls pg 213 #[.pointer (some ⟨b,0,none⟩)] w fun en w'=>en=.returned (.agg #[.bool false,.int .u8 4,.int .u8 206,.int .u16 ((2+2*n:Nat):Int)])/\Sat F w' (e0::.blk b T [v0,v1,.slice l n k]::ex) ro:=by
 apply of213
 refine sNew H ?_;clear H;intro b9 w _ H
 refine call_j (c211 (show w.cell? ⟨b,2,none⟩=some (.slice l n k) from H.b2.cell rfl) (by omega)) ?_
 rintro _ w' ⟨rfl,rfl⟩
 refine ⟨_,rfl,?_⟩
 refine ⟨by decide,?_⟩
 have e:IntKind.u16.wrap (IntKind.i64.wrap (IntKind.i64.wrap ((((12+8*n:Nat):Int).tdiv 4)) - 1))=((2+2*n:Nat):Int):=by
  rw [Int.tdiv_eq_ediv_of_nonneg (by omega),wi64_of (n:=((12+8*n:Nat):Int) / 4) (by omega) (by omega),wi64_of (by omega) (by omega),wu16]
  omega
 rw [e]
 refine sSw0 H rfl (by kernel_rfl) (by rfl) (by rfl) ?_;clear H;intro w _ H
 refine ⟨_,_,_,_,H.b0.ld,?_⟩
 exact ⟨rfl,H.d1⟩
end Go.Proofs.YtkdialecadjedaaGreatDoor
