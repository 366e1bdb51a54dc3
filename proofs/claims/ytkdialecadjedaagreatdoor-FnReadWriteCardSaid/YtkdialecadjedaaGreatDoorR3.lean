/- A part of a proof, joined by a program out of smaller texts (conditions: those that each theorem names). -/
import Derived.Test.YtkdialecadjedaaGreatDoorR2
namespace Go.Proofs.YtkdialecadjedaaGreatDoor
set_option linter.unusedVariables false
set_option linter.unusedSimpArgs false
set_option linter.unusedSectionVars false
set_option maxRecDepth 100000
set_option maxHeartbeats 8000000
open Go
theorem c62 {F:Fr} {w:World} {ex:List Ex} {ro:List Ro} {xs:List Int} {a:Option Addr} {n c:Nat} {p:Nat} (H:Sat F w (.blk p 63 (pk0 4 0 0 false 0 0 0)::ex) ro) (hx:Ro.B xs a n c∈ro) (hb:By xs)
  (hn:n<=1000000) {k:Nat} (hk:k<=31):Calls pg 62 #[.pointer (some ⟨p,0,none⟩),.slice a n c,.int .i64 (k:Int)] w (RdPost F p ex ro (rdBye k xs)):=by
 apply of62
 have hlen:=H.lenB hx
 refine ⟨fun hc=>?_,fun hc=>?_⟩
 ·rw [wi64_of (n:=4*(k:Int)) (by omega) (by omega),decide_eq_true_eq] at hc
  exact RdPost.no (by unfold rdBye;rw [if_pos (by omega)]) H
 rw [wi64_of (n:=4*(k:Int)) (by omega) (by omega),decide_eq_false_iff_not] at hc
 refine ⟨fun b7 b7l b7c x8 m_3 w=>∃(i:Nat) (o:Option Addr) (oc:Nat) (r:Option Nat),x8=(i:Int)/\i+m_3=k/\b7l+4*i=n /\
  Sat F w (.blk p 63 ((pk0 4 0 0 false 0 0 0).set 10 (.slice o i oc))::.own 51 1 o i oc r (oi .u32 (words i xs))::ex) (Ro.B (xs.drop (4*i)) b7 b7l b7c::ro),⟨k,0,none,0,none,rfl,by omega,by omega,?_⟩,?_⟩
 ·exact ((H.addRo (H.hr _ hx)).nilOwn 51 1).u1
 ·clear H;rintro dd2 b7 b7l b7c x8 m_3 w ⟨i,o,oc,r,rfl,hm,hbl,H⟩
  refine ⟨fun hc=>?_,fun hc=>?_⟩
  ·rw [decide_eq_true_eq] at hc
   have hby:By (xs.drop (4*i)):=hb.drop _
   refine ⟨r,?_⟩;replace H:=H.drew;generalize w.drew=wd1 at H ⊢;have K:=grew_refl wd1 (r)
   refine ⟨_,rfl,?_⟩
   refine ⟨(H.ne ms (mt ms)),?_⟩
   refine ⟨H.b0.row,?_⟩
   refine ⟨_,_,_,(H.b0.at0 rfl),?_⟩
   refine call_j (c58 (by exact (Sat.rd H ms)) hby (by omega)) ?_
   rintro _ w ⟨rfl,g⟩
   replace H:=H.grow g;replace K:=gtr K (grew_none _ g);clear g
   refine ⟨_,rfl,?_⟩
   refine ⟨K,?_⟩
   refine ⟨rfl,?_⟩
   refine sNew H ?_;clear H;intro b14 w g H;replace K:=gtr K (grew_none _ g);clear g
   refine ⟨K,?_⟩
   refine sApp2 H (bytes:=4) (by kernel_rfl) [.int .u32 (n32 (xs.drop (4*i)))] [.one (.int .u32 (n32 (xs.drop (4*i))))] (by rfl) (fun j u hu=>by rw [add_flat,Nat.zero_add];exact H.b0.cell hu) (fun G h=>by repeat (exact DeepL.ones _)) (by simp [Value.oneCell']) (by unfold maxLen;omega) (by omega) ?_
   clear H;intro x16 x16l x16c x16r w ex16 g H
   replace K:=gtr K g;clear g;replace H:=H.d1
   refine ⟨K,?_⟩
   refine ⟨_,rfl,?_⟩
   refine sSt0 H (by exact add_flat _ _ _) (by kernel_rfl) (by rfl) (by rfl) ?_;clear H;intro w _ H
   refine ⟨by omega,by omega,?_⟩
   subst ex16
   refine ⟨m_3 - 1,by omega,i+1,x16,x16c,x16r,?_,by omega,by omega,?_⟩
   ·rw [wi64_of (by omega) (by omega)];simp
   ·have H2:=H.skipB ms 4 (by omega)
    rw [List.drop_drop,show 4*i+4=4*(i+1) by omega] at H2
    rw [words_snoc,oi_snoc]
    exact H2.sub (List.Sublist.refl _) (fun r hr=>by (try simp only [List.mem_cons] at hr ⊢);(repeat (first | (rcases hr with rfl | hr;((left;rfl)))  | (simp [hr];done))))
  ·rw [decide_eq_false_iff_not] at hc
   obtain rfl:i=k:=by omega
   have hl7:=H.lenB ms
   generalize hys:xs.drop (4*i)=ys at H hl7
   have hyb:By ys:=by rw [<-hys];exact hb.drop _
   have H1:=H.r1.freeze
   replace H:=H1;clear H1
   have hU:rdBye i xs=if ys.length=0 then some { kind:=4,sources:=words i xs } else
     if ys.length < 1+(ys.getD 0 0).toNat then none else if 3 < ys.length - (1+(ys.getD 0 0).toNat) then none else if 1+(ys.getD 0 0).toNat=1 then none else
     if (ys.drop (1+(ys.getD 0 0).toNat)).all (· == 0) then some { kind:=4,sources:=words i xs,text:=strOfNums ((ys.drop 1).take (1+(ys.getD 0 0).toNat - 1)) } else none:=by
    unfold rdBye
    rw [if_neg (by omega),hys]
   refine ⟨fun hc=>?_,fun hc=>?_⟩
   ·have hc:b7l=0:=by simpa using hc
    refine RdPost.yes { kind:=4,sources:=words i xs } ?_ H (fun r hr=>by (try simp only [List.mem_cons] at hr ⊢);(repeat ((simp [hr];done)))) (fun G h=>by repeat (first | exact DeepL.ones _ | refine dc (Deep.emp _ _) ?_ | refine dc (Deep.one _) ?_ | refine dc (h (.deep [_] [_]) ms).head ?_))
    rw [hU,if_pos (by omega)]
   ·have hc:b7l≠0:=by simpa using hc
    obtain ⟨p_20,rfl,hp_20,kp_20,fp_20⟩:=H.at_ (a:=b7) (xs:=ys) (mt ms) (by omega)
    refine ⟨p_20,rfl,by omega,by omega,?_⟩
    refine ⟨_,hp_20 0 (by omega),?_⟩
    have hy0:=hyb.getD 0
    generalize hl:ys.getD 0 0=L at hU hy0
    have eL:IntKind.i64.wrap ((1:Int)+IntKind.i64.wrap L)=1+L:=by rw [wi64_of (n:=L) (by omega) (by omega),wi64_of (by omega) (by omega)]
    rw [eL]
    refine ⟨fun hc=>?_,fun hc=>?_⟩
    ·rw [decide_eq_true_eq] at hc
     exact RdPost.no (by rw [hU,if_neg (by omega),if_pos (by omega)]) (H.sub (List.Sublist.refl _) (fun r hr=>by (try simp only [List.mem_cons] at hr ⊢);(repeat ((simp [hr];done)))))
    rw [decide_eq_false_iff_not] at hc
    rw [wi64_of (n:=(b7l:Int) - (1+L)) (by omega) (by omega)]
    refine ⟨fun hc2=>?_,fun hc2=>?_⟩
    ·rw [decide_eq_true_eq] at hc2
     exact RdPost.no (by rw [hU,if_neg (by omega),if_neg (by omega),if_pos (by omega)]) (H.sub (List.Sublist.refl _) (fun r hr=>by (try simp only [List.mem_cons] at hr ⊢);(repeat ((simp [hr];done)))))
    rw [decide_eq_false_iff_not] at hc2
    refine ⟨fun hc3=>?_,fun hc3=>?_⟩
    ·have hc3:1+L=1:=by simpa using hc3
     exact RdPost.no (by rw [hU,if_neg (by omega),if_neg (by omega),if_neg (by omega),if_pos (by omega)]) (H.sub (List.Sublist.refl _) (fun r hr=>by (try simp only [List.mem_cons] at hr ⊢);(repeat ((simp [hr];done)))))
    have hc3:¬1+L=1:=by simpa using hc3
    have hcap:=(H.deep1 (d:=.row 1 (ob ys)) (v:=.slice (some p_20) b7l b7c) (mt ms)).len
    refine ⟨by omega,by omega,?_⟩
    refine ⟨by omega,by omega,?_⟩
    have HT:=H.cutB (xs:=ys) (a:=some p_20) (n:=b7l) (c:=b7c) (mt ms) 1 (1+L).toNat (by omega) (by omega)
    refine ⟨_,_,sStr HT ms uSl uU8 uStr,?_⟩
    clear HT
    refine ⟨_,rfl,?_⟩
    refine sSt0 H (by exact add_flat _ _ _) (by kernel_rfl) (by rfl) (by rfl) ?_;clear H;intro w _ H
    refine ⟨by omega,by omega,?_⟩
    have H1:=H.skipB (xs:=ys) (a:=some p_20) (n:=b7l) (c:=b7c) (mt ms) (1+L).toNat (by omega)
    replace H:=H1;clear H1
    refine ⟨fun x32 m_28 w=>∃j:Nat,x32=(j:Int)/\j+m_28=b7l - (1+L).toNat/\(∀q,q < j->(ys.drop (1+L).toNat).getD q 0=0)/\Sat F w (.blk p 63 (((pk0 4 0 0 false 0 0 0).set 10 (.slice o i oc)).set 11 (.string (strOfNums ((ys.drop 1).take ((1+L).toNat - 1)))))::ex)
     (Ro.B (ys.drop (1+L).toNat) (cutA (some p_20) (1+L).toNat b7c 1) (b7l - (1+L).toNat) (b7c - (1+L).toNat)::.deep [.row 1 (oi .u32 (words i xs))] [.slice o i oc]::ro),⟨_,0,rfl,Nat.zero_add _,by simp,?_⟩,?_⟩
    ·exact H.sub (List.Sublist.refl _) (fun r hr=>by (try simp only [List.mem_cons] at hr ⊢);(repeat (first | (rcases hr with rfl | hr;(first | (left;rfl) | (right;left;rfl)))  | (simp [hr];done))))
    ·clear H;rintro dd27 x32 m_28 w ⟨j,rfl,hj,hz,H⟩
     refine ⟨fun hc=>?_,fun hc=>?_⟩
     ·rw [decide_eq_true_eq] at hc
      obtain ⟨p_33,ep_33,hp_33,kp_33,fp_33⟩:=H.at_ ms (by omega)
      refine ⟨p_33,ep_33,by omega,by omega,?_⟩
      refine ⟨_,hp_33 _ (by omega),?_⟩
      rw [show (j:Int).toNat*1=j by omega]
      refine ⟨fun hc4=>?_,fun hc4=>?_⟩
      ·have hc4:¬(ys.drop (1+L).toNat).getD j 0=0:=by simpa using hc4
       refine RdPost.no ?_ (H.sub (List.Sublist.refl _) (fun r hr=>by (try simp only [List.mem_cons] at hr ⊢);(repeat ((simp [hr];done)))))
       have hall:¬((ys.drop (1+L.toNat)).all (· == 0))=true:=by
        rw [show 1+L.toNat=(1+L).toNat by omega,all_zero]
        exact fun h=>hc4 (h j (by rw [List.length_drop];omega))
       rw [hU,if_neg (by omega),if_neg (by omega),if_neg (by omega),if_neg (by omega),if_neg hall]
      ·have hc4:(ys.drop (1+L).toNat).getD j 0=0:=by simpa using hc4
       refine ⟨m_28 - 1,by omega,j+1,?_,by omega,?_,H⟩
       ·rw [wi64_of (by omega) (by omega)];simp
       ·intro q hq
        rcases Nat.lt_or_ge q j with h | h
        ·exact hz q h
        ·obtain rfl:q=j:=by omega
         exact hc4
     ·rw [decide_eq_false_iff_not] at hc
      have hall:(ys.drop (1+L.toNat)).all (· == 0)=true:=by
       rw [show 1+L.toNat=(1+L).toNat by omega,all_zero]
       exact fun q hq=>hz q (by rw [List.length_drop] at hq;omega)
      refine RdPost.yes { kind:=4,sources:=words i xs,text:=strOfNums ((ys.drop 1).take (1+L.toNat - 1)) } ?_ H (fun r hr=>by (try simp only [List.mem_cons] at hr ⊢);(repeat ((simp [hr];done)))) ?_
      ·rw [hU,if_neg (by omega),if_neg (by omega),if_neg (by omega),if_neg (by omega),if_pos hall]
      ·rw [show 1+L.toNat - 1=(1+L).toNat - 1 by omega]
       exact (fun G h=>by repeat (first | exact DeepL.ones _ | refine dc (Deep.emp _ _) ?_ | refine dc (Deep.one _) ?_ | refine dc (h (.deep [_] [_]) (mt ms)).head ?_))
theorem tmod_nat (j k:Nat):((j:Int).tmod (k:Int))=((j % k:Nat):Int):=by
 rw [Int.tmod_eq_emod_of_nonneg (by omega)];simp
theorem c61 {F:Fr} {w:World} {ex:List Ex} {ro:List Ro} {xs:List Int} {a:Option Addr} {n c:Nat} {p:Nat} (H:Sat F w (.blk p 63 (pk0 3 0 0 false 0 0 0)::ex) ro) (hx:Ro.B xs a n c∈ro) (hb:By xs)
  (hn:n<=1000000) {k:Nat} (hk:k<=31):Calls pg 61 #[.pointer (some ⟨p,0,none⟩),.slice a n c,.int .i64 (k:Int)] w (RdPost F p ex ro ((chks k xs).map fun l=>{ kind:=3,chunks:=l })):=by
 apply of61
 refine ⟨fun b7 b7l b7c x8 m_3 w=>∃(i:Nat) (o:Option Addr) (oc:Nat) (r:Option Nat) (ys:List Int) (done:List Chk),x8=(i:Int)/\i+m_3=k/\b7l<=n/\By ys/\done.length=i/\chks k xs=(chks (k - i) ys).map (done++·) /\
  Sat F w (.blk p 63 ((pk0 3 0 0 false 0 0 0).set 9 (.slice o i oc))::.own 147 2 o i oc r (done.flatMap Chk.dat)::ex) (Ro.B ys b7 b7l b7c::ro),⟨k,0,none,0,none,xs,[],rfl,by omega,Nat.le_refl _,hb,rfl,?_,?_⟩,?_⟩
 ·rw [Nat.sub_zero];cases chks k xs<;>simp
 ·exact ((H.addRo (H.hr _ hx)).nilOwn 147 2).u1
 clear H;rintro dd2 b7 b7l b7c x8 m_3 w ⟨i,o,oc,r,ys,done,rfl,hm,hbl,hby,hdl,hch,H⟩
 have hyl:=H.lenB ms
 refine ⟨fun hc=>?_,fun hc=>?_⟩
 ·rw [decide_eq_true_eq] at hc
  obtain ⟨q,hq⟩:∃q,k - i=q+1:=⟨k - i - 1,by omega⟩
  rw [hq,chks] at hch
  refine ⟨fun hc2=>?_,fun hc2=>?_⟩
  ·rw [decide_eq_true_eq] at hc2
   rw [if_pos (by omega)] at hch
   exact RdPost.no (by rw [hch];rfl) (H.ds (fun r hr=>by (try simp only [List.mem_cons] at hr ⊢);(repeat ((simp [hr];done)))))
  rw [decide_eq_false_iff_not] at hc2
  rw [if_neg (by omega)] at hch
  refine call_j (c58 (by exact (Sat.rd H ms)) hby (by omega)) ?_
  rintro _ w ⟨rfl,g⟩
  replace H:=H.grow g;clear g
  refine ⟨_,rfl,?_⟩
  refine sNew H ?_;clear H;intro b11 w _ H
  refine sSw0 H rfl (by kernel_rfl) (by rfl) (by rfl) ?_;clear H;intro w _ H
  replace H:=H.nilOwn 149 2
  refine ⟨fun at_20 m_16 w=>∃(j:Nat) (its:List Itm) (o2:Option Addr) (oc2:Nat) (r2:Option Nat),at_20=(j:Int)/\4<=j/\j<=b7l/\b7l < j+m_16/\its.length<=j/\items ys ys.length 4=(items ys m_16 j).map (fun q=>(its++q.1,q.2)) /\
   Sat F w (.own 149 2 o2 its.length oc2 r2 (its.flatMap Itm.dat)::.blk b11 147 [.int .u32 (n32 ys),.slice o2 its.length oc2]::.blk p 63 ((pk0 3 0 0 false 0 0 0).set 9 (.slice o i oc))::.own 147 2 o i oc r (done.flatMap Chk.dat)::ex) (Ro.B ys b7 b7l b7c::ro),
   ⟨b7l,4,[],none,0,none,rfl,by omega,by omega,by omega,by simp,?_,H⟩,?_⟩
  ·rw [hyl];cases items ys b7l 4<;>simp
  clear H;rintro dd15 at_20 m_16 w ⟨j,its,o2,oc2,r2,rfl,hj4,hjl,hfu,hil,hit,H⟩
  obtain ⟨f,rfl⟩:∃f,m_16=f+1:=⟨m_16 - 1,by omega⟩
  rw [items] at hit
  refine ⟨fun hc3=>?_,fun hc3=>?_⟩
  ·rw [decide_eq_true_eq] at hc3
   rw [if_pos (by omega)] at hit
   rw [hit] at hch
   exact RdPost.no (by rw [hch];rfl) (H.ds (fun r hr=>by (try simp only [List.mem_cons] at hr ⊢);(repeat ((simp [hr];done)))))
  rw [decide_eq_false_iff_not] at hc3
  rw [if_neg (by omega)] at hit
  obtain ⟨p_21,rfl,hp_21,kp_21,fp_21⟩:=H.at_ (a:=b7) (xs:=ys) ms (by omega)
  refine ⟨p_21,rfl,by omega,by omega,?_⟩
  refine ⟨_,hp_21 _ (by omega),?_⟩
  rw [show (j:Int).toNat*1=j by omega]
  refine ⟨fun hc4=>?_,fun hc4=>?_⟩
  ·have hc4:ys.getD j 0=0:=by simpa using hc4
   rw [if_pos hc4] at hit
   have hit2:items ys ys.length 4=some (its,j+1):=by rw [hit];simp
   rw [hit2] at hch
   simp only at hch
   generalize hZ:zeros ys 3 (j+1)=Z at hch
   rw [wi64_of (n:=(j:Int)+1) (by omega) (by omega)]
   refine ⟨fun at_29 m_25 w=>∃z:Nat,at_29=(z:Int)/\z+m_25=j+1+3/\j+1<=z/\z<=b7l/\(∀q,j+1<=q->q < z->q % 4≠0)/\Z=zeros ys m_25 z /\
    Sat F w (.own 149 2 o2 its.length oc2 r2 (its.flatMap Itm.dat)::.blk b11 147 [.int .u32 (n32 ys),.slice o2 its.length oc2]::.blk p 63 ((pk0 3 0 0 false 0 0 0).set 9 (.slice o i oc))::.own 147 2 o i oc r (done.flatMap Chk.dat)::ex) (Ro.B ys (some p_21) b7l b7c::ro),
    ⟨3,j+1,by omega,rfl,Nat.le_refl _,by omega,fun q h1 h2=>by omega,hZ.symm,H⟩,?_⟩
   clear H;rintro dd24 at_29 m_25 w ⟨z,rfl,hzm,hzj,hzl,hzq,hze,H⟩
   refine ⟨by omega,?_⟩
   rw [show ((z:Int).tmod (4:Int))=((z % 4:Nat):Int) from tmod_nat z 4]
   refine ⟨fun hc5=>?_,fun hc5=>?_⟩
   ·have hc5:z % 4≠0:=by
     have:¬((z % 4:Nat):Int)=0:=by simpa using hc5
     omega
    obtain ⟨f2,rfl⟩:∃f2,m_25=f2+1:=⟨m_25 - 1,by
     have h1:=hzq (j+1);have h2:=hzq (j+2);have h3:=hzq (j+3)
     omega⟩
    rw [zeros,if_neg hc5] at hze
    refine ⟨fun hc6=>?_,fun hc6=>?_⟩
    ·rw [decide_eq_true_eq] at hc6
     rw [if_pos (by omega)] at hze
     rw [hze] at hch
     exact RdPost.no (by rw [hch];rfl) (H.ds (fun r hr=>by (try simp only [List.mem_cons] at hr ⊢);(repeat ((simp [hr];done)))))
    rw [decide_eq_false_iff_not] at hc6
    rw [if_neg (by omega)] at hze
    obtain ⟨p_30,ep_30,hp_30,kp_30,fp_30⟩:=H.at_ (a:=some p_21) (xs:=ys) ms (by omega)
    refine ⟨p_30,ep_30,by omega,by omega,?_⟩
    refine ⟨_,hp_30 _ (by omega),?_⟩
    rw [show (z:Int).toNat*1=z by omega]
    refine ⟨fun hc7=>?_,fun hc7=>?_⟩
    ·have hc7:¬ys.getD z 0=0:=by simpa using hc7
     rw [if_neg hc7] at hze
     rw [hze] at hch
     exact RdPost.no (by rw [hch];rfl) (H.ds (fun r hr=>by (try simp only [List.mem_cons] at hr ⊢);(repeat ((simp [hr];done)))))
    ·have hc7:ys.getD z 0=0:=by simpa using hc7
     rw [if_pos hc7] at hze
     refine ⟨f2,by omega,z+1,?_,by omega,by omega,by omega,fun q h1 h2=>?_,hze,H⟩
     ·rw [wi64_of (by omega) (by omega)];simp
     ·rcases Nat.lt_or_ge q z with h | h
      ·exact hzq q h1 h
      ·obtain rfl:q=z:=by omega
       exact hc5
   ·have hc5:z % 4=0:=by
     have:((z % 4:Nat):Int)=0:=by simpa using hc5
     omega
    have hze2:Z=some z:=by
     rw [hze]
     cases m_25<;>(unfold zeros;rw [if_pos hc5])
    rw [hze2] at hch
    simp only at hch
    replace H:=H.freeze
    refine ⟨r,?_⟩;replace H:=H.drew;generalize w.drew=wd1 at H ⊢;have K:=grew_refl wd1 (r)
    refine ⟨_,rfl,?_⟩
    refine ⟨(H.ne (mt ms) (mt (mt ms))),?_⟩
    refine ⟨H.b1.row,?_⟩
    refine ⟨_,_,_,(H.b1.at0 rfl),?_⟩
    refine ⟨(H.ne ms (mt (mt ms))),?_⟩
    refine ⟨H.b0.row,?_⟩
    refine ⟨_,_,_,_,H.b0.ld,?_⟩
    refine ⟨rfl,?_⟩
    refine sNew H ?_;clear H;intro b37 w g H;replace K:=gtr K (grew_none _ g);clear g
    refine ⟨K,?_⟩
    refine sApp3 H (bytes:=32) (by kernel_rfl) [.int .u32 (n32 ys),.slice o2 its.length oc2] (Chk.dat (n32 ys,its)) (by rfl) (fun j u hu=>by rw [add_flat,Nat.zero_add];exact H.b0.cell hu) (fun G h=>by repeat (first | exact DeepL.nil _ _ | refine dc (Deep.one _) ?_ | refine dc (h (.deep [_] [_]) ms).head ?_)) (by simp [Value.oneCell']) (by unfold maxLen;omega) (by omega) ?_
    clear H;intro x39 x39l x39c x39r w ex39 g H
    replace K:=gtr K g;clear g;replace H:=H.d1
    refine ⟨K,?_⟩
    refine ⟨_,rfl,?_⟩
    refine sSt1 H (by exact add_flat _ _ _) (by kernel_rfl) (by rfl) (by rfl) ?_;clear H;intro w _ H
    refine ⟨by omega,by omega,?_⟩
    subst ex39
    refine ⟨m_3 - 1,by omega,i+1,x39,x39c,x39r,ys.drop z,done++[(n32 ys,its)],?_,by omega,by omega,hby.drop _,by simp [hdl],?_,?_⟩
    ·rw [wi64_of (by omega) (by omega)];simp
    ·rw [hch,show k - (i+1)=q by omega]
     cases chks q (ys.drop z)<;>simp
    ·have H2:=H.skipB (xs:=ys) (a:=some p_21) (n:=b7l) (c:=b7c) (mt ms) z (by omega)
     rw [List.flatMap_append]
     exact H2.sub (by repeat (first | exact List.Sublist.refl _ | apply List.Sublist.cons)) (fun r hr=>by (try simp only [List.mem_cons] at hr ⊢);(repeat (first | (rcases hr with rfl | hr;((left;rfl)))  | (simp [hr];done))))
  ·have hc4:¬ys.getD j 0=0:=by simpa using hc4
   rw [if_neg hc4] at hit
   rw [wi64_of (n:=(j:Int)+2) (by omega) (by omega),wi64_of (n:=(j:Int)+1) (by omega) (by omega)]
   refine ⟨fun hc5=>?_,fun hc5=>?_⟩
   ·rw [decide_eq_true_eq] at hc5
    rw [if_pos (by omega)] at hit
    rw [hit] at hch
    exact RdPost.no (by rw [hch];rfl) (H.ds (fun r hr=>by (try simp only [List.mem_cons] at hr ⊢);(repeat ((simp [hr];done)))))
   rw [decide_eq_false_iff_not] at hc5
   rw [if_neg (by omega)] at hit
   refine ⟨p_21,rfl,by omega,by omega,?_⟩
   refine ⟨_,hp_21 _ (by omega),?_⟩
   rw [show ((j:Int)+1).toNat*1=j+1 by omega]
   have hy1:=hby.getD (j+1)
   generalize hL:ys.getD (j+1) 0=L at hit hy1
   rw [wi64_of (n:=L) (by omega) (by omega),wi64_of (n:=(j:Int)+2+L) (by omega) (by omega)]
   refine ⟨fun hc6=>?_,fun hc6=>?_⟩
   ·rw [decide_eq_true_eq] at hc6
    rw [if_pos (by omega)] at hit
    rw [hit] at hch
    exact RdPost.no (by rw [hch];rfl) (H.ds (fun r hr=>by (try simp only [List.mem_cons] at hr ⊢);(repeat ((simp [hr];done)))))
   rw [decide_eq_false_iff_not] at hc6
   rw [if_neg (by omega)] at hit
   have hcap:=(H.deep1 (d:=.row 1 (ob ys)) (v:=.slice (some p_21) b7l b7c) ms).len
   refine ⟨r2,?_⟩;replace H:=H.drew;generalize w.drew=wd2 at H ⊢;have K:=grew_refl wd2 (r2)
   refine ⟨(H.ne (mt ms) ms),?_⟩
   refine ⟨H.b1.row,?_⟩
   refine ⟨_,_,_,(H.b1.at0 rfl),?_⟩
   obtain ⟨p_47,ep_47,hp_47,kp_47,fp_47⟩:=H.at_ (a:=some p_21) (xs:=ys) ms (by omega)
   cases ep_47
   refine ⟨p_21,rfl,by omega,by omega,?_⟩
   refine ⟨H.ne_own ms (fp_47 _),?_⟩
   refine ⟨kp_47 _,?_⟩
   refine ⟨_,hp_47 _ (by omega),?_⟩
   refine ⟨p_21,rfl,by omega,by omega,?_⟩
   refine ⟨H.ne_own ms (fp_47 _),?_⟩
   refine ⟨kp_47 _,?_⟩
   refine ⟨_,hp_47 _ (by omega),?_⟩
   rw [hL]
   rw [wi64_of (n:=L) (by omega) (by omega),wi64_of (n:=(j:Int)+2+L) (by omega) (by omega)]
   refine ⟨by omega,by omega,?_⟩
   refine ⟨by omega,by omega,?_⟩
   have HT:=H.cutB (xs:=ys) (a:=some p_21) (n:=b7l) (c:=b7c) ms (j+2) (j+2+L.toNat) (by omega) (by omega)
   rw [show ((j:Int)+2+L).toNat=j+2+L.toNat by omega,show ((j:Int)+2).toNat=j+2 by omega]
   refine ⟨_,strRow HT ms (fun b hb=>HT.in_foots ms hb) uSl uU8 uStr,?_⟩
   clear HT
   refine ⟨rfl,?_⟩
   refine sNew H ?_;clear H;intro b52 w g H;replace K:=gtr K (grew_none _ g);clear g
   refine ⟨K,?_⟩
   refine sApp1 H (bytes:=24) (by kernel_rfl) [.int .u8 (ys.getD j 0),.string (strOfNums ((ys.drop (j+2)).take (j+2+L.toNat - (j+2))))] (Itm.dat (ys.getD j 0,strOfNums ((ys.drop (j+2)).take (j+2+L.toNat - (j+2))))) (by rfl) (fun j u hu=>by rw [add_flat,Nat.zero_add];exact H.b0.cell hu) (fun G h=>by repeat (exact DeepL.ones _)) (by simp [Value.oneCell']) (by unfold maxLen;omega) (by omega) ?_
   clear H;intro x54 x54l x54c x54r w ex54 g H
   replace K:=gtr K g;clear g;replace H:=H.d1
   refine ⟨K,?_⟩
   refine sSt1 H (by exact add_flat _ _ _) (by kernel_rfl) (by rfl) (by rfl) ?_;clear H;intro w _ H
   obtain ⟨p_57,ep_57,hp_57,kp_57,fp_57⟩:=H.at_ (a:=some p_21) (xs:=ys) ms (by omega)
   cases ep_57
   refine ⟨p_21,rfl,by omega,by omega,?_⟩
   refine ⟨_,hp_57 _ (by omega),?_⟩
   rw [hL]
   rw [wi64_of (n:=L) (by omega) (by omega),wi64_of (n:=(2:Int)+L) (by omega) (by omega),wi64_of (n:=(j:Int)+(2+L)) (by omega) (by omega)]
   subst ex54
   refine ⟨f,by omega,j+2+L.toNat,its++[(ys.getD j 0,strOfNums ((ys.drop (j+2)).take L.toNat))],x54,x54c,x54r,by omega,by omega,by omega,by omega,by simp;omega,?_,?_⟩
   ·rw [hit]
    cases items ys f (j+2+L.toNat)<;>simp
   ·rw [List.flatMap_append,List.length_append]
    rw [show j+2+L.toNat - (j+2)=L.toNat by omega] at H
    exact H
 ·rw [decide_eq_false_iff_not] at hc
  obtain rfl:i=k:=by omega
  rw [Nat.sub_self,chks] at hch
  replace H:=H.r1.freeze
  by_cases h0:ys.length=0
  ·rw [if_pos h0] at hch
   have e:((b7l:Int) == (0:Int))=true:=by simp;omega
   rw [e]
   refine RdPost.yes { kind:=3,chunks:=done } (by rw [hch];simp) H (fun r hr=>by (try simp only [List.mem_cons] at hr ⊢);(repeat ((simp [hr];done)))) (fun G h=>by repeat (first | exact DeepL.ones _ | refine dc (Deep.emp _ _) ?_ | refine dc (Deep.one _) ?_ | refine dc (h (.deep [_] [_]) ms).head ?_))
  ·rw [if_neg h0] at hch
   have e:((b7l:Int) == (0:Int))=false:=by simp;omega
   rw [e]
   exact RdPost.no (by rw [hch];rfl) (H.sub (by repeat (exact List.Sublist.refl _)) (fun r hr=>by (try simp only [List.mem_cons] at hr ⊢);(repeat ((simp [hr];done)))))
theorem byte_inj {x y:Int} (hx:0<=x/\x < 256) (hy:0<=y/\y < 256) (h:UInt8.ofNat x.toNat=UInt8.ofNat y.toNat):x=y:=by
 have:=congrArg UInt8.toNat h
 simp only [UInt8.toNat_ofNat'] at this
 omega
theorem bytes_inj:∀{xs ys:List Int},By xs->By ys->(xs.map fun n=>UInt8.ofNat n.toNat)=(ys.map fun n=>UInt8.ofNat n.toNat)->xs=ys
 | [],[],_,_,_=>rfl
 | [],_::_,_,_,h=>by simp at h
 | _::_,[],_,_,h=>by simp at h
 | x::xs,y::ys,hx,hy,h=>by
  simp only [List.map_cons,List.cons.injEq] at h
  rw [byte_inj (hx x (by simp)) (hy y (by simp)) h.1,bytes_inj (fun z hz=>hx z (by simp [hz])) (fun z hz=>hy z (by simp [hz])) h.2]
theorem str_eq {xs ys:List Int} (hx:By xs) (hy:By ys):(strOfNums xs).toList=(strOfNums ys).toList↔xs=ys:=by
 rw [Lib.strOfNums_toList,Lib.strOfNums_toList]
 exact ⟨fun h=>bytes_inj hx hy h,fun h=>by rw [h]⟩
theorem remb_str {xs:List Int} (hx:By xs):((strOfNums xs).toList == (ByteArray.mk #[82,69,77,66]).toList)=decide (xs=[82,69,77,66]):=by
 have e:(ByteArray.mk #[82,69,77,66])=strOfNums [82,69,77,66]:=by rfl
 have hy:By [82,69,77,66]:=by intro x hx;simp at hx;omega
 rw [e,Bool.eq_iff_iff,beq_iff_eq,str_eq hx hy,decide_eq_true_eq]
theorem run_f32bits {w:World} {b:Nat}:(callFunc 105 #[.float .f32 b]).run pg w=.ok (.value (.int .u32 b)) w:=by
 rw [run_callFunc_extern (fn:=Tryz.f105) (e:=Extern.MathFloatBits.float32bits) Tryz.func105 (by kernel_rfl) (by kernel_rfl) (by kernel_rfl) (by kernel_rfl)]
 rfl
theorem uU32:pg.underlying 51=some (.int .u32):=by kernel_rfl
theorem uF64:pg.underlying 272=some (.float .f64):=by kernel_rfl
theorem uF32:pg.underlying 236=some (.float .f32):=by kernel_rfl
theorem c93 {F:Fr} {w:World} {ex:List Ex} {ro:List Ro} {xs:List Int} {a:Option Addr} {n c:Nat} {p:Nat} {s m:Int} (H:Sat F w (.blk p 63 (pk0 12 s m false 0 0 0)::ex) ro) (hx:Ro.B xs a n c∈ro) (hb:By xs)
  (hn:n<=1000000):Calls pg 93 #[.pointer (some ⟨p,0,none⟩),.slice a n c] w (RdPost F p ex ro (rdRemb s m xs)):=by
 apply of93
 have hlen:=H.lenB hx
 refine ⟨fun hc=>?_,fun hc=>?_⟩
 ·rw [decide_eq_true_eq] at hc
  exact RdPost.no (by unfold rdRemb;rw [if_pos (by omega)]) H
 rw [decide_eq_false_iff_not] at hc
 refine ⟨_,rfl,?_⟩
 refine ⟨_,(H.b0.at0 rfl),?_⟩
 refine ⟨fun hc2=>?_,fun hc2=>?_⟩
 ·have hc2:m≠0:=by simpa using hc2
  exact RdPost.no (by unfold rdRemb;rw [if_neg (by omega),if_pos hc2]) H
 have hc2:¬m≠0:=by simpa using hc2
 have hcap:=(H.deep1 hx).len
 refine ⟨by omega,by omega,?_⟩
 have HT:=H.cutB hx 0 4 (by omega) (by omega)
 refine ⟨_,_,sStr HT ms uSl uU8 uStr,?_⟩
 clear HT
 have hb4:By ((xs.drop 0).take (4 - 0)):=(hb.drop 0).take _
 rw [remb_str hb4]
 refine ⟨fun hc3=>?_,fun hc3=>?_⟩
 ·have hc3:xs.take 4≠[82,69,77,66]:=by simpa using hc3
  exact RdPost.no (by unfold rdRemb;rw [if_neg (by omega),if_neg hc2,if_pos hc3]) H
 have hc3:¬xs.take 4≠[82,69,77,66]:=by simpa using hc3
 obtain ⟨p_5,rfl,hp_5,kp_5,fp_5⟩:=H.at_ (a:=a) (xs:=xs) hx (by omega)
 refine ⟨p_5,rfl,by omega,by omega,?_⟩
 refine ⟨_,hp_5 4 (by omega),?_⟩
 have h4:=hb.getD 4
 generalize hC:xs.getD 4 0=C at h4
 rw [wi64_of (n:=C) (by omega) (by omega),wi64_of (n:=4*C) (by omega) (by omega),wi64_of (n:=8+4*C) (by omega) (by omega)]
 refine ⟨fun hc4=>?_,fun hc4=>?_⟩
 ·have hc4:¬(n:Int)=8+4*C:=by simpa using hc4
  exact RdPost.no (by unfold rdRemb;rw [if_neg (by omega),if_neg hc2,if_neg hc3,if_pos (by rw [hC];omega)]) H
 have hc4:(n:Int)=8+4*C:=by simpa using hc4
 refine ⟨by omega,by omega,?_⟩
 refine call_j (c92 (by exact Rd.skip (Sat.rd H (by assumption)) _ (by omega)) (by repeat (first | assumption | apply By.drop)) (by omega)) ?_
 rintro _ w ⟨rfl,g⟩
 replace H:=H.grow g;clear g
 refine ⟨_,rfl,?_⟩
 have hv:=n24_lt (hb.drop 5)
 have eU:rdRemb s m xs=if n24 (xs.drop 5) % 262144=0 then none else some { kind:=12,sender:=s,bits:=sgl (n24 (xs.drop 5) % 262144).toNat (n24 (xs.drop 5) / 262144).toNat,sources:=words C.toNat (xs.drop 8) }:=by
  unfold rdRemb;rw [if_neg (by omega),if_neg hc2,if_neg hc3,if_neg (by rw [hC];omega),hC]
 generalize n24 (xs.drop 5)=V at hv eU
 have e1:iand .u32 V (262143:Int)=V % 262144:=iand_low (k:=.u32) (by rfl) 18 hv.1 (by simp only [IntKind.bits];omega) (by omega) (by decide)
 have e2:ishr .u32 V (18:Int)=V / 262144:=ishr_of 18 (by rfl) (by decide)
 rw [e1,e2]
 refine ⟨fun hc5=>?_,fun hc5=>?_⟩
 ·have hc5:V % 262144=0:=by simpa using hc5
  exact RdPost.no (by rw [eU,if_pos hc5]) H
 have hc5:¬V % 262144=0:=by simpa using hc5
 rw [if_neg hc5] at eU
 obtain ⟨M,hM⟩:∃M:Nat,V % 262144=(M:Int):=⟨(V % 262144).toNat,by omega⟩
 obtain ⟨E,hE⟩:∃E:Nat,V / 262144=(E:Int):=⟨(V / 262144).toNat,by omega⟩
 rw [hM] at hc5
 rw [hM,hE] at eU
 rw [hM,hE,wi64_of (n:=(E:Int)) (by omega) (by omega)]
 rw [Int.toNat_natCast,Int.toNat_natCast] at eU
 have hM0:0 < M:=by omega
 have hM1:M < 262144:=by omega
 have hE1:E<=63:=by omega
 refine ⟨dbl M 0,w,?_,?_⟩
 ·have:=dbl_of_int hM0 hM1
  simp only [convert,Sem.run_bind,run_underlying uU32,run_underlying uF64,Result.andThen_ok,Conv.intToFloat,Sem.run_pure,FloatKind.nearest,FloatKind.encode,FloatKind.format,Ieee.Format.write,Int.natAbs_natCast]
  rw [show decide ((M:Int) < 0)=false by simp,this]
 refine ⟨fun f_17 x18 m_13 w=>∃i:Nat,x18=(i:Int)/\i+m_13=E/\f_17=dbl M i/\Sat F w (.blk p 63 (pk0 12 s m false 0 0 0)::ex) ro,⟨E,0,rfl,by omega,rfl,H⟩,?_⟩
 clear H;rintro dd12 f_17 x18 m_13 w ⟨i,rfl,hi,rfl,H⟩
 refine ⟨fun hc=>?_,fun hc=>?_⟩
 ·rw [decide_eq_true_eq] at hc
  refine ⟨dbl M (i+1),w,run_float_arith w .mul _ .f64 _ _ _ (dbl_mul hM0 hM1 (by omega)),?_⟩
  refine ⟨m_13 - 1,by omega,i+1,?_,by omega,rfl,H⟩
  rw [wi64_of (by omega) (by omega)];simp
 rw [decide_eq_false_iff_not] at hc
 obtain rfl:E=i:=by omega
 refine ⟨sgl M E,w,run_convert_float_float w _ _ .f64 .f32 _ _ (by rw [uF64];rfl) uF32 (sgl_of_dbl hM0 hM1 hE1),?_⟩
 refine ⟨_,w,run_f32bits,?_⟩
 generalize sgl M E=BB at eU ⊢
 refine ⟨_,rfl,?_⟩
 refine sSt0 H (by exact add_flat _ _ _) (by kernel_rfl) (by rfl) (by rfl) ?_;clear H;intro w _ H
 refine ⟨by omega,by omega,?_⟩
 have H1:=H.skipB hx 8 (by omega)
 replace H:=H1;clear H1
 generalize hys:xs.drop 8=ys at H eU
 have hyb:By ys:=by rw [<-hys];exact hb.drop _
 refine ⟨fun b33 b33l b33c m_29 w=>∃(i:Nat) (o:Option Addr) (oc:Nat) (r:Option Nat),i+m_29=C.toNat/\b33l+4*i=4*C.toNat /\
  Sat F w (.blk p 63 (((pk0 12 s m false 0 0 0).set 17 (.int .u32 BB)).set 10 (.slice o i oc))::.own 51 1 o i oc r (oi .u32 (words i ys))::ex) (Ro.B (ys.drop (4*i)) b33 b33l b33c::ro),⟨C.toNat,0,none,0,none,by omega,by omega,?_⟩,?_⟩
 ·exact (H.nilOwn 51 1).u1
 clear H;rintro dd28 b33 b33l b33c m_29 w ⟨i,o,oc,r,hi,hbl,H⟩
 refine ⟨fun hc=>?_,fun hc=>?_⟩
 ·rw [decide_eq_true_eq] at hc
  have hby:By (ys.drop (4*i)):=hyb.drop _
  refine ⟨r,?_⟩;replace H:=H.drew;generalize w.drew=wd1 at H ⊢;have K:=grew_refl wd1 (r)
  refine ⟨_,rfl,?_⟩
  refine ⟨(H.ne ms (mt ms)),?_⟩
  refine ⟨H.b0.row,?_⟩
  refine ⟨_,_,_,(H.b0.at0 rfl),?_⟩
  refine call_j (c58 (by exact (Sat.rd H ms)) hby (by omega)) ?_
  rintro _ w ⟨rfl,g⟩
  replace H:=H.grow g;replace K:=gtr K (grew_none _ g);clear g
  refine ⟨_,rfl,?_⟩
  refine ⟨K,?_⟩
  refine ⟨rfl,?_⟩
  refine sNew H ?_;clear H;intro b39 w g H;replace K:=gtr K (grew_none _ g);clear g
  refine ⟨K,?_⟩
  refine sApp2 H (bytes:=4) (by kernel_rfl) [.int .u32 (n32 (ys.drop (4*i)))] [.one (.int .u32 (n32 (ys.drop (4*i))))] (by rfl) (fun j u hu=>by rw [add_flat,Nat.zero_add];exact H.b0.cell hu) (fun G h=>by repeat (exact DeepL.ones _)) (by simp [Value.oneCell']) (by unfold maxLen;omega) (by omega) ?_
  clear H;intro x41 x41l x41c x41r w ex41 g H
  replace K:=gtr K g;clear g;replace H:=H.d1
  refine ⟨K,?_⟩
  refine ⟨_,rfl,?_⟩
  refine sSt0 H (by exact add_flat _ _ _) (by kernel_rfl) (by rfl) (by rfl) ?_;clear H;intro w _ H
  refine ⟨by omega,by omega,?_⟩
  subst ex41
  refine ⟨m_29 - 1,by omega,i+1,x41,x41c,x41r,by omega,by omega,?_⟩
  have H2:=H.skipB ms 4 (by omega)
  rw [List.drop_drop,show 4*i+4=4*(i+1) by omega] at H2
  rw [words_snoc,oi_snoc]
  exact H2.sub (by repeat (exact List.Sublist.refl _)) (fun r hr=>by (try simp only [List.mem_cons] at hr ⊢);(repeat (first | (rcases hr with rfl | hr;((left;rfl)))  | (simp [hr];done))))
 ·rw [decide_eq_false_iff_not] at hc
  obtain rfl:i=C.toNat:=by omega
  replace H:=H.r1.freeze
  have hm0:m=0:=by simpa using hc2
  subst hm0
  exact RdPost.yes _ eU H (fun r hr=>by (try simp only [List.mem_cons] at hr ⊢);(repeat ((simp [hr];done)))) (fun G h=>by repeat (first | exact DeepL.ones _ | refine dc (Deep.emp _ _) ?_ | refine dc (Deep.one _) ?_ | refine dc (h (.deep [_] [_]) ms).head ?_))
theorem v_bits {v:Int} (h:0<=v/\v < 65536):ishr .u16 v (15:Int)=v / 32768/\IntKind.u8.wrap (iand .u16 (ishr .u16 v (13:Int)) (3:Int))=v / 8192 % 4/\iand .u16 v (8191:Int)=v % 8192/\iand .u16 (ishr .u16 v (13:Int)) (3:Int)=v / 8192 % 4:=by
 have e1:ishr .u16 v (13:Int)=v / 8192:=ishr_of 13 (by rfl) (by decide)
 have e2:iand .u16 (v / 8192) (3:Int)=v / 8192 % 4:=iand_low (k:=.u16) (by rfl) 2 (by omega) (by simp only [IntKind.bits];omega) (by omega) (by decide)
 refine ⟨ishr_of 15 (by rfl) (by decide),?_,iand_low (k:=.u16) (by rfl) 13 (by omega) (by simp only [IntKind.bits];omega) (by omega) (by decide),?_⟩
 ·rw [e1,e2,wu8];omega
 ·rw [e1,e2]
theorem metsL_none {n:Nat} {xs:List Int} (h:n16 xs / 32768≠1/\n16 xs≠0):metsL (n+1) xs=none:=by simp only [metsL];rw [if_pos h]
theorem metsL_some {n:Nat} {xs:List Int} (h:¬(n16 xs / 32768≠1/\n16 xs≠0)):metsL (n+1) xs=(metsL n (xs.drop 2)).map fun r=>met1 (n16 xs)::r:=by simp only [metsL];rw [if_neg h]
theorem c94 {F:Fr} {w:World} {ex:List Ex} {ro:List Ro} {xs:List Int} {a:Option Addr} {n c:Nat} {p:Nat} {s:Int} (H:Sat F w (.blk p 63 (pk0 8 s 0 false 0 0 0)::ex) ro) (hx:Ro.B xs a n c∈ro) (hb:By xs)
  (hn:n<=1000000):Calls pg 94 #[.pointer (some ⟨p,0,none⟩),.slice a n c] w (RdPost F p ex ro (rdCc s xs)):=by
 apply of94
 have hlen:=H.lenB hx
 refine ⟨fun b7 b7l b7c m_3 w=>∃(ys:List Int) (done:List Blo) (o:Option Addr) (oc:Nat) (r:Option Nat),b7l<=m_3/\m_3<=n/\By ys/\done.length+m_3<=n/\blocksL xs.length xs=(blocksL m_3 ys).map (fun q=>(done++q.1,q.2)) /\
  Sat F w (.blk p 63 ((pk0 8 s 0 false 0 0 0).set 18 (.slice o done.length oc))::.own 158 3 o done.length oc r (done.flatMap Blo.dat)::ex) (Ro.B ys b7 b7l b7c::ro),⟨n,xs,[],none,0,none,Nat.le_refl _,Nat.le_refl _,hb,by simp,?_,?_⟩,?_⟩
 ·rw [hlen];cases blocksL n xs<;>simp
 ·exact ((H.addRo (H.hr _ hx)).nilOwn 158 3).u1
 clear H;rintro dd2 b7 b7l b7c m_3 w ⟨ys,done,o,oc,r,hbm,hmn,hby,hdn,hbl,H⟩
 have hyl:=H.lenB List.mem_cons_self
 refine ⟨fun hc=>?_,fun hc=>?_⟩
 ·rw [decide_eq_true_eq] at hc
  obtain ⟨f,rfl⟩:∃f,m_3=f+1:=⟨m_3 - 1,by omega⟩
  simp only [blocksL] at hbl
  rw [if_neg (by omega)] at hbl
  refine ⟨fun hc2=>?_,fun hc2=>?_⟩
  ·rw [decide_eq_true_eq] at hc2
   rw [if_pos (by omega)] at hbl
   exact RdPost.no (by unfold rdCc;rw [hbl];rfl) (H.sub (by repeat (first | exact List.Sublist.refl _ | apply List.Sublist.cons_cons | apply List.Sublist.cons)) (fun r hr=>by (try simp only [List.mem_cons] at hr ⊢);(repeat ((simp [hr];done)))))
  rw [decide_eq_false_iff_not] at hc2
  rw [if_neg (by omega)] at hbl
  refine ⟨by omega,by omega,?_⟩
  replace H:=H.drew;generalize w.drew=w at H ⊢
  refine ⟨?g1,?g2⟩
  case' g2=>
   refine sNew H ?_;clear H;intro b12 w _ H
   refine call_j (c58 (by exact (Sat.rd H (by exact List.mem_cons_self))) (hby) (by omega)) ?_
   rintro _ w ⟨rfl,g⟩
   replace H:=H.grow g;clear g
   refine ⟨_,rfl,?_⟩
   refine call_j (c53 (by exact Rd.skip (Sat.rd H (by exact List.mem_cons_self)) _ (by omega)) (hby.drop 4) (by omega)) ?_
   rintro _ w ⟨rfl,g⟩
   replace H:=H.grow g;clear g
   refine ⟨_,rfl,?_⟩
  case' g1=>
   refine call_j (c58 (by exact (Sat.rd H (by exact List.mem_cons_self))) (hby) (by omega)) ?_
   rintro _ w ⟨rfl,g⟩
   replace H:=H.grow g;clear g
   refine ⟨_,rfl,?_⟩
   refine ⟨?g3,?g4⟩
  case' g3=>
   refine call_j (c53 (by exact Rd.skip (Sat.rd H (by exact List.mem_cons_self)) _ (by omega)) (hby.drop 4) (by omega)) ?_
   rintro _ w ⟨rfl,g⟩
   replace H:=H.grow g;clear g
   refine ⟨_,rfl,?_⟩
   refine sNew H ?_;clear H;intro b12 w _ H
  case' g4=>
   refine sNew H ?_;clear H;intro b12 w _ H
   refine call_j (c53 (by exact Rd.skip (Sat.rd H (by exact List.mem_cons_self)) _ (by omega)) (hby.drop 4) (by omega)) ?_
   rintro _ w ⟨rfl,g⟩
   replace H:=H.grow g;clear g
   refine ⟨_,rfl,?_⟩
  all_goals
   refine sSw0 H rfl (by kernel_rfl) (by rfl) (by rfl) ?_;clear H;intro w _ H
   refine ⟨by omega,by omega,?_⟩
   refine call_j (c53 (by exact Rd.skip (Sat.rd H (by exact List.mem_cons_self)) _ (by omega)) (hby.drop 6) (by omega)) ?_
   rintro _ w ⟨rfl,g⟩
   replace H:=H.grow g;clear g
   refine ⟨_,rfl,?_⟩
   refine ⟨by omega,by omega,?_⟩
   refine ⟨by omega,?_⟩
   have hN:=n16_lt (hby.drop 6)
   obtain ⟨N,hNe⟩:∃N:Nat,n16 (ys.drop 6)=(N:Int):=⟨(n16 (ys.drop 6)).toNat,by omega⟩
   rw [hNe,Int.toNat_natCast] at hbl
   rw [hNe] at hN
   rw [hNe,wi64_of (n:=(N:Int)) (by omega) (by omega),show ((N:Int).tmod (2:Int))=((N % 2:Nat):Int) from tmod_nat N 2,wi64_of (n:=(N:Int)+((N % 2:Nat):Int)) (by omega) (by omega),
    wi64_of (n:=2*((N:Int)+((N % 2:Nat):Int))) (by omega) (by omega),wi64_of (n:=2*((N:Int)+((N % 2:Nat):Int))+4) (by omega) (by omega)]
   refine ⟨fun hc3=>?_,fun hc3=>?_⟩
   ·rw [decide_eq_true_eq] at hc3
    rw [if_pos (by omega)] at hbl
    exact RdPost.no (by unfold rdCc;rw [hbl];rfl) (H.sub (by repeat (first | exact List.Sublist.refl _ | apply List.Sublist.cons_cons | apply List.Sublist.cons)) (fun r hr=>by (try simp only [List.mem_cons] at hr ⊢);(repeat ((simp [hr];done)))))
   rw [decide_eq_false_iff_not] at hc3
   rw [if_neg (by omega)] at hbl
   have H1:=H.skipB (xs:=ys) (a:=b7) (n:=b7l) (c:=b7c) (by exact List.mem_cons_self) 8 (by omega)
   replace H:=(H1.nilOwn 160 3);clear H1
   refine ⟨fun x23 m_19 w=>∃(i:Nat) (ms:List Met) (o2:Option Addr) (oc2:Nat) (r2:Option Nat),x23=(i:Int)/\i+m_19=N/\ms.length=i/\metsL N (ys.drop 8)=(metsL m_19 (ys.drop (8+2*i))).map (ms++·) /\
    Sat F w (.own 160 3 o2 i oc2 r2 (ms.flatMap Met.dat)::.blk b12 158 [.int .u32 (n32 ys),.int .u16 (n16 (ys.drop 4)),.slice o2 i oc2]::.blk p 63 ((pk0 8 s 0 false 0 0 0).set 18 (.slice o done.length oc))::.own 158 3 o done.length oc r (done.flatMap Blo.dat)::ex) (Ro.B (ys.drop 8) (cutA b7 8 b7c 1) (b7l - 8) (b7c - 8)::Ro.B ys b7 b7l b7c::ro),
    ⟨N,0,[],none,0,none,rfl,by omega,rfl,?_,H⟩,?_⟩
   ·cases metsL N (ys.drop 8)<;>simp
   clear H;rintro dd18 x23 m_19 w ⟨i,ms,o2,oc2,r2,rfl,hi,hml,hme,H⟩
   refine ⟨fun hc4=>?_,fun hc4=>?_⟩
   ·rw [decide_eq_true_eq] at hc4
    rw [wi64_of (n:=2*(i:Int)) (by omega) (by omega)]
    refine ⟨by omega,by omega,?_⟩
    have hby2:By ((ys.drop 8).drop (2*(i:Int)).toNat):=(hby.drop 8).drop _
    refine call_j (c53 (Rd.skip (H.rd (xs:=ys.drop 8) (by exact List.mem_cons_self)) _ (by omega)) hby2 (by omega)) ?_
    rintro _ w ⟨rfl,g⟩
    replace H:=H.grow g;clear g
    refine ⟨_,rfl,?_⟩
    rw [List.drop_drop,show 8+(2*(i:Int)).toNat=8+2*i by omega] at hby2 ⊢
    have hv:=n16_lt hby2
    obtain ⟨e1,e2,e3,_⟩:=v_bits hv
    obtain ⟨q,rfl⟩:∃q,m_19=q+1:=⟨m_19 - 1,by omega⟩
    rw [e1,e2,e3]
    refine sNew H ?_;clear H;intro b26 w _ H
    refine sSw0 H rfl (by kernel_rfl) (by rfl) (by rfl) ?_;clear H;intro w _ H
    refine ⟨_,(by exact Ce (by exact add_flat _ _ _) H.b0 rfl),?_⟩
    refine ⟨fun hc5=>⟨fun hc6=>?_,fun hc6=>?_⟩,fun hc5=>?_⟩
    ·have h1:¬n16 (ys.drop (8+2*i)) / 32768=1:=by simpa using hc5
     have h2:¬n16 (ys.drop (8+2*i))=0:=by simpa using hc6
     rw [metsL_none ⟨h1,h2⟩] at hme
     rw [hme] at hbl
     exact RdPost.no (by unfold rdCc;rw [hbl];rfl) (H.sub (by repeat (first | exact List.Sublist.refl _ | apply List.Sublist.cons_cons | apply List.Sublist.cons)) (fun r hr=>by (try simp only [List.mem_cons] at hr ⊢);(repeat ((simp [hr];done)))))
    all_goals
     have hok:¬(n16 (ys.drop (8+2*i)) / 32768≠1/\n16 (ys.drop (8+2*i))≠0):=by
      rintro ⟨h1,h2⟩
      first
       | exact h1 (by simpa using hc5)
       | exact h2 (by simpa using hc6)
     rw [metsL_some hok,List.drop_drop] at hme
     refine ⟨_,_,_,(by exact Ce (by exact add_flat _ _ _) H.b2 rfl),?_⟩
     refine ⟨_,_,_,(by exact Ld0 rfl H.b0 (by kernel_rfl)),?_⟩
     refine ⟨rfl,?_⟩
     refine sPush1 H (bytes:=4) (by kernel_rfl) (Met.dat (met1 (n16 (ys.drop (8+2*i))))) (by rfl) (fun G h=>by repeat (exact DeepL.ones _)) (by rfl) (by unfold maxLen;omega) (by omega) ?_
     clear H;intro x36 x36l x36c x36r w ex36 _ H
     refine sSt2 H (by exact add_flat _ _ _) (by kernel_rfl) (by rfl) (by rfl) ?_;clear H;intro w _ H
     subst ex36
     refine ⟨q,by omega,i+1,ms++[met1 (n16 (ys.drop (8+2*i)))],x36,x36c,x36r,?_,by omega,by simp [hml],?_,?_⟩
     ·rw [wi64_of (by omega) (by omega)];simp
     ·rw [hme,show 8+2*i+2=8+2*(i+1) by omega]
      cases metsL q (ys.drop (8+2*(i+1)))<;>simp
     ·rw [List.flatMap_append]
      exact H.sub (by repeat (first | exact List.Sublist.refl _ | apply List.Sublist.cons)) (fun r hr=>by (try simp only [List.mem_cons] at hr ⊢);(repeat (first | (rcases hr with rfl | hr;(first | (left;rfl) | (right;left;rfl)))  | (simp [hr];done))))
   ·rw [decide_eq_false_iff_not] at hc4
    obtain rfl:i=N:=by omega
    obtain rfl:m_19=0:=by omega
    have hms:metsL i (ys.drop 8)=some ms:=by rw [hme];simp [metsL]
    rw [hms] at hbl
    simp only at hbl
    refine ⟨by omega,?_⟩
    replace H:=H.freeze
    refine ⟨fun hc5=>?_,fun hc5=>?_⟩
    ·have hc5:i % 2=1:=by
      have:((i % 2:Nat):Int)=1:=by simpa using hc5
      omega
     rw [wi64_of (n:=2*(i:Int)) (by omega) (by omega)]
     refine ⟨by omega,by omega,?_⟩
     have hby2:By ((ys.drop 8).drop (2*(i:Int)).toNat):=(hby.drop 8).drop _
     refine call_j (c53 (Rd.skip (H.rd (xs:=ys.drop 8) (by (apply List.mem_cons_of_mem;exact List.mem_cons_self))) _ (by omega)) hby2 (by omega)) ?_
     rintro _ w ⟨rfl,g⟩
     replace H:=H.grow g;clear g
     refine ⟨_,rfl,?_⟩
     rw [List.drop_drop,show 8+(2*(i:Int)).toNat=8+2*i by omega]
     refine ⟨fun hc6=>?_,fun hc6=>?_⟩
     ·have hc6:¬n16 (ys.drop (8+2*i))=0:=by simpa using hc6
      rw [if_pos ⟨hc5,hc6⟩] at hbl
      exact RdPost.no (by unfold rdCc;rw [hbl];rfl) (H.sub (by repeat (first | exact List.Sublist.refl _ | apply List.Sublist.cons_cons | apply List.Sublist.cons)) (fun r hr=>by (try simp only [List.mem_cons] at hr ⊢);(repeat ((simp [hr];done)))))
     have hc6:n16 (ys.drop (8+2*i))=0:=by simpa using hc6
     rw [if_neg (fun h=>h.2 hc6)] at hbl
     refine ⟨r,?_⟩;replace H:=H.drew;generalize w.drew=wd1 at H ⊢;have K:=grew_refl wd1 (r)
     refine ⟨_,rfl,?_⟩
     refine ⟨(by exact H.ne (by (apply List.mem_cons_of_mem;exact List.mem_cons_self)) (by (apply List.mem_cons_of_mem;(apply List.mem_cons_of_mem;exact List.mem_cons_self)))),?_⟩
     refine ⟨(by exact H.b1.row),?_⟩
     refine ⟨_,_,_,(by exact Ce (by exact add_flat _ _ _) H.b1 rfl),?_⟩
     refine ⟨(by exact H.ne (by exact List.mem_cons_self) (by (apply List.mem_cons_of_mem;(apply List.mem_cons_of_mem;exact List.mem_cons_self)))),?_⟩
     refine ⟨(by exact H.b0.row),?_⟩
     refine ⟨_,_,_,_,_,(by exact Ld0 rfl H.b0 (by kernel_rfl)),?_⟩
     refine ⟨rfl,?_⟩
     refine sNew H ?_;clear H;intro b56 w g H;replace K:=World.grownBy.trans K (grew_none _ g);clear g
     refine ⟨K,?_⟩
     refine sApp3 H (bytes:=32) (by kernel_rfl) [.int .u32 (n32 ys),.int .u16 (n16 (ys.drop 4)),.slice o2 i oc2] (Blo.dat (n32 ys,n16 (ys.drop 4),ms)) (by rfl) (fun j u hu=>by rw [add_flat,Nat.zero_add];exact H.b0.cell hu) (fun G h=>by repeat (first | exact DeepL.nil _ _ | refine DeepL.cons (Deep.one _) ?_ | refine DeepL.cons (h (.deep [_] [_]) (by exact List.mem_cons_self)).head ?_)) (by simp [Value.oneCell']) (by unfold maxLen;omega) (by omega) ?_
     clear H;intro x58 x58l x58c x58r w ex58 g H
     replace K:=World.grownBy.trans K g;clear g;replace H:=H.sub (List.sublist_cons_self _ _) (fun _ h=>h)
     refine ⟨K,?_⟩
     refine ⟨_,rfl,?_⟩
     refine sSt1 H (by exact add_flat _ _ _) (by kernel_rfl) (by rfl) (by rfl) ?_;clear H;intro w _ H
     refine ⟨by omega,?_⟩
     rw [show (2*((i:Int)+((i % 2:Nat):Int))).toNat=2*(i+i % 2) by omega]
     refine ⟨by omega,by omega,?_⟩
     subst ex58
     refine ⟨f,by omega,ys.drop (8+2*(i+i % 2)),done++[(n32 ys,n16 (ys.drop 4),ms)],x58,x58c,x58r,by omega,by omega,hby.drop _,by simp;omega,?_,?_⟩
     ·rw [hbl]
      cases blocksL f (ys.drop (8+2*(i+i % 2)))<;>simp
     ·have H2:=H.skipB (xs:=ys.drop 8) (a:=cutA b7 8 b7c 1) (n:=b7l - 8) (c:=b7c - 8) (by (apply List.mem_cons_of_mem;exact List.mem_cons_self)) (2*(i+i % 2)) (by omega)
      rw [List.drop_drop] at H2
      rw [List.flatMap_append,List.length_append]
      exact H2.sub (by repeat (first | exact List.Sublist.refl _ | apply List.Sublist.cons)) (fun r hr=>by (try simp only [List.mem_cons] at hr ⊢);(repeat (first | (rcases hr with rfl | hr;((left;rfl)))  | (simp [hr];done))))
    ·have hc5:¬i % 2=1:=by
      have:¬((i % 2:Nat):Int)=1:=by simpa using hc5
      omega
     rw [if_neg (fun h=>hc5 h.1)] at hbl
     refine ⟨r,?_⟩;replace H:=H.drew;generalize w.drew=wd1 at H ⊢;have K:=grew_refl wd1 (r)
     refine ⟨_,rfl,?_⟩
     refine ⟨(by exact H.ne (by (apply List.mem_cons_of_mem;exact List.mem_cons_self)) (by (apply List.mem_cons_of_mem;(apply List.mem_cons_of_mem;exact List.mem_cons_self)))),?_⟩
     refine ⟨(by exact H.b1.row),?_⟩
     refine ⟨_,_,_,(by exact Ce (by exact add_flat _ _ _) H.b1 rfl),?_⟩
     refine ⟨(by exact H.ne (by exact List.mem_cons_self) (by (apply List.mem_cons_of_mem;(apply List.mem_cons_of_mem;exact List.mem_cons_self)))),?_⟩
     refine ⟨(by exact H.b0.row),?_⟩
     refine ⟨_,_,_,_,_,(by exact Ld0 rfl H.b0 (by kernel_rfl)),?_⟩
     refine ⟨rfl,?_⟩
     refine sNew H ?_;clear H;intro b56 w g H;replace K:=World.grownBy.trans K (grew_none _ g);clear g
     refine ⟨K,?_⟩
     refine sApp3 H (bytes:=32) (by kernel_rfl) [.int .u32 (n32 ys),.int .u16 (n16 (ys.drop 4)),.slice o2 i oc2] (Blo.dat (n32 ys,n16 (ys.drop 4),ms)) (by rfl) (fun j u hu=>by rw [add_flat,Nat.zero_add];exact H.b0.cell hu) (fun G h=>by repeat (first | exact DeepL.nil _ _ | refine DeepL.cons (Deep.one _) ?_ | refine DeepL.cons (h (.deep [_] [_]) (by exact List.mem_cons_self)).head ?_)) (by simp [Value.oneCell']) (by unfold maxLen;omega) (by omega) ?_
     clear H;intro x58 x58l x58c x58r w ex58 g H
     replace K:=World.grownBy.trans K g;clear g;replace H:=H.sub (List.sublist_cons_self _ _) (fun _ h=>h)
     refine ⟨K,?_⟩
     refine ⟨_,rfl,?_⟩
     refine sSt1 H (by exact add_flat _ _ _) (by kernel_rfl) (by rfl) (by rfl) ?_;clear H;intro w _ H
     refine ⟨by omega,?_⟩
     rw [show (2*((i:Int)+((i % 2:Nat):Int))).toNat=2*(i+i % 2) by omega]
     refine ⟨by omega,by omega,?_⟩
     subst ex58
     refine ⟨f,by omega,ys.drop (8+2*(i+i % 2)),done++[(n32 ys,n16 (ys.drop 4),ms)],x58,x58c,x58r,by omega,by omega,hby.drop _,by simp;omega,?_,?_⟩
     ·rw [hbl]
      cases blocksL f (ys.drop (8+2*(i+i % 2)))<;>simp
     ·have H2:=H.skipB (xs:=ys.drop 8) (a:=cutA b7 8 b7c 1) (n:=b7l - 8) (c:=b7c - 8) (by (apply List.mem_cons_of_mem;exact List.mem_cons_self)) (2*(i+i % 2)) (by omega)
      rw [List.drop_drop] at H2
      rw [List.flatMap_append,List.length_append]
      exact H2.sub (by repeat (first | exact List.Sublist.refl _ | apply List.Sublist.cons)) (fun r hr=>by (try simp only [List.mem_cons] at hr ⊢);(repeat (first | (rcases hr with rfl | hr;((left;rfl)))  | (simp [hr];done))))
 ·rw [decide_eq_false_iff_not] at hc
  have hB:∀q,blocksL m_3 ys=some q->q=([],ys):=by
   intro q hq
   cases m_3 with
   | zero=>simp [blocksL] at hq
   | succ f=>simp only [blocksL] at hq;rw [if_pos (by omega)] at hq;cases hq;rfl
  have hres:rdCc s xs=if ys.length=4/\done≠[] then some { kind:=8,sender:=s,blocks:=done,time:=n32 ys } else none:=by
   unfold rdCc
   rw [hbl]
   cases hq:blocksL m_3 ys with
   | none=>
    have:m_3=0:=by
     cases m_3 with
     | zero=>rfl
     | succ f=>simp only [blocksL] at hq;rw [if_pos (by omega)] at hq;cases hq
    rw [if_neg (by omega)];rfl
   | some q=>obtain rfl:=hB q hq;simp
  refine ⟨fun hc2=>?_,fun hc2=>?_⟩
  ·have hc2:¬(b7l:Int)=4:=by simpa using hc2
   exact RdPost.no (by rw [hres,if_neg (by omega)]) (H.sub (by repeat (first | exact List.Sublist.refl _ | apply List.Sublist.cons_cons | apply List.Sublist.cons)) (fun r hr=>by (try simp only [List.mem_cons] at hr ⊢);(repeat ((simp [hr];done)))))
  have hc2:(b7l:Int)=4:=by simpa using hc2
  refine ⟨_,rfl,?_⟩
  refine ⟨_,_,_,(by exact Ce (by exact add_flat _ _ _) H.b0 rfl),?_⟩
  refine ⟨fun hc3=>?_,fun hc3=>?_⟩
  ·have hc3:done=[]:=by simpa using hc3
   exact RdPost.no (by rw [hres,if_neg (fun h=>h.2 hc3)]) (H.sub (by repeat (first | exact List.Sublist.refl _ | apply List.Sublist.cons_cons | apply List.Sublist.cons)) (fun r hr=>by (try simp only [List.mem_cons] at hr ⊢);(repeat ((simp [hr];done)))))
  have hc3:done≠[]:=by simpa using hc3
  refine call_j (c58 (by exact (Sat.rd H (by exact List.mem_cons_self))) hby (by omega)) ?_
  rintro _ w ⟨rfl,g⟩
  replace H:=H.grow g;clear g
  refine ⟨_,rfl,?_⟩
  refine ⟨_,rfl,?_⟩
  refine sSt0 H (by exact add_flat _ _ _) (by kernel_rfl) (by rfl) (by rfl) ?_;clear H;intro w _ H
  replace H:=H.r1.freeze
  exact RdPost.yes { kind:=8,sender:=s,blocks:=done,time:=n32 ys } (by rw [hres,if_pos ⟨by omega,hc3⟩]) H (fun r hr=>by (try simp only [List.mem_cons] at hr ⊢);(repeat ((simp [hr];done)))) (fun G h=>by repeat (first | exact DeepL.ones _ | refine DeepL.cons (Deep.emp _ _) ?_ | refine DeepL.cons (Deep.one _) ?_ | refine DeepL.cons (h (.deep [_] [_]) (by exact List.mem_cons_self)).head ?_))
def pkT (s m:Int) (hp:Bool) (hc ht hl b c f k:Int) (st de:Value):List Value:=
 [.int .i64 13,.int .u32 s,.int .u32 m,.int .u64 0,.int .u32 0,.int .u32 0,.int .u32 0,.slice none 0 0,.slice none 0 0,.slice none 0 0,.slice none 0 0,.string ⟨#[]⟩,.int .u8 0,.slice none 0 0,
  .slice none 0 0,.slice none 0 0,.slice none 0 0,.int .u32 0,.slice none 0 0,.int .u32 0,.int .u16 b,.int .u16 c,.int .u32 f,.int .u8 k,st,de,.bool hp,.int .u8 hc,.int .u8 ht,.int .u16 hl]
theorem oi_length (k:IntKind) (l:List Int):(oi k l).length=l.length:=by simp [oi]
theorem oi_get (k:IntKind) (l:List Int) (i:Nat) (h:i < l.length):(oi k l)[i]?=some (.one (.int k (l.getD i 0))):=by
 simp [oi,List.getD,List.getElem?_eq_getElem h]
theorem symL_run {v:Int} (h:v / 32768=0):symL v=List.replicate (v % 8192).toNat (v / 8192 % 4):=by unfold symL;rw [if_pos h]
def vecL (v S:Int) (t:Nat):List Int:=(List.range t).map fun k=>if S=0 then bitAt v (13 - k) 2 else bitAt v (12 - 2*k) 4
theorem vecL_succ (v S:Int) (t:Nat):vecL v S (t+1)=vecL v S t++[if S=0 then bitAt v (13 - t) 2 else bitAt v (12 - 2*t) 4]:=by simp [vecL,List.range_succ]
theorem symL_vec {v:Int} (h:v / 32768≠0) (hv:0<=v/\v < 65536):symL v=vecL v (v / 16384 % 2) (if v / 16384 % 2=0 then 14 else 7):=by
 unfold symL
 rw [if_neg h]
 by_cases hS:v / 16384 % 2=0
 ·rw [if_pos hS,if_pos hS,hS];rfl
 ·have:v / 16384 % 2=1:=by omega
  rw [if_neg hS,if_neg hS,this];rfl
theorem symL_len {v:Int} (hv:0<=v/\v < 65536):(symL v).length<=8191:=by
 by_cases h:v / 32768=0
 ·rw [symL_run h,List.length_replicate];omega
 ·rw [symL_vec h hv];unfold vecL;split<;>simp
theorem symL_len2 {v:Int} (hv:0<=v/\v < 65536):(v / 32768=0->(symL v).length=(v % 8192).toNat)/\(v / 32768≠0->(symL v).length<=14):=by
 refine ⟨fun h=>by rw [symL_run h,List.length_replicate],fun h=>?_⟩
 rw [symL_vec h hv];unfold vecL;split<;>simp
theorem symL_range {v:Int} (hv:0<=v/\v < 65536):∀x∈symL v,0<=x/\x < 4:=by
 intro x hx
 by_cases h:v / 32768=0
 ·rw [symL_run h] at hx
  have:=List.eq_of_mem_replicate hx
  omega
 ·rw [symL_vec h hv] at hx
  simp only [vecL,List.mem_map] at hx
  obtain ⟨k,_,rfl⟩:=hx
  unfold bitAt
  split<;>omega
theorem recv_range {l:List Int}:∀x∈recv l,x=1\/x=2:=by
 intro x hx
 have:=(List.mem_filter.1 hx).2
 simpa using this
theorem recv_append (l k:List Int):recv (l++k)=recv l++recv k:=by simp [recv]
theorem getD_mem {l:List Int} {i:Nat} (h:i < l.length):l.getD i 0∈l:=by
 simp only [List.getD,List.getElem?_eq_getElem h,Option.getD_some];exact List.getElem_mem h
theorem take_snoc {l:List Int} {i:Nat} (h:i < l.length):l.take (i+1)=l.take i++[l.getD i 0]:=by
 rw [List.take_succ_eq_append_getElem h];simp [List.getD,List.getElem?_eq_getElem h]
theorem drop_cons {l:List Int} {i:Nat} (h:i < l.length):l.drop i=l.getD i 0::l.drop (i+1):=by
 rw [List.drop_eq_getElem_cons h];simp [List.getD,List.getElem?_eq_getElem h]
theorem bit_of {v:Int} (hv:0<=v/\v < 65536) (i:Nat) (hi:i<=15):iand .u16 (ishr .u16 v (i:Int)) (1:Int)=bitAt v i 2/\iand .u16 (ishr .u16 v (i:Int)) (3:Int)=bitAt v i 4:=by
 have e1:ishr .u16 v (i:Int)=v / 2 ^ i:=ishr_of i rfl (by simp only [IntKind.bits];omega)
 have h0:0<=v / 2 ^ i:=Int.ediv_nonneg hv.1 (by exact_mod_cast Nat.zero_le _)
 have h1:v / 2 ^ i < 65536:=by
  have:=Int.ediv_le_self (a:=v) (2 ^ i) hv.1
  omega
 rw [e1]
 exact ⟨iand_low (k:=.u16) (by rfl) 1 h0 (by simp only [IntKind.bits];omega) (by omega) (by decide),iand_low (k:=.u16) (by rfl) 2 h0 (by simp only [IntKind.bits];omega) (by omega) (by decide)⟩
theorem c95 {F:Fr} {w:World} {ex:List Ex} {ro:List Ro} {xs:List Int} {a:Option Addr} {n c:Nat} {p:Nat} {s m:Int} {hp:Bool} {hc ht hl:Int} (H:Sat F w (.blk p 63 (pk0 13 s m hp hc ht hl)::ex) ro) (hx:Ro.B xs a n c∈ro) (hb:By xs)
  (hn:n<=1000000):Calls pg 95 #[.pointer (some ⟨p,0,none⟩),.slice a n c] w (RdPost F p ex ro (rdT s m hp hc ht hl xs)):=by
 apply of95
 have hlen:=H.lenB hx
 refine ⟨fun h1=>?_,fun h1=>?_⟩
 ·rw [decide_eq_true_eq] at h1
  exact RdPost.no (by unfold rdT;rw [if_pos (by omega)]) H
 rw [decide_eq_false_iff_not] at h1
 refine ⟨some p,?_⟩;replace H:=H.drew;generalize w.drew=wd1 at H ⊢;have K:=grew_refl wd1 (some p)
 refine ⟨by omega,by omega,?_⟩
 refine ⟨by omega,by omega,?_⟩
 obtain ⟨p_2,rfl,hp_2,kp_2,fp_2⟩:=H.at_ (a:=a) hx (by omega)
 refine ⟨p_2,rfl,by omega,by omega,?_⟩
 refine ⟨H.ne_blk ms (fp_2 _),?_⟩
 refine ⟨kp_2 _,?_⟩
 refine ⟨_,hp_2 7 (by omega),?_⟩
 refine call_j (c53 (by exact (Sat.rd H (by assumption))) hb (by omega)) ?_
 rintro _ w ⟨rfl,g⟩
 replace H:=H.grow g;replace K:=gtr K (grew_none _ g);clear g
 refine ⟨_,rfl,?_⟩
 refine ⟨K,?_⟩
 refine call_j (c53 (by exact Rd.skip (Sat.rd H (by assumption)) _ (by omega)) (hb.drop 2) (by omega)) ?_
 rintro _ w ⟨rfl,g⟩
 replace H:=H.grow g;replace K:=gtr K (grew_none _ g);clear g
 refine ⟨_,rfl,?_⟩
 refine ⟨K,?_⟩
 refine call_j (c92 (by exact Rd.skip (Sat.rd H (by assumption)) _ (by omega)) (hb.drop 4) (by omega)) ?_
 rintro _ w ⟨rfl,g⟩
 replace H:=H.grow g;replace K:=gtr K (grew_none _ g);clear g
 refine ⟨_,rfl,?_⟩
 refine ⟨K,?_⟩
 refine ⟨_,rfl,?_⟩
 refine sSt0 H (by exact add_flat _ _ _) (by kernel_rfl) (by rfl) (by rfl) ?_;clear H;intro w g H;replace K:=gtr K g;clear g
 refine ⟨K,?_⟩
 refine ⟨_,rfl,?_⟩
 refine sSt0 H (by exact add_flat _ _ _) (by kernel_rfl) (by rfl) (by rfl) ?_;clear H;intro w g H;replace K:=gtr K g;clear g
 refine ⟨K,?_⟩
 refine ⟨_,rfl,?_⟩
 refine sSt0 H (by exact add_flat _ _ _) (by kernel_rfl) (by rfl) (by rfl) ?_;clear H;intro w g H;replace K:=gtr K g;clear g
 refine ⟨K,?_⟩
 refine ⟨_,rfl,?_⟩
 refine sSt0 H (by exact add_flat _ _ _) (by kernel_rfl) (by rfl) (by rfl) ?_;clear H;intro w _ H
 refine ⟨by omega,by omega,?_⟩
 refine ⟨_,rfl,?_⟩
 refine ⟨_,(H.b0.at0 rfl),?_⟩
 have hcnt:=n16_lt (hb.drop 2)
 rw [wi64_of (n:=n16 (xs.drop 2)) (by omega) (by omega)]
 refine ⟨fun h2=>?_,fun h2=>?_⟩
 ·have h2:n16 (xs.drop 2)=0:=by simpa using h2
  exact RdPost.no (by unfold rdT;rw [if_neg (by omega),if_pos h2]) H
 have h2:¬n16 (xs.drop 2)=0:=by simpa using h2
 have hU:rdT s m hp hc ht hl xs=match tccC xs.length (n16 (xs.drop 2)) (xs.drop 8) with
  | none=>none
  | some (vs,ys)=>if (recv (vs.flatMap symL)).length=0 then none else match tccD (recv (vs.flatMap symL)) ys with
   | none=>none
   | some (ds,zs)=>if zs.all (· == 0)/\zs.length<=3 then
     some { kind:=13,sender:=s,media:=m,base:=n16 xs,count:=n16 (xs.drop 2),ref:=n24 (xs.drop 4),fb:=xs.getD 7 0,statuses:=vs.map sta1,deltas:=ds,hp:=hp,hc:=hc,ht:=ht,hl:=hl } else none:=by
  unfold rdT;rw [if_neg (by omega),if_neg h2];rfl
 have h8:=hb.drop 8
 have H1:=H.skipB hx 8 (by omega)
 replace H:Sat F w (.blk p 63 (pkT s m hp hc ht hl (n16 xs) (n16 (xs.drop 2)) (n24 (xs.drop 4)) (xs.getD 7 0) (.slice none 0 0) (.slice none 0 0))::ex) (Ro.B (xs.drop 8) (cutA (some p_2) 8 c 1) (n - 8) (c - 8)::ro):=H1
 clear H1
 generalize n16 (xs.drop 2)=CN at H hU h2 hcnt ⊢
 generalize n16 xs=BA at H hU ⊢
 generalize n24 (xs.drop 4)=RE at H hU ⊢
 generalize xs.getD 7 0=FB at H hU ⊢
 generalize hxs8:xs.drop 8=xs8 at H hU h8 ⊢
 refine ⟨fun b26 b26l b26c left27 received28 received28l received28c m_22 w=>∃(ys:List Int) (vs:List Int) (o:Option Addr) (oc:Nat) (r rr:Option Nat),By ys/\-20<=left27/\(recv (vs.flatMap symL)).length+left27<=65535/\b26l+1<=m_22/\vs.length+m_22<=n/\b26l<=n /\
  received28l=(recv (vs.flatMap symL)).length/\tccC xs.length CN xs8=(tccC m_22 left27 ys).map (fun q=>(vs++q.1,q.2)) /\
  Sat F w (.own 40 1 received28 received28l received28c rr (oi .u16 (recv (vs.flatMap symL)))::.blk p 63 (pkT s m hp hc ht hl BA CN RE FB (.slice o vs.length oc) (.slice none 0 0))::.own 163 5 o vs.length oc r ((vs.map sta1).flatMap Sta.dat)::ex) (Ro.B ys b26 b26l b26c::ro),
  ⟨n,xs8,[],none,0,none,none,h8,by omega,by simp [recv];omega,by omega,by simp,by omega,rfl,?_,?_⟩,?_⟩
 ·rw [hlen];cases tccC n CN xs8<;>simp
 ·exact ((H.nilOwn 163 5).u1).nilOwn 40 1
 clear H;rintro dd21 b26 b26l b26c left27 received28 received28l received28c m_22 w ⟨ys,vs,o,oc,r,rr,hby,hL0,hRL,hfu,hvm,hbl,rfl,htc,H⟩
 have hyl:=H.lenB ms
 obtain ⟨f,rfl⟩:∃f,m_22=f+1:=⟨m_22 - 1,by omega⟩
 simp only [tccC] at htc
 refine ⟨fun h3=>?_,fun h3=>?_⟩
 ·rw [decide_eq_true_eq] at h3
  rw [if_neg (by omega)] at htc
  refine ⟨fun h4=>?_,fun h4=>?_⟩
  ·rw [decide_eq_true_eq] at h4
   rw [if_pos (by omega)] at htc
   exact RdPost.no (by rw [hU,htc];rfl) (H.ds (fun r hr=>by (try simp only [List.mem_cons] at hr ⊢);(repeat ((simp [hr];done)))))
  rw [decide_eq_false_iff_not] at h4
  rw [if_neg (by omega)] at htc
  refine call_j (c53 (by exact (Sat.rd H ms)) hby (by omega)) ?_
  rintro _ w ⟨rfl,g⟩
  replace H:=H.grow g;clear g
  refine ⟨_,rfl,?_⟩
  refine ⟨by omega,by omega,?_⟩
  have hv:=n16_lt hby
  generalize hvv:n16 ys=v at hv htc ⊢
  obtain ⟨e1,_,e3,e4⟩:=v_bits hv
  have hsl:=symL_len hv
  refine ⟨fun l109 l109l l109c _ w=>∃(o':Option Addr) (oc':Nat) (r':Option Nat),¬(v / 32768=0/\(v % 8192=0\/left27 < v % 8192))/\l109l=(symL v).length /\
   Sat F w (.own 40 1 received28 (recv (vs.flatMap symL)).length received28c rr (oi .u16 (recv (vs.flatMap symL)))::.blk p 63 (pkT s m hp hc ht hl BA CN RE FB (.slice o' (vs.length+1) oc') (.slice none 0 0))::.own 163 5 o' (vs.length+1) oc' r' (((vs++[v]).map sta1).flatMap Sta.dat)::ex)
    (.deep [.row 1 (oi .u16 (symL v))] [.slice l109 l109l l109c]::Ro.B ys b26 b26l b26c::ro),?_,?_⟩
  ·rw [e1,e3,e4]
   refine ⟨fun h5=>?_,fun h5=>?_⟩
   ·have h5:v / 32768=0:=by simpa using h5
    refine sNew H ?_;clear H;intro b34 w _ H
    refine sSw0 H rfl (by kernel_rfl) (by rfl) (by rfl) ?_;clear H;intro w _ H
    refine ⟨_,(H.b0.at0 rfl),?_⟩
    refine ⟨fun h6=>?_,fun h6=>?_⟩
    ·have h6:v % 8192=0:=by simpa using h6
     rw [if_pos ⟨h5,.inl h6⟩] at htc
     exact RdPost.no (by rw [hU,htc];rfl) (H.ds (fun r hr=>by (try simp only [List.mem_cons] at hr ⊢);(repeat ((simp [hr];done)))))
    have h6:¬v % 8192=0:=by simpa using h6
    refine ⟨_,(H.b0.at0 rfl),?_⟩
    rw [wi64_of (n:=v % 8192) (by omega) (by omega)]
    refine ⟨fun h7=>?_,fun h7=>?_⟩
    ·rw [decide_eq_true_eq] at h7
     rw [if_pos ⟨h5,.inr (by omega)⟩] at htc
     exact RdPost.no (by rw [hU,htc];rfl) (H.ds (fun r hr=>by (try simp only [List.mem_cons] at hr ⊢);(repeat ((simp [hr];done)))))
    rw [decide_eq_false_iff_not] at h7
    refine ⟨_,(H.b0.at0 rfl),?_⟩
    refine ⟨fun l46 l46l l46c x47 m_42 w=>∃(i:Nat) (r3:Option Nat),x47=(i:Int)/\(i:Int)+m_42=v % 8192/\l46l=i /\
     Sat F w (.own 40 1 l46 l46l l46c r3 (oi .u16 (List.replicate i (v / 8192 % 4)))::.blk b34 163 [.bool false,.int .u16 (v / 8192 % 4),.int .u16 0,.int .u16 (v % 8192),.slice none 0 0] ::
      .own 40 1 received28 (recv (vs.flatMap symL)).length received28c rr (oi .u16 (recv (vs.flatMap symL)))::.blk p 63 (pkT s m hp hc ht hl BA CN RE FB (.slice o vs.length oc) (.slice none 0 0))::.own 163 5 o vs.length oc r ((vs.map sta1).flatMap Sta.dat)::ex) (Ro.B ys b26 b26l b26c::ro),
     ⟨(v % 8192).toNat,0,none,rfl,by omega,rfl,H.nilOwn _ _⟩,?_⟩
    clear H;rintro dd41 l46 l46l l46c x47 m_42 w ⟨i,r3,rfl,hi,rfl,H⟩
    refine ⟨fun h8=>?_,fun h8=>?_⟩
    ·rw [decide_eq_true_eq] at h8
     refine ⟨_,(H.b1.at0 rfl),?_⟩
     refine ⟨rfl,?_⟩
     refine sPush0 H (bytes:=2) (by kernel_rfl) [.one (.int .u16 (v / 8192 % 4))] (by rfl) (fun G h=>by repeat (exact DeepL.ones _)) (by rfl) (by unfold maxLen;omega) (by omega) ?_
     clear H;intro x51 x51l x51c x51r w ex51 _ H
     refine ⟨m_42 - 1,by omega,l46l+1,x51r,?_,by omega,ex51,?_⟩
     ·rw [wu16];omega
     ·rw [List.replicate_succ',oi_snoc]
      exact H
    rw [decide_eq_false_iff_not] at h8
    have hrun:List.replicate l46l (v / 8192 % 4)=symL v:=by rw [symL_run h5];congr 1;omega
    have hll:l46l=(symL v).length:=by rw [<-hrun];simp
    rw [hrun] at H
    replace H:=H.freeze
    refine ⟨r,?_⟩;replace H:=H.drew;generalize w.drew=wd2 at H ⊢;have K:=grew_refl wd2 (r)
    refine ⟨_,rfl,?_⟩
    refine ⟨(H.ne (mt (mt ms)) (mt (mt (mt ms)))),?_⟩
    refine ⟨H.b2.row,?_⟩
    refine ⟨_,_,_,(H.b2.at0 rfl),?_⟩
    refine ⟨(H.ne ms (mt (mt (mt ms)))),?_⟩
    refine ⟨H.b0.row,?_⟩
    refine ⟨_,_,_,_,_,_,_,H.b0.ld,?_⟩
    refine ⟨rfl,?_⟩
    refine sNew H ?_;clear H;intro b61 w g H;replace K:=gtr K (grew_none _ g);clear g
    refine ⟨K,?_⟩
    have hsta:sta1 v=(false,v / 8192 % 4,0,v % 8192,[]):=by unfold sta1;rw [if_pos h5]
    refine sApp4 H (bytes:=32) (by kernel_rfl) [.bool false,.int .u16 (v / 8192 % 4),.int .u16 0,.int .u16 (v % 8192),.slice none 0 0] (Sta.dat (sta1 v)) (by rfl) (fun j u hu=>by rw [add_flat,Nat.zero_add];exact H.b0.cell hu) (by rw [hsta];exact (fun G h=>by repeat (first | exact DeepL.nil _ _ | refine dc (Deep.emp _ _) ?_ | refine dc (Deep.one _) ?_))) (by simp [Value.oneCell']) (by unfold maxLen;omega) (by omega) ?_
    clear H;intro x63 x63l x63c x63r w ex63 g H
    replace K:=gtr K g;clear g;replace H:=H.d1
    refine ⟨K,?_⟩
    refine ⟨_,rfl,?_⟩
    refine sSt2 H (by exact add_flat _ _ _) (by kernel_rfl) (by rfl) (by rfl) ?_;clear H;intro w _ H
    subst ex63
    refine ⟨x63,x63c,x63r,?_,hll,?_⟩
    ·rintro ⟨_,h9 | h9⟩
     ·exact h6 h9
     ·omega
    ·rw [List.map_append,List.flatMap_append]
     exact H.ds (fun r hr=>by (try simp only [List.mem_cons] at hr ⊢);(repeat (first | (rcases hr with rfl | hr;(first | (left;rfl) | (right;left;rfl)))  | (simp [hr];done))))
   ·have h5:¬v / 32768=0:=by simpa using h5
    have e14:iand .u16 (ishr .u16 v (14:Int)) (1:Int)=v / 16384 % 2:=(bit_of hv 14 (by omega)).1
    rw [e14]
    have hS:v / 16384 % 2=0\/v / 16384 % 2=1:=by omega
    have hsy:=symL_vec h5 hv
    have hsta:sta1 v=(true,0,v / 16384 % 2,0,symL v):=by unfold sta1;rw [if_neg h5]
    generalize v / 16384 % 2=S at hS hsy hsta ⊢
    refine sNew H ?_;clear H;intro b67 w _ H
    refine sSw0 H rfl (by kernel_rfl) (by rfl) (by rfl) ?_;clear H;intro w _ H
    refine ⟨fun i76 m_72 w=>∃(t:Nat) (l:Option Addr) (lc:Nat) (r3:Option Nat),i76=13 - t*(1+S)/\t+m_72=14/\t<=(if S=0 then 14 else 7) /\
     Sat F w (.own 40 1 l t lc r3 (oi .u16 (vecL v S t))::.blk b67 163 [.bool true,.int .u16 0,.int .u16 S,.int .u16 0,.slice l t lc] ::
      .own 40 1 received28 (recv (vs.flatMap symL)).length received28c rr (oi .u16 (recv (vs.flatMap symL)))::.blk p 63 (pkT s m hp hc ht hl BA CN RE FB (.slice o vs.length oc) (.slice none 0 0))::.own 163 5 o vs.length oc r ((vs.map sta1).flatMap Sta.dat)::ex) (Ro.B ys b26 b26l b26c::ro),
     ⟨14,0,none,0,none,by simp,by omega,by omega,H.nilOwn _ _⟩,?_⟩
    clear H;rintro dd71 i76 m_72 w ⟨t,l,lc,r3,rfl,ht,htb,H⟩
    refine ⟨fun h8=>?_,fun h8=>?_⟩
    ·rw [decide_eq_true_eq] at h8
     refine ⟨_,(H.b1.at0 rfl),?_⟩
     refine ⟨fun h9=>?_,fun h9=>?_⟩
     ·have h9:S=0:=by simpa using h9
      subst h9
      simp only [Int.add_zero,Int.mul_one] at h8 ⊢
      rw [show (13:Int) - (t:Int)=((13 - t:Nat):Int) by omega,(bit_of hv (13 - t) (by omega)).1]
      refine ⟨r3,?_⟩;replace H:=H.drew;generalize w.drew=wd3 at H ⊢;have K:=grew_refl wd3 (r3)
      refine ⟨(H.ne (mt ms) ms),?_⟩
      refine ⟨H.b1.row,?_⟩
      refine ⟨_,_,_,(H.b1.at0 rfl),?_⟩
      refine ⟨by omega,rfl,?_⟩
      refine sNew H ?_;clear H;intro b80 w g H;replace K:=gtr K (grew_none _ g);clear g
      refine ⟨K,?_⟩
      refine sApp1 H (bytes:=2) (by kernel_rfl) [.int .u16 (bitAt v (13 - t) 2)] [.one (.int .u16 (bitAt v (13 - t) 2))] (by rfl) (fun j u hu=>by rw [add_flat,Nat.zero_add];exact H.b0.cell hu) (fun G h=>by repeat (exact DeepL.ones _)) (by simp [Value.oneCell']) (by unfold maxLen;omega) (by omega) ?_
      clear H;intro x82 x82l x82c x82r w ex82 g H
      replace K:=gtr K g;clear g;replace H:=H.d1
      refine ⟨K,?_⟩
      refine sSt1 H (by exact add_flat _ _ _) (by kernel_rfl) (by rfl) (by rfl) ?_;clear H;intro w _ H
      refine ⟨_,(H.b1.at0 rfl),?_⟩
      subst ex82
      refine ⟨m_72 - 1,by omega,t+1,x82,x82c,x82r,?_,by omega,by simp;omega,?_⟩
      ·rw [show IntKind.i64.wrap (0:Int)=0 from rfl,show IntKind.i64.wrap ((1:Int)+0)=1 from rfl,wi64_of (by omega) (by omega)];omega
      ·rw [vecL_succ,oi_snoc,if_pos rfl]
       exact H
     ·have h9:S=1:=by
       have:¬S=0:=by simpa using h9
       omega
      subst h9
      rw [wi64_of (n:=(13:Int) - (t:Int)*(1+1) - 1) (by omega) (by omega)]
      have ht7:t<=6:=by omega
      rw [show (13:Int) - (t:Int)*(1+1) - 1=((12 - 2*t:Nat):Int) by omega,(bit_of hv (12 - 2*t) (by omega)).2]
      refine ⟨r3,?_⟩;replace H:=H.drew;generalize w.drew=wd4 at H ⊢;have K:=grew_refl wd4 (r3)
      refine ⟨(H.ne (mt ms) ms),?_⟩
      refine ⟨H.b1.row,?_⟩
      refine ⟨_,_,_,(H.b1.at0 rfl),?_⟩
      refine ⟨by omega,rfl,?_⟩
      refine sNew H ?_;clear H;intro b88 w g H;replace K:=gtr K (grew_none _ g);clear g
      refine ⟨K,?_⟩
      refine sApp1 H (bytes:=2) (by kernel_rfl) [.int .u16 (bitAt v (12 - 2*t) 4)] [.one (.int .u16 (bitAt v (12 - 2*t) 4))] (by rfl) (fun j u hu=>by rw [add_flat,Nat.zero_add];exact H.b0.cell hu) (fun G h=>by repeat (exact DeepL.ones _)) (by simp [Value.oneCell']) (by unfold maxLen;omega) (by omega) ?_
      clear H;intro x90 x90l x90c x90r w ex90 g H
      replace K:=gtr K g;clear g;replace H:=H.d1
      refine ⟨K,?_⟩
      refine sSt1 H (by exact add_flat _ _ _) (by kernel_rfl) (by rfl) (by rfl) ?_;clear H;intro w _ H
      refine ⟨_,(H.b1.at0 rfl),?_⟩
      subst ex90
      refine ⟨m_72 - 1,by omega,t+1,x90,x90c,x90r,?_,by omega,by simp;omega,?_⟩
      ·rw [show IntKind.i64.wrap (1:Int)=1 from rfl,show IntKind.i64.wrap ((1:Int)+1)=2 from rfl,wi64_of (by omega) (by omega)];omega
      ·rw [vecL_succ,oi_snoc,if_neg (by decide)]
       exact H
    ·rw [decide_eq_false_iff_not] at h8
     have hvec:vecL v S t=symL v:=by
      rw [hsy];congr 1
      rcases hS with rfl | rfl
      ·simp at htb h8 ⊢;omega
      ·simp at htb h8 ⊢;omega
     have hll:t=(symL v).length:=by rw [<-hvec];simp [vecL]
     rw [hvec] at H
     replace H:=H.freeze
     refine ⟨_,_,_,(H.b0.at0 rfl),?_⟩
     refine ⟨r,?_⟩;replace H:=H.drew;generalize w.drew=wd5 at H ⊢;have K:=grew_refl wd5 (r)
     refine ⟨_,rfl,?_⟩
     refine ⟨(H.ne (mt (mt ms)) (mt (mt (mt ms)))),?_⟩
     refine ⟨H.b2.row,?_⟩
     refine ⟨_,_,_,(H.b2.at0 rfl),?_⟩
     refine ⟨(H.ne ms (mt (mt (mt ms)))),?_⟩
     refine ⟨H.b0.row,?_⟩
     refine ⟨_,_,_,_,_,_,_,H.b0.ld,?_⟩
     refine ⟨rfl,?_⟩
     refine sNew H ?_;clear H;intro b103 w g H;replace K:=gtr K (grew_none _ g);clear g
     refine ⟨K,?_⟩
     refine sApp4 H (bytes:=32) (by kernel_rfl) [.bool true,.int .u16 0,.int .u16 S,.int .u16 0,.slice l t lc] (Sta.dat (sta1 v)) (by rfl) (fun j u hu=>by rw [add_flat,Nat.zero_add];exact H.b0.cell hu) (by rw [hsta];exact (fun G h=>by repeat (first | exact DeepL.nil _ _ | refine dc (Deep.one _) ?_ | refine dc (h (.deep [_] [_]) ms).head ?_))) (by simp [Value.oneCell']) (by unfold maxLen;omega) (by omega) ?_
     clear H;intro x105 x105l x105c x105r w ex105 g H
     replace K:=gtr K g;clear g;replace H:=H.d1
     refine ⟨K,?_⟩
     refine ⟨_,rfl,?_⟩
     refine sSt2 H (by exact add_flat _ _ _) (by kernel_rfl) (by rfl) (by rfl) ?_;clear H;intro w _ H
     subst ex105
     refine ⟨x105,x105c,x105r,fun h=>h5 h.1,hll,?_⟩
     rw [List.map_append,List.flatMap_append]
     exact H.ds (fun r hr=>by (try simp only [List.mem_cons] at hr ⊢);(repeat (first | (rcases hr with rfl | hr;(first | (left;rfl) | (right;left;rfl)))  | (simp [hr];done))))
  ·clear H;rintro dd32 l109 l109l l109c w ⟨o',oc',r',hok,rfl,H⟩
   rw [if_neg hok] at htc
   refine ⟨fun left116 received117 received117l received117c x118 m_112 w=>∃(j:Nat) (rr2:Option Nat),x118=(j:Int)/\j+m_112=(symL v).length/\left116=left27 - j/\symOk left27 (symL v)=symOk (left27 - j) ((symL v).drop j) /\
    received117l=(recv (vs.flatMap symL)++recv ((symL v).take j)).length/\(received117l:Int)+left116<=65535 /\
    Sat F w (.own 40 1 received117 received117l received117c rr2 (oi .u16 (recv (vs.flatMap symL)++recv ((symL v).take j)))::.blk p 63 (pkT s m hp hc ht hl BA CN RE FB (.slice o' (vs.length+1) oc') (.slice none 0 0))::.own 163 5 o' (vs.length+1) oc' r' (((vs++[v]).map sta1).flatMap Sta.dat)::ex)
     (.deep [.row 1 (oi .u16 (symL v))] [.slice l109 (symL v).length l109c]::Ro.B ys b26 b26l b26c::ro),⟨(symL v).length,0,rr,rfl,by omega,by omega,by simp,by simp [recv],by simpa using hRL,?_⟩,?_⟩
   ·simpa [recv] using H
   clear H;rintro dd111 left116 received117 received117l received117c x118 m_112 w ⟨j,rr2,rfl,hjm,rfl,hso,hrl,hrb,H⟩
   refine ⟨fun h8=>?_,fun h8=>?_⟩
   ·rw [decide_eq_true_eq] at h8
    obtain ⟨bb,oo,rfl,hcell⟩:=H.elt ms (by omega)
    refine ⟨_,rfl,by omega,by omega,?_⟩
    refine ⟨_,(by rw [add_flat];exact hcell _ _ (oi_get _ _ _ (by omega))),?_⟩
    rw [show (j:Int).toNat*1=j by omega]
    rw [drop_cons (by omega:j < (symL v).length),symOk] at hso
    have hxr:=symL_range hv _ (getD_mem (by omega:j < (symL v).length))
    have htk:=take_snoc (by omega:j < (symL v).length)
    generalize (symL v).getD j 0=X at hso hxr htk ⊢
    have hbad:(if 0 < left27 - (j:Int) then X != 3 else X == 0)=false->RdPost F p ex ro (rdT s m hp hc ht hl xs) (.returned (.bool false)) w:=fun hf=>by
     rw [hf,Bool.false_and] at hso
     rw [if_neg (by rw [hso];exact Bool.false_ne_true)] at htc
     exact RdPost.no (by rw [hU,htc];rfl) (H.ds (fun r hr=>by (try simp only [List.mem_cons] at hr ⊢);(repeat ((simp [hr];done)))))
    refine ⟨fun _ w=>(if 0 < left27 - (j:Int) then X != 3 else X == 0)=true /\
     Sat F w (.own 40 1 received117 received117l received117c rr2 (oi .u16 (recv (vs.flatMap symL)++recv ((symL v).take j)))::.blk p 63 (pkT s m hp hc ht hl BA CN RE FB (.slice o' (vs.length+1) oc') (.slice none 0 0))::.own 163 5 o' (vs.length+1) oc' r' (((vs++[v]).map sta1).flatMap Sta.dat)::ex)
      (.deep [.row 1 (oi .u16 (symL v))] [.slice (some ⟨bb,oo,none⟩) (symL v).length l109c]::Ro.B ys b26 b26l b26c::ro),?_,?_⟩
    ·refine ⟨fun h9=>?_,fun h9=>?_⟩
     ·rw [decide_eq_true_eq] at h9
      refine ⟨fun h10=>?_,fun h10=>?_⟩
      ·exact hbad (by rw [if_pos (by omega)];simpa using h10)
      refine ⟨fun h11=>?_,fun h11=>?_⟩
      ·rw [decide_eq_true_eq] at h11;omega
      exact ⟨by rw [if_pos (by omega)];simpa using h10,H⟩
     ·rw [decide_eq_false_iff_not] at h9
      refine ⟨fun h11=>?_,fun h11=>?_⟩
      ·refine ⟨fun h10=>?_,fun h10=>?_⟩
       ·exact hbad (by rw [if_neg (by omega)];simpa using h10)
       ·exact ⟨by rw [if_neg (by omega)];simpa using h10,H⟩
      ·rw [decide_eq_false_iff_not] at h11;omega
    ·clear H;rintro dd122 w ⟨hok2,H⟩
     rw [hok2,Bool.true_and] at hso
     have hnext:∀(rc:Option Addr) (rl rcc:Nat) (r5:Option Nat) (w:World),rl=(recv (vs.flatMap symL)++recv ((symL v).take (j+1))).length->rl<=received117l+1 ->
       Sat F w (.own 40 1 rc rl rcc r5 (oi .u16 (recv (vs.flatMap symL)++recv ((symL v).take (j+1))))::.blk p 63 (pkT s m hp hc ht hl BA CN RE FB (.slice o' (vs.length+1) oc') (.slice none 0 0))::.own 163 5 o' (vs.length+1) oc' r' (((vs++[v]).map sta1).flatMap Sta.dat)::ex)
        (.deep [.row 1 (oi .u16 (symL v))] [.slice (some ⟨bb,oo,none⟩) (symL v).length l109c]::Ro.B ys b26 b26l b26c::ro) ->
       ∃m_113,m_113 < m_112/\∃(j':Nat) (rr2:Option Nat),IntKind.i64.wrap ((j:Int)+1)=(j':Int)/\j'+m_113=(symL v).length/\IntKind.i64.wrap (left27 - (j:Int) - 1)=left27 - j'/\symOk left27 (symL v)=symOk (left27 - j') ((symL v).drop j') /\
        rl=(recv (vs.flatMap symL)++recv ((symL v).take j')).length/\(rl:Int)+IntKind.i64.wrap (left27 - (j:Int) - 1)<=65535 /\
        Sat F w (.own 40 1 rc rl rcc rr2 (oi .u16 (recv (vs.flatMap symL)++recv ((symL v).take j')))::.blk p 63 (pkT s m hp hc ht hl BA CN RE FB (.slice o' (vs.length+1) oc') (.slice none 0 0))::.own 163 5 o' (vs.length+1) oc' r' (((vs++[v]).map sta1).flatMap Sta.dat)::ex)
         (.deep [.row 1 (oi .u16 (symL v))] [.slice (some ⟨bb,oo,none⟩) (symL v).length l109c]::Ro.B ys b26 b26l b26c::ro):=by
      intro rc rl rcc r5 w h9 h10 H
      have e5:IntKind.i64.wrap (left27 - (j:Int) - 1)=left27 - (j:Int) - 1:=wi64_of (by omega) (by omega)
      rw [e5]
      refine ⟨m_112 - 1,by omega,j+1,r5,?_,by omega,by omega,?_,h9,by omega,H⟩
      ·rw [wi64_of (by omega) (by omega)];simp
      ·rw [hso,show left27 - ((j+1:Nat):Int)=left27 - (j:Int) - 1 by omega]
     refine ⟨fun h9=>?_,fun h9=>?_⟩
     ·have h9:X=1:=by simpa using h9
      refine ⟨rfl,?_⟩
      refine sPush0 H (bytes:=2) (by kernel_rfl) [.one (.int .u16 X)] (by rfl) (fun G h=>by repeat (exact DeepL.ones _)) (by rfl) (by unfold maxLen;omega) (by omega) ?_
      clear H;intro x126 x126l x126c x126r w ex126 _ H
      have e6:recv ((symL v).take (j+1))=recv ((symL v).take j)++[X]:=by rw [htk,recv_append];subst h9;rfl
      refine hnext x126 x126l x126c x126r w (by rw [e6,ex126,hrl];simp;omega) (by omega) ?_
      rw [e6,<-List.append_assoc,oi_snoc]
      exact H
     ·have h9:¬X=1:=by simpa using h9
      refine ⟨fun h10=>?_,fun h10=>?_⟩
      ·have h10:X=2:=by simpa using h10
       refine ⟨rfl,?_⟩
       refine sPush0 H (bytes:=2) (by kernel_rfl) [.one (.int .u16 X)] (by rfl) (fun G h=>by repeat (exact DeepL.ones _)) (by rfl) (by unfold maxLen;omega) (by omega) ?_
       clear H;intro x130 x130l x130c x130r w ex130 _ H
       have e6:recv ((symL v).take (j+1))=recv ((symL v).take j)++[X]:=by rw [htk,recv_append];subst h10;rfl
       refine hnext x130 x130l x130c x130r w (by rw [e6,ex130,hrl];simp;omega) (by omega) ?_
       rw [e6,<-List.append_assoc,oi_snoc]
       exact H
      ·have h10:¬X=2:=by simpa using h10
       have e6:recv ((symL v).take (j+1))=recv ((symL v).take j):=by
        rw [htk,recv_append]
        have:recv [X]=[]:=by simp [recv,h9,h10]
        rw [this,List.append_nil]
       refine hnext received117 received117l received117c rr2 w (by rw [e6];exact hrl) (by omega) ?_
       rw [e6]
       exact H
   ·rw [decide_eq_false_iff_not] at h8
    obtain rfl:j=(symL v).length:=by omega
    rw [List.take_length] at H hrl
    rw [List.drop_length] at hso
    rw [if_pos (by rw [hso];rfl)] at htc
    have efl:recv ((vs++[v]).flatMap symL)=recv (vs.flatMap symL)++recv (symL v):=by rw [List.flatMap_append,recv_append];simp
    refine ⟨f,by omega,ys.drop 2,vs++[v],o',oc',r',rr2,hby.drop 2,?_,?_,by omega,by simp;omega,by omega,?_,?_,?_⟩
    ·obtain ⟨l1,l2⟩:=symL_len2 hv
     by_cases h0:v / 32768=0
     ·have:=l1 h0
      have:¬(v % 8192=0\/left27 < v % 8192):=fun h=>hok ⟨h0,h⟩
      omega
     ·have:=l2 h0
      omega
    ·rw [efl,<-hrl];exact hrb
    ·rw [efl];exact hrl
    ·rw [htc]
     cases tccC f (left27 - ((symL v).length:Int)) (ys.drop 2)<;>simp
    ·rw [efl,List.length_append]
     have H2:=H.skipB (xs:=ys) (a:=b26) (n:=b26l) (c:=b26c) (mt ms) 2 (by omega)
     exact H2.sub (by repeat (exact List.Sublist.refl _)) (fun r hr=>by (try simp only [List.mem_cons] at hr ⊢);(repeat (first | (rcases hr with rfl | hr;((left;rfl)))  | (simp [hr];done))))
 ·rw [decide_eq_false_iff_not] at h3
  rw [if_pos (by omega)] at htc
  simp only [Option.map_some,List.append_nil] at htc
  rw [htc] at hU
  simp only at hU
  have hR:=recv_range (l:=vs.flatMap symL)
  have hrb:(recv (vs.flatMap symL)).length<=70000:=by omega
  generalize recv (vs.flatMap symL)=R at H hU hR hrb ⊢
  refine ⟨fun h4=>?_,fun h4=>?_⟩
  ·have h4:R.length=0:=by simpa using h4
   exact RdPost.no (by rw [hU,if_pos h4]) (H.ds (fun r hr=>by (try simp only [List.mem_cons] at hr ⊢);(repeat ((simp [hr];done)))))
  have h4:¬R.length=0:=by simpa using h4
  rw [if_neg h4] at hU
  replace H:=H.freeze
  refine ⟨fun b138 b138l b138c x139 m_134 w=>∃(i:Nat) (zs:List Int) (ds:List Del) (o2:Option Addr) (oc2:Nat) (r2:Option Nat),x139=(i:Int)/\i+m_134=R.length/\ds.length=i/\By zs/\b138l<=n/\tccD R ys=(tccD (R.drop i) zs).map (fun q=>(ds++q.1,q.2)) /\
   Sat F w (.blk p 63 (pkT s m hp hc ht hl BA CN RE FB (.slice o vs.length oc) (.slice o2 i oc2))::.own 165 2 o2 i oc2 r2 (ds.flatMap Del.dat)::.own 163 5 o vs.length oc r ((vs.map sta1).flatMap Sta.dat)::ex)
    (Ro.B zs b138 b138l b138c::.deep [.row 1 (oi .u16 R)] [.slice received28 R.length received28c]::ro),⟨R.length,0,ys,[],none,0,none,rfl,by omega,rfl,hby,hbl,?_,?_⟩,?_⟩
  ·rw [List.drop_zero];cases tccD R ys<;>simp
  ·exact ((H.sub (by repeat (exact List.Sublist.refl _)) (fun r hr=>by (try simp only [List.mem_cons] at hr ⊢);(repeat (first | (rcases hr with rfl | hr;(first | (left;rfl) | (right;left;rfl)))  | (simp [hr];done))))).nilOwn 165 2).u1
  clear H;rintro dd133 b138 b138l b138c x139 m_134 w ⟨i,zs,ds,o2,oc2,r2,rfl,hi,hdl,hzb,hbl2,htd,H⟩
  have hzl:=H.lenB ms
  refine ⟨fun h5=>?_,fun h5=>?_⟩
  ·rw [decide_eq_true_eq] at h5
   obtain ⟨bb,oo,rfl,hcell⟩:=H.elt (mt ms) (by omega)
   refine ⟨_,rfl,by omega,by omega,?_⟩
   refine ⟨_,(by rw [add_flat];exact hcell _ _ (oi_get _ _ _ (by omega))),?_⟩
   rw [show (i:Int).toNat*1=i by omega]
   rw [drop_cons (by omega:i < R.length)] at htd
   have hX:=hR _ (getD_mem (by omega:i < R.length))
   generalize R.getD i 0=X at htd hX ⊢
   simp only [tccD] at htd
   rw [wi64_of (n:=X) (by omega) (by omega)]
   refine ⟨fun h6=>?_,fun h6=>?_⟩
   ·rw [decide_eq_true_eq] at h6
    rw [if_pos (by omega)] at htd
    exact RdPost.no (by rw [hU,htd];rfl) (H.ds (fun r hr=>by (try simp only [List.mem_cons] at hr ⊢);(repeat ((simp [hr];done)))))
   rw [decide_eq_false_iff_not] at h6
   rw [if_neg (by omega)] at htd
   obtain ⟨p_142,rfl,hp_142,kp_142,fp_142⟩:=H.at_ (a:=b138) ms (by omega)
   refine ⟨p_142,rfl,by omega,by omega,?_⟩
   refine ⟨_,hp_142 0 (by omega),?_⟩
   have hz0:=hzb.getD 0
   rw [wi64_of (n:=zs.getD 0 0) (by omega) (by omega),wi64_of (n:=zs.getD 0 0*250) (by omega) (by omega)]
   refine sNew H ?_;clear H;intro b144 w _ H
   refine sSw0 H rfl (by kernel_rfl) (by rfl) (by rfl) ?_;clear H;intro w _ H
   refine ⟨fun h7=>?_,fun h7=>?_⟩
   ·have h7:X=2:=by simpa using h7
    subst h7
    refine call_j (c53 (by exact (Sat.rd H ms)) hzb (by omega)) ?_
    rintro _ w ⟨rfl,g⟩
    replace H:=H.grow g;clear g
    refine ⟨_,rfl,?_⟩
    have hzz:=n16_lt hzb
    have h16:-32768<=IntKind.i16.wrap (n16 zs)/\IntKind.i16.wrap (n16 zs) < 32768:=by rw [wi16];split<;>omega
    rw [wi64_of (n:=IntKind.i16.wrap (n16 zs)) (by omega) (by omega),wi64_of (n:=IntKind.i16.wrap (n16 zs)*250) (by omega) (by omega)]
    have hd1:del1 2 zs=(2,IntKind.i16.wrap (n16 zs)*250):=by unfold del1;rw [if_pos rfl]
    refine sSt0 H (by exact add_flat _ _ _) (by kernel_rfl) (by rfl) (by rfl) ?_;clear H;intro w _ H
    refine ⟨r2,?_⟩;replace H:=H.drew;generalize w.drew=wd6 at H ⊢;have K:=grew_refl wd6 (r2)
    refine ⟨_,rfl,?_⟩
    refine ⟨(H.ne (mt ms) (mt (mt ms))),?_⟩
    refine ⟨H.b1.row,?_⟩
    refine ⟨_,_,_,(H.b1.at0 rfl),?_⟩
    refine ⟨(H.ne ms (mt (mt ms))),?_⟩
    refine ⟨H.b0.row,?_⟩
    refine ⟨_,_,H.b0.ld,?_⟩
    refine ⟨rfl,?_⟩
    refine sNew H ?_;clear H;intro b155 w g H;replace K:=gtr K (grew_none _ g);clear g
    refine ⟨K,?_⟩
    refine sApp3 H (bytes:=16) (by kernel_rfl) [.int .u16 2,.int .i64 (IntKind.i16.wrap (n16 zs)*250)] (Del.dat (del1 2 zs)) (by rfl) (fun j u hu=>by rw [add_flat,Nat.zero_add];exact H.b0.cell hu) (by rw [hd1];exact (fun G h=>by repeat (exact DeepL.ones _))) (by simp [Value.oneCell']) (by unfold maxLen;omega) (by omega) ?_
    clear H;intro x157 x157l x157c x157r w ex157 g H
    replace K:=gtr K g;clear g;replace H:=H.d1
    refine ⟨K,?_⟩
    refine ⟨_,rfl,?_⟩
    refine sSt1 H (by exact add_flat _ _ _) (by kernel_rfl) (by rfl) (by rfl) ?_;clear H;intro w _ H
    refine ⟨by omega,by omega,?_⟩
    subst ex157
    refine ⟨m_134 - 1,by omega,i+1,zs.drop (2:Int).toNat,ds++[del1 2 zs],x157,x157c,x157r,?_,by omega,by simp [hdl],hzb.drop _,by omega,?_,?_⟩
    ·rw [wi64_of (by omega) (by omega)];simp
    ·rw [htd]
     cases tccD (R.drop (i+1)) (zs.drop (2:Int).toNat)<;>simp
    ·rw [List.flatMap_append]
     have H2:=H.skipB (xs:=zs) (a:=some p_142) (n:=b138l) (c:=b138c) ms (2:Int).toNat (by omega)
     exact H2.sub (by repeat (first | exact List.Sublist.refl _ | apply List.Sublist.cons)) (fun r hr=>by (try simp only [List.mem_cons] at hr ⊢);(repeat (first | (rcases hr with rfl | hr;(first | (left;rfl) | (right;right;left;rfl)))  | (simp [hr];done))))
   ·have h7:¬X=2:=by simpa using h7
    have hd1:del1 X zs=(X,zs.getD 0 0*250):=by unfold del1;rw [if_neg h7]
    refine ⟨r2,?_⟩;replace H:=H.drew;generalize w.drew=wd6 at H ⊢;have K:=grew_refl wd6 (r2)
    refine ⟨_,rfl,?_⟩
    refine ⟨(H.ne (mt ms) (mt (mt ms))),?_⟩
    refine ⟨H.b1.row,?_⟩
    refine ⟨_,_,_,(H.b1.at0 rfl),?_⟩
    refine ⟨(H.ne ms (mt (mt ms))),?_⟩
    refine ⟨H.b0.row,?_⟩
    refine ⟨_,_,H.b0.ld,?_⟩
    refine ⟨rfl,?_⟩
    refine sNew H ?_;clear H;intro b155 w g H;replace K:=gtr K (grew_none _ g);clear g
    refine ⟨K,?_⟩
    refine sApp3 H (bytes:=16) (by kernel_rfl) [.int .u16 X,.int .i64 (zs.getD 0 0*250)] (Del.dat (del1 X zs)) (by rfl) (fun j u hu=>by rw [add_flat,Nat.zero_add];exact H.b0.cell hu) (by rw [hd1];exact (fun G h=>by repeat (exact DeepL.ones _))) (by simp [Value.oneCell']) (by unfold maxLen;omega) (by omega) ?_
    clear H;intro x157 x157l x157c x157r w ex157 g H
    replace K:=gtr K g;clear g;replace H:=H.d1
    refine ⟨K,?_⟩
    refine ⟨_,rfl,?_⟩
    refine sSt1 H (by exact add_flat _ _ _) (by kernel_rfl) (by rfl) (by rfl) ?_;clear H;intro w _ H
    refine ⟨by omega,by omega,?_⟩
    subst ex157
    refine ⟨m_134 - 1,by omega,i+1,zs.drop (X:Int).toNat,ds++[del1 X zs],x157,x157c,x157r,?_,by omega,by simp [hdl],hzb.drop _,by omega,?_,?_⟩
    ·rw [wi64_of (by omega) (by omega)];simp
    ·rw [htd]
     cases tccD (R.drop (i+1)) (zs.drop (X:Int).toNat)<;>simp
    ·rw [List.flatMap_append]
     have H2:=H.skipB (xs:=zs) (a:=some p_142) (n:=b138l) (c:=b138c) ms (X:Int).toNat (by omega)
     exact H2.sub (by repeat (first | exact List.Sublist.refl _ | apply List.Sublist.cons)) (fun r hr=>by (try simp only [List.mem_cons] at hr ⊢);(repeat (first | (rcases hr with rfl | hr;(first | (left;rfl) | (right;right;left;rfl)))  | (simp [hr];done))))
  ·rw [decide_eq_false_iff_not] at h5
   obtain rfl:i=R.length:=by omega
   rw [List.drop_length] at htd
   simp only [tccD,Option.map_some,List.append_nil] at htd
   rw [htd] at hU
   simp only at hU
   replace H:=H.r1.freeze
   replace H:=H.r1.freeze
   refine ⟨fun x178 m_174 w=>∃j:Nat,x178=(j:Int)/\j+m_174=b138l/\(∀q,q < j->zs.getD q 0=0) /\
    Sat F w (.blk p 63 (pkT s m hp hc ht hl BA CN RE FB (.slice o vs.length oc) (.slice o2 R.length oc2))::ex)
     (.deep [.row 5 ((vs.map sta1).flatMap Sta.dat)] [.slice o vs.length oc]::.deep [.row 2 (ds.flatMap Del.dat)] [.slice o2 R.length oc2]::Ro.B zs b138 b138l b138c::ro),⟨b138l,0,rfl,by omega,by simp,H.sub (by repeat (exact List.Sublist.refl _)) (fun r hr=>by (try simp only [List.mem_cons] at hr ⊢);(repeat (first | (rcases hr with rfl | hr;(first | (left;rfl) | (right;left;rfl) | (right;right;left;rfl)))  | (simp [hr];done))))⟩,?_⟩
   clear H;rintro dd173 x178 m_174 w ⟨j,rfl,hj,hz,H⟩
   refine ⟨fun h6=>?_,fun h6=>?_⟩
   ·rw [decide_eq_true_eq] at h6
    obtain ⟨p_179,rfl,hp_179,kp_179,fp_179⟩:=H.at_ (a:=b138) (xs:=zs) (mt (mt ms)) (by omega)
    refine ⟨p_179,rfl,by omega,by omega,?_⟩
    refine ⟨_,hp_179 _ (by omega),?_⟩
    rw [show (j:Int).toNat*1=j by omega]
    refine ⟨fun h7=>?_,fun h7=>?_⟩
    ·have h7:¬zs.getD j 0=0:=by simpa using h7
     refine RdPost.no ?_ (H.sub (by repeat (exact List.Sublist.refl _)) (fun r hr=>by (try simp only [List.mem_cons] at hr ⊢);(repeat ((simp [hr];done)))))
     rw [hU,if_neg]
     rintro ⟨h8,_⟩
     exact h7 ((all_zero zs).1 h8 j (by omega))
    ·have h7:zs.getD j 0=0:=by simpa using h7
     refine ⟨m_174 - 1,by omega,j+1,?_,by omega,?_,H⟩
     ·rw [wi64_of (by omega) (by omega)];simp
     ·intro q hq
      rcases Nat.lt_or_ge q j with h | h
      ·exact hz q h
      ·obtain rfl:q=j:=by omega
       exact h7
   ·rw [decide_eq_false_iff_not] at h6
    have hall:zs.all (· == 0)=true:=(all_zero zs).2 fun q hq=>hz q (by omega)
    by_cases h7:b138l<=3
    ·have e:decide ((b138l:Int)<=(3:Int))=true:=by rw [decide_eq_true_eq];omega
     rw [e]
     rw [if_pos ⟨hall,by omega⟩] at hU
     exact RdPost.yes _ hU H (fun r hr=>by (try simp only [List.mem_cons] at hr ⊢);(repeat ((simp [hr];done)))) (fun G h=>by repeat (first | exact DeepL.ones _ | refine dc (Deep.emp _ _) ?_ | refine dc (Deep.one _) ?_ | refine dc (h (.deep [_] [_]) (by first | exact ms | (apply List.mem_cons_of_mem;exact ms))).head ?_))
    ·have e:decide ((b138l:Int)<=(3:Int))=false:=by rw [decide_eq_false_iff_not];omega
     rw [e]
     exact RdPost.no (by rw [hU,if_neg (fun h=>h7 (by omega))]) (H.sub (by repeat (exact List.Sublist.refl _)) (fun r hr=>by (try simp only [List.mem_cons] at hr ⊢);(repeat ((simp [hr];done)))))
theorem pairsL_snoc:∀(i:Nat) (xs:List Int),pairsL (i+1) xs=pairsL i xs++[(n16 (xs.drop (4*i)),n16 ((xs.drop (4*i)).drop 2))]
 | 0,xs=>by simp [pairsL]
 | i+1,xs=>by
  rw [pairsL,pairsL_snoc i,pairsL]
  simp only [List.cons_append,List.drop_drop]
  rw [show 4+4*i=4*(i+1) by omega]
def sli1 (v:Int):Sli:=(v / 524288,v / 64 % 8192,v % 64)
theorem sliceL_snoc:∀(i:Nat) (xs:List Int),sliceL (i+1) xs=sliceL i xs++[sli1 (n32 (xs.drop (4*i)))]
 | 0,xs=>by simp [sliceL,sli1]
 | i+1,xs=>by
  rw [sliceL,sliceL_snoc i,sliceL]
  simp only [List.cons_append,List.drop_drop]
  rw [show 4+4*i=4*(i+1) by omega]
theorem pairsL_length:∀(i:Nat) (xs:List Int),(pairsL i xs).length=i
 | 0,_=>rfl
 | i+1,xs=>by simp [pairsL,pairsL_length i]
theorem sliceL_length:∀(i:Nat) (xs:List Int),(sliceL i xs).length=i
 | 0,_=>rfl
 | i+1,xs=>by simp [sliceL,sliceL_length i]
theorem sli_bits {v:Int} (h:0<=v/\v < 4294967296):IntKind.u16.wrap (ishr .u32 v (19:Int))=v / 524288/\IntKind.u16.wrap (iand .u32 (ishr .u32 v (6:Int)) (8191:Int))=v / 64 % 8192/\IntKind.u8.wrap (iand .u32 v (63:Int))=v % 64:=by
 have e1:ishr .u32 v (19:Int)=v / 524288:=ishr_of 19 (by rfl) (by decide)
 have e2:ishr .u32 v (6:Int)=v / 64:=ishr_of 6 (by rfl) (by decide)
 have e3:iand .u32 (v / 64) (8191:Int)=v / 64 % 8192:=iand_low (k:=.u32) (by rfl) 13 (by omega) (by simp only [IntKind.bits];omega) (by omega) (by decide)
 have e4:iand .u32 v (63:Int)=v % 64:=iand_low (k:=.u32) (by rfl) 6 h.1 (by simp only [IntKind.bits];omega) (by omega) (by decide)
 rw [e1,e2,e3,e4,wu16,wu16,wu8]
 omega
theorem RdPost.weak {F:Fr} {p:Nat} {ex:List Ex} {ro:List Ro} {r:Ro} {q:Option Pk} {en:Ending} {w:World} (h:RdPost F p ex (r::ro) q en w):RdPost F p ex ro q en w:=by
 unfold RdPost at h ⊢
 cases q with
 | none=>obtain ⟨rfl,cells,H⟩:=h;exact ⟨rfl,_,H.sub (List.Sublist.refl _) (fun _ h=>mt h)⟩
 | some pk=>
  obtain ⟨rfl,cells,H⟩:=h
  refine ⟨rfl,cells,H.sub (List.Sublist.refl _) (fun x hx=>?_)⟩
  rcases List.mem_cons.1 hx with rfl | hx
  ·exact ms
  ·exact mt (mt hx)
theorem RdPost.ret {F:Fr} {p:Nat} {ex:List Ex} {ro:List Ro} {q:Option Pk} {en:Ending} {w:World} (h:RdPost F p ex ro q en w):∃b:Bool,en=.returned (.bool b)/\RdPost F p ex ro q (.returned (.bool b)) w:=by
 have h':=h
 unfold RdPost at h
 cases q with
 | none=>obtain ⟨rfl,_⟩:=h;exact ⟨false,rfl,h'⟩
 | some pk=>obtain ⟨rfl,_⟩:=h;exact ⟨true,rfl,h'⟩
theorem c63 {F:Fr} {w:World} {ex:List Ex} {ro:List Ro} {xs:List Int} {a:Option Addr} {n c:Nat} {p:Nat} {k:Int} {hp:Bool} {hc ht hl:Int} (H:Sat F w (.blk p 63 (pk0 k (n32 xs) (n32 (xs.drop 4)) false 0 0 0)::ex) ro) (hx:Ro.B xs a n c∈ro) (hb:By xs)
  (hn:n<=1000000) (hn8:8<=n) (hk:k=6\/k=7\/k=8\/k=9\/k=10\/k=11\/k=12\/k=13) :
  Calls pg 63 #[.pointer (some ⟨p,0,none⟩),.slice a n c,.agg #[.bool hp,.int .u8 hc,.int .u8 ht,.int .u16 hl]] w (RdPost F p ex ro (rdFb k hp hc ht hl xs)):=by
 apply of63
 have hlen:=H.lenB hx
 have hdl:(xs.drop 8).length=n - 8:=by rw [List.length_drop,hlen]
 generalize hsd:n32 xs=s at H
 generalize hmd:n32 (xs.drop 4)=m at H
 refine sNew H ?_;clear H;intro b1 w _ H
 refine ⟨by omega,by omega,?_⟩
 refine ⟨_,rfl,?_⟩
 refine ⟨_,(H.b1.at0 rfl),?_⟩
 have hbody:∀q:Bool,(k=7\/k=9)->q=(((n - 8:Nat):Int) == (0:Int))->RdPost F p ex ro (rdFb k hp hc ht hl xs) (.returned (.bool q)) w:=by
  intro q hq e
  subst e
  have hU:rdFb k hp hc ht hl xs=if (xs.drop 8).length=0 then some { kind:=k,sender:=s,media:=m } else none:=by
   unfold rdFb;rw [hsd,hmd];simp only;rw [if_pos hq]
  by_cases h0:n - 8=0
  ·rw [show ((((n - 8:Nat):Int)) == (0:Int))=true by rw [h0];rfl]
   rw [if_pos (by omega)] at hU
   exact RdPost.yes _ hU (H.sub (ex':=.blk p 63 (pk0 k s m false 0 0 0)::ex) (ro':=ro) (by repeat (first | exact List.Sublist.refl _ | apply List.Sublist.cons)) (fun r hr=>by (try simp only [List.mem_cons] at hr ⊢);(repeat ((simp [hr];done))))) (fun _ h=>h) (fun G h=>by repeat (first | exact DeepL.ones _ | refine dc (Deep.emp _ _) ?_ | refine dc (Deep.one _) ?_))
  ·rw [show ((((n - 8:Nat):Int)) == (0:Int))=false by rw [beq_eq_false_iff_ne];omega]
   exact RdPost.no (by rw [hU,if_neg (by omega)]) (H.ds (fun r hr=>by (try simp only [List.mem_cons] at hr ⊢);(repeat ((simp [hr];done)))))
 refine ⟨fun h1=>?_,fun h1=>?_⟩
 ·exact ⟨fun _=>hbody _ (.inl (by simpa using h1)) rfl,fun h2=>absurd h1 (by rw [h2];exact Bool.false_ne_true)⟩
 have h7:¬k=7:=by simpa using h1
 refine ⟨fun h1=>?_,fun h1=>?_⟩
 ·exact hbody _ (.inr (by simpa using h1)) rfl
 have h9:¬k=9:=by simpa using h1
 have h8:=hb.drop 8
 refine ⟨fun h1=>?_,fun h1=>?_⟩
 ·have h6:k=6:=by simpa using h1
  subst h6
  have hU:rdFb 6 hp hc ht hl xs=if (xs.drop 8).length / 4=0 then none else some { kind:=6,sender:=s,media:=m,pairs:=pairsL ((xs.drop 8).length / 4) (xs.drop 8) }:=by
   unfold rdFb;rw [hsd,hmd];simp only;rw [if_neg (by omega),if_pos trivial]
  have H1:=H.skipB hx 8 (by omega)
  replace H:=(H1.sub (ex':=.blk p 63 (pk0 6 s m false 0 0 0)::ex) (ro':=_) (by repeat (first | exact List.Sublist.refl _ | apply List.Sublist.cons)) (fun _ h=>h)).nilOwn 151 2
  clear H1 hbody
  generalize xs.drop 8=bs at H hU hdl h8 ⊢
  refine ⟨fun b11 b11l b11c m_7 w=>∃(i:Nat) (o:Option Addr) (oc:Nat) (r:Option Nat),i+m_7=n/\b11l+4*i=n - 8 /\
   Sat F w (.blk p 63 ((pk0 6 s m false 0 0 0).set 14 (.slice o i oc))::.own 151 2 o i oc r ((pairsL i bs).flatMap Par.dat)::ex) (Ro.B (bs.drop (4*i)) b11 b11l b11c::ro),⟨n,0,none,0,none,by omega,by omega,H.u1⟩,?_⟩
  clear H;rintro dd6 b11 b11l b11c m_7 w ⟨i,o,oc,r,him,hbl,H⟩
  refine ⟨fun h2=>?_,fun h2=>?_⟩
  ·rw [decide_eq_true_eq] at h2
   have hby:By (bs.drop (4*i)):=h8.drop _
   refine ⟨r,?_⟩;replace H:=H.drew;generalize w.drew=wd1 at H ⊢;have K:=grew_refl wd1 (r)
   refine ⟨_,rfl,?_⟩
   refine ⟨(H.ne ms (mt ms)),?_⟩
   refine ⟨H.b0.row,?_⟩
   refine ⟨_,_,_,(H.b0.at0 rfl),?_⟩
   refine ⟨by omega,by omega,?_⟩
   refine call_j (c53 (by exact (Sat.rd H ms)) hby (by omega)) ?_
   rintro _ w ⟨rfl,g⟩
   replace H:=H.grow g;replace K:=gtr K (grew_none _ g);clear g
   refine ⟨_,rfl,?_⟩
   refine ⟨K,?_⟩
   refine call_j (c53 (by exact Rd.skip (Sat.rd H ms) _ (by omega)) (hby.drop 2) (by omega)) ?_
   rintro _ w ⟨rfl,g⟩
   replace H:=H.grow g;replace K:=gtr K (grew_none _ g);clear g
   refine ⟨_,rfl,?_⟩
   refine ⟨K,?_⟩
   refine ⟨rfl,?_⟩
   refine sNew H ?_;clear H;intro b19 w g H;replace K:=gtr K (grew_none _ g);clear g
   refine ⟨K,?_⟩
   refine sApp2 H (bytes:=4) (by kernel_rfl) [.int .u16 (n16 (bs.drop (4*i))),.int .u16 (n16 ((bs.drop (4*i)).drop 2))] (Par.dat (n16 (bs.drop (4*i)),n16 ((bs.drop (4*i)).drop 2))) (by rfl) (fun j u hu=>by rw [add_flat,Nat.zero_add];exact H.b0.cell hu) (fun G h=>by repeat (exact DeepL.ones _)) (by simp [Value.oneCell']) (by unfold maxLen;omega) (by omega) ?_
   clear H;intro x21 x21l x21c x21r w ex21 g H
   replace K:=gtr K g;clear g;replace H:=H.d1
   refine ⟨K,?_⟩
   refine ⟨_,rfl,?_⟩
   refine sSt0 H (by exact add_flat _ _ _) (by kernel_rfl) (by rfl) (by rfl) ?_;clear H;intro w _ H
   refine ⟨by omega,by omega,?_⟩
   subst ex21
   refine ⟨m_7 - 1,by omega,i+1,x21,x21c,x21r,by omega,by omega,?_⟩
   have H2:=H.skipB ms 4 (by omega)
   rw [show (bs.drop (4*i)).drop 4=bs.drop (4*(i+1)) by rw [List.drop_drop];congr 1] at H2
   rw [pairsL_snoc,List.flatMap_append]
   exact H2.sub (by repeat (exact List.Sublist.refl _)) (fun r hr=>by (try simp only [List.mem_cons] at hr ⊢);(repeat (first | (rcases hr with rfl | hr;((left;rfl)))  | (simp [hr];done))))
  ·rw [decide_eq_false_iff_not] at h2
   refine ⟨_,rfl,?_⟩
   refine ⟨_,_,_,(H.b0.at0 rfl),?_⟩
   have hi:bs.length / 4=i:=by omega
   rw [hi] at hU
   replace H:=H.r1.freeze
   by_cases h0:i=0
   ·rw [show decide (((i:Nat):Int) > (0:Int))=false by rw [decide_eq_false_iff_not];omega]
    exact RdPost.no (by rw [hU,if_pos h0]) (H.sub (by repeat (exact List.Sublist.refl _)) (fun r hr=>by (try simp only [List.mem_cons] at hr ⊢);(repeat ((simp [hr];done)))))
   ·rw [show decide (((i:Nat):Int) > (0:Int))=true by rw [decide_eq_true_eq];omega]
    rw [if_neg h0] at hU
    exact RdPost.yes _ hU H (fun r hr=>by (try simp only [List.mem_cons] at hr ⊢);(repeat ((simp [hr];done)))) (fun G h=>by repeat (first | exact DeepL.ones _ | refine dc (Deep.emp _ _) ?_ | refine dc (Deep.one _) ?_ | refine dc (h (.deep [_] [_]) ms).head ?_))
 have h6:¬k=6:=by simpa using h1
 refine ⟨fun h1=>?_,fun h1=>?_⟩
 ·have h10:k=10:=by simpa using h1
  subst h10
  have hU:rdFb 10 hp hc ht hl xs=if (xs.drop 8).length / 4=0 then none else some { kind:=10,sender:=s,media:=m,slices:=sliceL ((xs.drop 8).length / 4) (xs.drop 8) }:=by
   unfold rdFb;rw [hsd,hmd];simp only;rw [if_neg (by omega),if_neg (by omega),if_pos trivial]
  have H1:=H.skipB hx 8 (by omega)
  replace H:=(H1.sub (ex':=.blk p 63 (pk0 10 s m false 0 0 0)::ex) (ro':=_) (by repeat (first | exact List.Sublist.refl _ | apply List.Sublist.cons)) (fun _ h=>h)).nilOwn 153 3
  clear H1 hbody
  generalize xs.drop 8=bs at H hU hdl h8 ⊢
  refine ⟨fun b33 b33l b33c m_29 w=>∃(i:Nat) (o:Option Addr) (oc:Nat) (r:Option Nat),i+m_29=n/\b33l+4*i=n - 8 /\
   Sat F w (.blk p 63 ((pk0 10 s m false 0 0 0).set 15 (.slice o i oc))::.own 153 3 o i oc r ((sliceL i bs).flatMap Sli.dat)::ex) (Ro.B (bs.drop (4*i)) b33 b33l b33c::ro),⟨n,0,none,0,none,by omega,by omega,H.u1⟩,?_⟩
  clear H;rintro dd28 b33 b33l b33c m_29 w ⟨i,o,oc,r,him,hbl,H⟩
  refine ⟨fun h2=>?_,fun h2=>?_⟩
  ·rw [decide_eq_true_eq] at h2
   have hby:By (bs.drop (4*i)):=h8.drop _
   refine call_j (c58 (by exact (Sat.rd H ms)) hby (by omega)) ?_
   rintro _ w ⟨rfl,g⟩
   replace H:=H.grow g;clear g
   refine ⟨_,rfl,?_⟩
   obtain ⟨e1,e2,e3⟩:=sli_bits (n32_lt hby)
   rw [e1,e2,e3]
   refine ⟨_,rfl,?_⟩
   refine ⟨_,_,_,(H.b0.at0 rfl),?_⟩
   refine ⟨rfl,?_⟩
   refine sPush1 H (bytes:=6) (by kernel_rfl) (Sli.dat (sli1 (n32 (bs.drop (4*i))))) (by rfl) (fun G h=>by repeat (exact DeepL.ones _)) (by rfl) (by unfold maxLen;omega) (by omega) ?_
   clear H;intro x40 x40l x40c x40r w ex40 _ H
   refine ⟨_,rfl,?_⟩
   refine sSt0 H (by exact add_flat _ _ _) (by kernel_rfl) (by rfl) (by rfl) ?_;clear H;intro w _ H
   refine ⟨by omega,by omega,?_⟩
   subst ex40
   refine ⟨m_29 - 1,by omega,i+1,x40,x40c,x40r,by omega,by omega,?_⟩
   have H2:=H.skipB ms 4 (by omega)
   rw [List.drop_drop,show 4*i+4=4*(i+1) by omega] at H2
   rw [sliceL_snoc,List.flatMap_append]
   exact H2.sub (by repeat (exact List.Sublist.refl _)) (fun r hr=>by (try simp only [List.mem_cons] at hr ⊢);(repeat (first | (rcases hr with rfl | hr;((left;rfl)))  | (simp [hr];done))))
  ·rw [decide_eq_false_iff_not] at h2
   refine ⟨_,rfl,?_⟩
   refine ⟨_,_,_,(H.b0.at0 rfl),?_⟩
   have hi:bs.length / 4=i:=by omega
   rw [hi] at hU
   replace H:=H.r1.freeze
   by_cases h0:i=0
   ·rw [show decide (((i:Nat):Int) > (0:Int))=false by rw [decide_eq_false_iff_not];omega]
    exact RdPost.no (by rw [hU,if_pos h0]) (H.sub (by repeat (exact List.Sublist.refl _)) (fun r hr=>by (try simp only [List.mem_cons] at hr ⊢);(repeat ((simp [hr];done)))))
   ·rw [show decide (((i:Nat):Int) > (0:Int))=true by rw [decide_eq_true_eq];omega]
    rw [if_neg h0] at hU
    exact RdPost.yes _ hU H (fun r hr=>by (try simp only [List.mem_cons] at hr ⊢);(repeat ((simp [hr];done)))) (fun G h=>by repeat (first | exact DeepL.ones _ | refine dc (Deep.emp _ _) ?_ | refine dc (Deep.one _) ?_ | refine dc (h (.deep [_] [_]) ms).head ?_))
 have h10:¬k=10:=by simpa using h1
 refine ⟨fun h1=>?_,fun h1=>?_⟩
 ·have h11:k=11:=by simpa using h1
  subst h11
  have hU:rdFb 11 hp hc ht hl xs=match entryL ((xs.drop 8).length / 8) (xs.drop 8) with
    | some l=>if l=[] then none else some { kind:=11,sender:=s,media:=m,entries:=l }
    | none=>none:=by
   unfold rdFb;rw [hsd,hmd];simp only;rw [if_neg (by omega),if_neg (by omega),if_neg (by omega),if_pos trivial];rfl
  have H1:=H.skipB hx 8 (by omega)
  replace H:=(H1.sub (ex':=.blk p 63 (pk0 11 s m false 0 0 0)::ex) (ro':=_) (by repeat (first | exact List.Sublist.refl _ | apply List.Sublist.cons)) (fun _ h=>h)).nilOwn 155 2
  clear H1 hbody
  generalize xs.drop 8=bs at H hU hdl h8 ⊢
  refine ⟨fun b52 b52l b52c m_48 w=>∃(ys:List Int) (l:List Ent) (o:Option Addr) (oc:Nat) (r:Option Nat),By ys/\m_48=b52l / 8/\b52l<=n/\l.length+m_48<=n/\entryL (bs.length / 8) bs=(entryL m_48 ys).map (l++·) /\
   Sat F w (.blk p 63 ((pk0 11 s m false 0 0 0).set 16 (.slice o l.length oc))::.own 155 2 o l.length oc r (l.flatMap Ent.dat)::ex) (Ro.B ys b52 b52l b52c::ro),⟨bs.length / 8,bs,[],none,0,none,h8,by omega,by omega,by simp;omega,?_,H.u1⟩,?_⟩
  ·cases entryL (bs.length / 8) bs<;>simp
  clear H;rintro dd47 b52 b52l b52c m_48 w ⟨ys,l,o,oc,r,hby,rfl,hbl,hll,hen,H⟩
  have hyl:=H.lenB ms
  refine ⟨fun h2=>?_,fun h2=>?_⟩
  ·rw [decide_eq_true_eq] at h2
   obtain ⟨q,hq⟩:∃q,b52l / 8=q+1:=⟨b52l / 8 - 1,by omega⟩
   rw [hq,entryL] at hen
   refine ⟨by omega,by omega,?_⟩
   refine call_j (c92 (by exact Rd.skip (Sat.rd H ms) _ (by omega)) (hby.drop 5) (by omega)) ?_
   rintro _ w ⟨rfl,g⟩
   replace H:=H.grow g;clear g
   refine ⟨_,rfl,?_⟩
   refine ⟨fun h3=>?_,fun h3=>?_⟩
   ·have h3:n24 (ys.drop 5)≠0:=by simpa using h3
    rw [if_pos h3] at hen
    exact RdPost.no (by rw [hU,hen];rfl) (H.ds (fun r hr=>by (try simp only [List.mem_cons] at hr ⊢);(repeat ((simp [hr];done)))))
   have h3:¬n24 (ys.drop 5)≠0:=by simpa using h3
   rw [if_neg h3] at hen
   refine ⟨r,?_⟩;replace H:=H.drew;generalize w.drew=wd2 at H ⊢;have K:=grew_refl wd2 (r)
   refine ⟨_,rfl,?_⟩
   refine ⟨(H.ne ms (mt ms)),?_⟩
   refine ⟨H.b0.row,?_⟩
   refine ⟨_,_,_,(H.b0.at0 rfl),?_⟩
   obtain ⟨p_58,rfl,hp_58,kp_58,fp_58⟩:=H.at_ (a:=b52) (xs:=ys) ms (by omega)
   refine ⟨p_58,rfl,by omega,by omega,?_⟩
   refine ⟨H.ne_own (mt ms) (fp_58 _),?_⟩
   refine ⟨kp_58 _,?_⟩
   refine ⟨_,hp_58 4 (by omega),?_⟩
   refine call_j (c58 (by exact (Sat.rd H ms)) hby (by omega)) ?_
   rintro _ w ⟨rfl,g⟩
   replace H:=H.grow g;replace K:=gtr K (grew_none _ g);clear g
   refine ⟨_,rfl,?_⟩
   refine ⟨K,?_⟩
   refine ⟨rfl,?_⟩
   refine sNew H ?_;clear H;intro b62 w g H;replace K:=gtr K (grew_none _ g);clear g
   refine ⟨K,?_⟩
   refine sApp2 H (bytes:=8) (by kernel_rfl) [.int .u32 (n32 ys),.int .u8 (ys.getD 4 0)] (Ent.dat (n32 ys,ys.getD 4 0)) (by rfl) (fun j u hu=>by rw [add_flat,Nat.zero_add];exact H.b0.cell hu) (fun G h=>by repeat (exact DeepL.ones _)) (by simp [Value.oneCell']) (by unfold maxLen;omega) (by omega) ?_
   clear H;intro x64 x64l x64c x64r w ex64 g H
   replace K:=gtr K g;clear g;replace H:=H.d1
   refine ⟨K,?_⟩
   refine ⟨_,rfl,?_⟩
   refine sSt0 H (by exact add_flat _ _ _) (by kernel_rfl) (by rfl) (by rfl) ?_;clear H;intro w _ H
   refine ⟨by omega,by omega,?_⟩
   subst ex64
   refine ⟨q,by omega,ys.drop 8,l++[(n32 ys,ys.getD 4 0)],x64,x64c,x64r,hby.drop 8,by omega,by omega,by simp;omega,?_,?_⟩
   ·rw [hen]
    cases entryL q (ys.drop 8)<;>simp
   ·rw [List.flatMap_append,List.length_append]
    have H2:=H.skipB (xs:=ys) (a:=some p_58) (n:=b52l) (c:=b52c) ms 8 (by omega)
    exact H2.sub (by repeat (exact List.Sublist.refl _)) (fun r hr=>by (try simp only [List.mem_cons] at hr ⊢);(repeat (first | (rcases hr with rfl | hr;((left;rfl)))  | (simp [hr];done))))
  ·rw [decide_eq_false_iff_not] at h2
   rw [show b52l / 8=0 by omega,entryL] at hen
   refine ⟨fun h3=>?_,fun h3=>?_⟩
   ·have h3:b52l=0:=by simpa using h3
    rw [if_pos (by omega)] at hen
    simp only [Option.map_some,List.append_nil] at hen
    rw [hen] at hU
    simp only at hU
    refine ⟨_,rfl,?_⟩
    refine ⟨_,_,_,(H.b0.at0 rfl),?_⟩
    replace H:=H.r1.freeze
    by_cases h0:l=[]
    ·rw [show decide (((l.length:Nat):Int) > (0:Int))=false by subst h0;rfl]
     exact RdPost.no (by rw [hU,if_pos h0]) (H.sub (by repeat (exact List.Sublist.refl _)) (fun r hr=>by (try simp only [List.mem_cons] at hr ⊢);(repeat ((simp [hr];done)))))
    ·have:l.length≠0:=fun h=>h0 (List.eq_nil_of_length_eq_zero h)
     rw [show decide (((l.length:Nat):Int) > (0:Int))=true by rw [decide_eq_true_eq];omega]
     rw [if_neg h0] at hU
     exact RdPost.yes _ hU H (fun r hr=>by (try simp only [List.mem_cons] at hr ⊢);(repeat ((simp [hr];done)))) (fun G h=>by repeat (first | exact DeepL.ones _ | refine dc (Deep.emp _ _) ?_ | refine dc (Deep.one _) ?_ | refine dc (h (.deep [_] [_]) ms).head ?_))
   ·have h3:¬b52l=0:=by simpa using h3
    rw [if_neg (by omega)] at hen
    exact RdPost.no (by rw [hU,hen];rfl) (H.ds (fun r hr=>by (try simp only [List.mem_cons] at hr ⊢);(repeat ((simp [hr];done)))))
 have h11:¬k=11:=by simpa using h1
 have H1:=H.skipB hx 8 (by omega)
 replace H:=H1;clear H1 hbody
 refine ⟨fun h1=>?_,fun h1=>?_⟩
 ·have h12:k=12:=by simpa using h1
  subst h12
  have hU:rdFb 12 hp hc ht hl xs=rdRemb s m (xs.drop 8):=by
   unfold rdFb;rw [hsd,hmd];simp only;rw [if_neg (by omega),if_neg (by omega),if_neg (by omega),if_neg (by omega),if_pos trivial]
  rw [hU]
  refine call_j (c93 (H.sub (ex':=.blk p 63 (pk0 12 s m false 0 0 0)::ex) (ro':=_) (by repeat (first | exact List.Sublist.refl _ | apply List.Sublist.cons)) (fun _ h=>h)) ms h8 (by omega)) ?_
  intro en w' hP
  exact (RdPost.weak hP).ret
 have h12:¬k=12:=by simpa using h1
 refine ⟨fun h1=>?_,fun h1=>?_⟩
 ·have h8':k=8:=by simpa using h1
  subst h8'
  have hU:rdFb 8 hp hc ht hl xs=rdCc s (xs.drop 4):=by
   unfold rdFb;rw [hsd,hmd];simp only;rw [if_neg (by omega),if_neg (by omega),if_neg (by omega),if_neg (by omega),if_neg (by omega),if_pos trivial]
  rw [hU]
  refine ⟨_,rfl,?_⟩
  refine sSt1 H (by exact add_flat _ _ _) (by kernel_rfl) (by rfl) (by rfl) ?_;clear H;intro w _ H
  refine ⟨by omega,by omega,?_⟩
  have H1:=H.skipB (mt hx) 4 (by omega)
  refine call_j (c94 (H1.sub (ex':=.blk p 63 (pk0 8 s 0 false 0 0 0)::ex) (ro':=_) (by repeat (first | exact List.Sublist.refl _ | apply List.Sublist.cons)) (fun _ h=>h)) ms (hb.drop 4) (by omega)) ?_
  intro en w' hP
  exact (RdPost.weak (RdPost.weak hP)).ret
 have h8':¬k=8:=by simpa using h1
 have h13:k=13:=by omega
 subst h13
 have hU:rdFb 13 hp hc ht hl xs=rdT s m hp hc ht hl (xs.drop 8):=by
  unfold rdFb;rw [hsd,hmd];simp only;rw [if_neg (by omega),if_neg (by omega),if_neg (by omega),if_neg (by omega),if_neg (by omega),if_neg (by omega)]
 rw [hU]
 refine ⟨_,_,_,_,H.b0.ld,?_⟩
 refine ⟨_,rfl,?_⟩
 refine sSt1 H (by exact add_flat _ _ _) (by kernel_rfl) (by rfl) (by rfl) ?_;clear H;intro w _ H
 refine call_j (c95 (H.sub (ex':=.blk p 63 (pk0 13 s m hp hc ht hl)::ex) (ro':=_) (by repeat (first | exact List.Sublist.refl _ | apply List.Sublist.cons)) (fun _ h=>h)) ms h8 (by omega)) ?_
 intro en w' hP
 exact (RdPost.weak hP).ret
theorem blk_foots {b:Nat} {t:TypeId} {l:List Value} {ex:List Ex} (h:Ex.blk b t l∈ex):b∈foots ex:=mem_foots (by simp [Ex.foot]) h
def OnePost (F:Fr) (ex:List Ex) (ro:List Ro) (xs:List Int) (en:Ending) (w':World):Prop:=
 ∃cells:List Value,en=.returned (.tuple #[.agg cells.toArray,.int .i64 (rdOne xs).1])/\Sat F w' ex (.deep (rdOne xs).2.dat cells::ro)
theorem OnePost.mk {F:Fr} {ex ex':List Ex} {ro ro':List Ro} {xs:List Int} {w:World} {k:Int} {pk:Pk} {cells:List Value} (hq:rdOne xs=(k,pk)) (H:Sat F w ex' ro') (hs:ex.Sublist ex') (hr:∀r∈ro,r∈ro')
  (hD:∀G:Nat->Prop,(∀r∈ro',Ro.holds w G r)->DeepL w G pk.dat cells):OnePost F ex ro xs (.returned (.tuple #[.agg cells.toArray,.int .i64 k])) w:=by
 refine ⟨cells,by rw [hq],?_⟩
 rw [hq]
 refine (H.addD hD).sub hs fun r hx=>?_
 rcases List.mem_cons.1 hx with rfl | hx
 ·exact ms
 ·exact mt (hr r hx)
def Dat.flat:Dat->Bool
 | .one v=>v.oneCell'
 | _=>true
theorem Deep.flat {w:World} {G:Nat->Prop} {d:Dat} {v:Value} (h:Deep w G d v) (hd:d.flat=true):v.oneCell'=true:=by
 cases h<;>first | exact hd | rfl
theorem DeepL.flat {w:World} {G:Nat->Prop}:∀{ds:List Dat} {vs:List Value},DeepL w G ds vs->ds.all Dat.flat=true->vs.all Value.oneCell'=true
 | [],[],_,_=>rfl
 | [],_::_,h,_=>by have:=h.1;simp at this
 | _::_,[],h,_=>by have:=h.1;simp at this
 | d::ds,v::vs,h,ha=>by
  simp only [List.all_cons,Bool.and_eq_true] at ha ⊢
  exact ⟨h.head.flat ha.1,DeepL.flat h.tail ha.2⟩
theorem Pk.flat (p:Pk):p.dat.all Dat.flat=true:=rfl
theorem Pk.len {w:World} {G:Nat->Prop} {p:Pk} {cells:List Value} (h:DeepL w G p.dat cells):cells.length=30:=h.1
theorem oneTail {F:Fr} {ex:List Ex} {ro ro':List Ro} {xs:List Int} {q:Option Pk} {p1 p9 p23:Nat} {t9:TypeId} {l9:List Value} {en:Ending} {w:World}
  (h:RdPost F p23 (.blk p9 t9 l9::.blk p1 63 (pk0 0 0 0 false 0 0 0)::ex) ro' q en w) (hr:∀r∈ro,r∈ro') (hq:rdOne xs=oneOf q) :
  ∃b:Bool,en=.returned (.bool b) /\
   ((!b)=true->∃w1,StV pg 63 ⟨p1,0,none⟩ (.agg (pk0 0 0 0 false 0 0 0).toArray) w w1/\∃v:Value,LdV pg 63 ⟨p1,0,none⟩ v w1/\OnePost F ex ro xs (.returned (.tuple #[v,.int .i64 2])) w1) /\
   ((!b)=false->∃x:Value,LdV pg 63 ⟨p23,0,none⟩ x w/\∃w1,StV pg 63 ⟨p1,0,none⟩ x w w1/\∃v:Value,LdV pg 63 ⟨p1,0,none⟩ v w1/\OnePost F ex ro xs (.returned (.tuple #[v,.int .i64 0])) w1):=by
 cases q with
 | none=>
  obtain ⟨rfl,cells,H⟩:=h
  refine ⟨false,rfl,fun _=>?_,fun h=>by cases h⟩
  refine sSw2 H rfl (by kernel_rfl) (by rfl) (by rfl) ?_;clear H;intro w _ H
  exact ⟨_,Ld0 rfl H.b2 (by kernel_rfl),OnePost.mk hq H (by repeat (first | exact List.Sublist.refl _ | apply List.Sublist.cons)) hr (fun G h=>by repeat (first | exact DeepL.ones _ | refine dc (Deep.emp _ _) ?_ | refine dc (Deep.one _) ?_))⟩
 | some pk=>
  obtain ⟨rfl,cells,H⟩:=h
  refine ⟨true,rfl,fun h=>(by cases h),fun _=>?_⟩
  have hD:=H.deep ms
  have hcl:=Pk.len hD
  have hfl:=hD.flat (Pk.flat pk)
  refine ⟨.agg cells.toArray,Ld0 rfl H.b0 (by rw [hcl];kernel_rfl),?_⟩
  refine sSw2 H rfl (by rw [hcl];kernel_rfl) (by rw [hcl];rfl) hfl ?_
  clear H;intro w _ H
  refine ⟨_,Ld0 rfl H.b2 (by rw [hcl];kernel_rfl),OnePost.mk hq H (by repeat (first | exact List.Sublist.refl _ | apply List.Sublist.cons)) (fun r h=>mt (hr r h)) (fun G h=>h _ ms)⟩
theorem c25 {F:Fr} {w:World} {ex:List Ex} {ro:List Ro} {xs:List Int} {a:Option Addr} {n c:Nat} (H:Sat F w ex ro) (hx:Ro.B xs a n c∈ro) (hb:By xs) (hn:n<=1000000) :
  Calls pg 25 #[.slice a n c] w (OnePost F ex ro xs):=by
 apply of25
 have hlen:=H.lenB hx
 refine sNew H ?_;clear H;intro b1 w _ H
 refine call_j (c23 (H.rd hx) hb) ?_
 rintro _ w ⟨rfl,g⟩
 replace H:=H.grow g;clear g
 have hshape:∃(x3:Bool) (x4 x5 x6:Int),hdrVal xs=.agg #[.bool x3,.int .u8 x4,.int .u8 x5,.int .u16 x6]/\(hdrOk xs=true->x3=hP xs/\x4=hC xs/\x5=hT xs/\x6=hL xs):=by
  unfold hdrVal
  by_cases h:hdrOk xs=true
  ·rw [if_pos h];exact ⟨_,_,_,_,rfl,fun _=>⟨rfl,rfl,rfl,rfl⟩⟩
  ·rw [if_neg h];exact ⟨_,_,_,_,rfl,fun h'=>absurd h' h⟩
 obtain ⟨x3,x4,x5,x6,hv,hxx⟩:=hshape
 rw [hv]
 refine ⟨_,_,_,_,_,rfl,?_⟩
 refine sNew H ?_;clear H;intro b9 w _ H
 refine sSw0 H rfl (by kernel_rfl) (by rfl) (by rfl) ?_;clear H;intro w _ H
 refine ⟨fun h1=>?_,fun h1=>?_⟩
 ·have h1:hdrOk xs=false:=by simpa using h1
  have hU:rdOne xs=(1,{}):=by unfold rdOne;rw [if_pos h1]
  refine sSw1 H rfl (by kernel_rfl) (by rfl) (by rfl) ?_;clear H;intro w _ H
  exact ⟨_,H.b1.ld,OnePost.mk hU H (by repeat (first | exact List.Sublist.refl _ | apply List.Sublist.cons)) (fun r hr=>by (try simp only [List.mem_cons] at hr ⊢);(repeat ((simp [hr];done)))) (fun G h=>by repeat (first | exact DeepL.ones _ | refine dc (Deep.emp _ _) ?_ | refine dc (Deep.one _) ?_))⟩
 have h1:hdrOk xs=true:=by simpa using h1
 obtain ⟨rfl,rfl,rfl,rfl⟩:=hxx h1
 have hL':0<=hL xs/\hL xs < 65536:=n16_lt (hb.drop 2)
 have hn4:4<=n:=by
  unfold hdrOk at h1
  simp only [Bool.and_eq_true,decide_eq_true_eq] at h1
  omega
 refine ⟨_,(H.b0.at0 rfl),?_⟩
 rw [wi64_of (n:=hL xs) (by omega) (by omega),wi64_of (n:=hL xs+1) (by omega) (by omega),wi64_of (n:=4*(hL xs+1)) (by omega) (by omega)]
 refine ⟨fun h2=>?_,fun h2=>?_⟩
 ·have h2:¬4*(hL xs+1)=(n:Int):=by simpa using h2
  have hU:rdOne xs=(1,{}):=by unfold rdOne;rw [if_neg (by rw [h1];exact Bool.noConfusion),if_pos (by rw [hlen];exact h2)]
  refine sSw1 H rfl (by kernel_rfl) (by rfl) (by rfl) ?_;clear H;intro w _ H
  exact ⟨_,H.b1.ld,OnePost.mk hU H (by repeat (first | exact List.Sublist.refl _ | apply List.Sublist.cons)) (fun r hr=>by (try simp only [List.mem_cons] at hr ⊢);(repeat ((simp [hr];done)))) (fun G h=>by repeat (first | exact DeepL.ones _ | refine dc (Deep.emp _ _) ?_ | refine dc (Deep.one _) ?_))⟩
 have h2:4*(hL xs+1)=(n:Int):=by simpa using h2
 have hU0:rdOne xs=if kindOf (hT xs) (hC xs)=0 then (if hT xs=207 then (2,{}) else (0,{ data:=xs })) else if hP xs then (2,{}) else oneOf (rdBody xs):=by
  unfold rdOne;rw [if_neg (by rw [h1];exact Bool.noConfusion),if_neg (by rw [hlen];exact fun h=>h h2)]
 refine ⟨_,_,_,_,H.b0.ld,?_⟩
 refine call_j c57 ?_
 rintro _ w ⟨rfl,g⟩
 replace H:=H.grow g;clear g
 refine ⟨_,rfl,?_⟩
 have hcr:0<=hC xs/\hC xs<=31:=by have:=hb.getD 0;unfold hC;omega
 obtain ⟨C,hCe⟩:∃C:Nat,hC xs=(C:Int):=⟨(hC xs).toNat,by omega⟩
 have hbody:rdBody xs=rdBody xs:=rfl
 conv at hbody=>rhs;unfold rdBody
 simp only at hbody
 have hkr:kindOf (hT xs) (hC xs)=0\/kindOf (hT xs) (hC xs)=1\/kindOf (hT xs) (hC xs)=2\/kindOf (hT xs) (hC xs)=3\/kindOf (hT xs) (hC xs)=4\/kindOf (hT xs) (hC xs)=5\/kindOf (hT xs) (hC xs)=6\/kindOf (hT xs) (hC xs)=7\/kindOf (hT xs) (hC xs)=8\/kindOf (hT xs) (hC xs)=9\/kindOf (hT xs) (hC xs)=10\/kindOf (hT xs) (hC xs)=11\/kindOf (hT xs) (hC xs)=12\/kindOf (hT xs) (hC xs)=13:=by
  unfold kindOf
  repeat (omega)
 generalize hk:kindOf (hT xs) (hC xs)=k at hU0 hbody hkr ⊢
 rw [hCe] at hcr
 rw [hCe,Int.toNat_natCast] at hbody
 rw [hCe] at H
 generalize hT xs=T at hU0 hbody H ⊢
 generalize hP xs=PB at hU0 hbody H ⊢
 generalize hL xs=LL at hbody H ⊢
 refine sNew H ?_;clear H;intro b23 w _ H
 refine sSw0 H rfl (by kernel_rfl) (by rfl) (by rfl) ?_;clear H;intro w _ H
 replace H:=H.sub (ex':=.blk b23 63 (pk0 k 0 0 false 0 0 0)::_) (ro':=ro) (by repeat (exact List.Sublist.refl _)) (fun _ h=>h)
 refine ⟨_,(H.b0.at0 rfl),?_⟩
 refine ⟨fun h3=>?_,fun h3=>?_⟩
 ·have h3:k=0:=by simpa using h3
  rw [if_pos h3] at hU0
  refine ⟨_,(H.b1.at0 rfl),?_⟩
  refine ⟨fun h4=>?_,fun h4=>?_⟩
  ·have h4:T=207:=by simpa using h4
   rw [if_pos h4] at hU0
   have hU:=hU0
   refine sSw2 H rfl (by kernel_rfl) (by rfl) (by rfl) ?_;clear H;intro w _ H
   exact ⟨_,H.b2.ld,OnePost.mk hU H (by repeat (first | exact List.Sublist.refl _ | apply List.Sublist.cons)) (fun r hr=>by (try simp only [List.mem_cons] at hr ⊢);(repeat ((simp [hr];done)))) (fun G h=>by repeat (first | exact DeepL.ones _ | refine dc (Deep.emp _ _) ?_ | refine dc (Deep.one _) ?_))⟩
  ·have h4:¬T=207:=by simpa using h4
   rw [if_neg h4] at hU0
   have hU:=hU0
   subst h3
   refine sSt0 H (by exact add_flat _ _ _) (by kernel_rfl) (by rfl) (by rfl) ?_;clear H;intro w _ H
   refine ⟨_,H.b0.ld,?_⟩
   refine sSw2 H rfl (by kernel_rfl) (by rfl) (by rfl) ?_
   clear H;intro w _ H
   exact ⟨_,H.b2.ld,OnePost.mk hU H (by repeat (first | exact List.Sublist.refl _ | apply List.Sublist.cons)) (fun r hr=>by (try simp only [List.mem_cons] at hr ⊢);(repeat ((simp [hr];done)))) (fun G h=>by repeat (first | exact DeepL.ones _ | refine dc (Deep.emp _ _) ?_ | refine dc (Deep.one _) ?_ | refine dc (h (.deep [_] [_]) (by assumption)).head ?_))⟩
 have h3:¬k=0:=by simpa using h3
 rw [if_neg h3] at hU0
 refine ⟨_,(H.b1.at0 rfl),?_⟩
 refine ⟨fun h4=>?_,fun h4=>?_⟩
 ·subst h4
  have hU:rdOne xs=(2,{}):=by rw [hU0];rfl
  refine sSw2 H rfl (by kernel_rfl) (by rfl) (by rfl) ?_;clear H;intro w _ H
  exact ⟨_,H.b2.ld,OnePost.mk hU H (by repeat (first | exact List.Sublist.refl _ | apply List.Sublist.cons)) (fun r hr=>by (try simp only [List.mem_cons] at hr ⊢);(repeat ((simp [hr];done)))) (fun G h=>by repeat (first | exact DeepL.ones _ | refine dc (Deep.emp _ _) ?_ | refine dc (Deep.one _) ?_))⟩
 subst h4
 have hU1:rdOne xs=oneOf (rdBody xs):=by rw [hU0];rfl
 clear hU0
 refine ⟨by omega,by omega,?_⟩
 refine ⟨_,(H.b1.at0 rfl),?_⟩
 refine ⟨_,(H.b0.at0 rfl),?_⟩
 have H1:=H.skipB hx 4 hn4
 replace H:=H1;clear H1
 have hb4:=hb.drop 4
 have hl4:(xs.drop 4).length=n - 4:=by rw [List.length_drop,hlen]
 rw [hl4] at hbody
 rw [wi64_of (n:=(C:Int)) (by omega) (by omega),wi64_of (n:=24*(C:Int)) (by omega) (by omega),wi64_of (n:=24+24*(C:Int)) (by omega) (by omega),wi64_of (n:=4+24*(C:Int)) (by omega) (by omega)]
 have hcap:=(H.deep1 (d:=.row 1 (ob (xs.drop 4))) (v:=.slice (cutA a 4 c 1) (n - 4) (c - 4)) ms).len
 refine ⟨fun h5=>?_,fun h5=>?_⟩
 ·have h5:k=1:=by simpa using h5
  subst h5
  rw [if_pos rfl] at hbody
  by_cases hd:((n - 4:Nat):Int)>=24+24*(C:Int)
  ·rw [decide_eq_true hd]
   rw [if_neg (by omega)] at hbody
   have hU:=hU1.trans (congrArg oneOf hbody)
   refine ⟨fun _=>?_,fun h=>by cases h⟩
   refine ⟨by omega,by omega,by omega,by omega,by omega,by omega,by omega,by omega,?_⟩
   replace H:=H.drew;generalize w.drew=w at H ⊢
   refine call_j (c58 (H.rd (xs:=xs.drop 4) ms) hb4 (by omega)) ?_
   rintro _ w ⟨rfl,g⟩
   replace H:=H.grow g;clear g
   refine ⟨_,rfl,?_⟩
   refine call_j (c59 (Rd.skip (H.rd (xs:=xs.drop 4) ms) 4 (by omega)) (hb4.drop 4) (by omega)) ?_
   rintro _ w ⟨rfl,g⟩
   replace H:=H.grow g;clear g
   refine ⟨_,rfl,?_⟩
   refine call_j (c58 (Rd.skip (H.rd (xs:=xs.drop 4) ms) 12 (by omega)) (hb4.drop 12) (by omega)) ?_
   rintro _ w ⟨rfl,g⟩
   replace H:=H.grow g;clear g
   refine ⟨_,rfl,?_⟩
   refine call_j (c58 (Rd.skip (H.rd (xs:=xs.drop 4) ms) 16 (by omega)) (hb4.drop 16) (by omega)) ?_
   rintro _ w ⟨rfl,g⟩
   replace H:=H.grow g;clear g
   refine ⟨_,rfl,?_⟩
   refine call_j (c58 (Rd.skip (H.rd (xs:=xs.drop 4) ms) 20 (by omega)) (hb4.drop 20) (by omega)) ?_
   rintro _ w ⟨rfl,g⟩
   replace H:=H.grow g;clear g
   refine ⟨_,rfl,?_⟩
   refine sSt0 H (by exact add_flat _ _ _) (by kernel_rfl) (by rfl) (by rfl) ?_;clear H;intro w _ H
   refine sSt0 H (by exact add_flat _ _ _) (by kernel_rfl) (by rfl) (by rfl) ?_;clear H;intro w _ H
   refine sSt0 H (by exact add_flat _ _ _) (by kernel_rfl) (by rfl) (by rfl) ?_;clear H;intro w _ H
   refine sSt0 H (by exact add_flat _ _ _) (by kernel_rfl) (by rfl) (by rfl) ?_;clear H;intro w _ H
   refine sSt0 H (by exact add_flat _ _ _) (by kernel_rfl) (by rfl) (by rfl) ?_;clear H;intro w _ H
   refine ⟨by omega,by omega,?_⟩
   have H1:=H.skipB (xs:=xs.drop 4) (a:=cutA a 4 c 1) (n:=n - 4) (c:=c - 4) ms 24 (by omega)
   refine call_j (c60 H1 ms (hb4.drop 24) (by omega) (by omega)) ?_
   clear H H1
   rintro _ w ⟨a1,c1,a2,n2,c2,rfl,H⟩
   refine ⟨_,_,_,_,_,_,rfl,?_⟩
   refine sSt0 H (by exact add_flat _ _ _) (by kernel_rfl) (by rfl) (by rfl) ?_;clear H;intro w _ H
   refine sSt0 H (by exact add_flat _ _ _) (by kernel_rfl) (by rfl) (by rfl) ?_;clear H;intro w _ H
   refine ⟨fun h=>(by cases h),fun _=>?_⟩
   refine ⟨_,H.b0.ld,?_⟩
   refine sSw2 H rfl (by kernel_rfl) (by rfl) (by rfl) ?_
   clear H;intro w _ H
   exact ⟨_,H.b2.ld,OnePost.mk hU H (by repeat (first | exact List.Sublist.refl _ | apply List.Sublist.cons)) (fun r hr=>by (try simp only [List.mem_cons] at hr ⊢);(repeat ((simp [hr];done)))) (fun G h=>by repeat (first | exact DeepL.ones _ | refine dc (Deep.emp _ _) ?_ | refine dc (Deep.one _) ?_ | refine dc (h (.deep [_] [_]) (by first | exact ms | (apply List.mem_cons_of_mem;exact ms))).head ?_))⟩
  ·rw [decide_eq_false hd]
   rw [if_pos (by omega)] at hbody
   have hU:rdOne xs=(2,{}):=by rw [hU1,hbody];rfl
   refine ⟨fun h=>(by cases h),fun _=>⟨fun _=>?_,fun h=>by cases h⟩⟩
   refine sSw2 H rfl (by kernel_rfl) (by rfl) (by rfl) ?_;clear H;intro w _ H
   exact ⟨_,H.b2.ld,OnePost.mk hU H (by repeat (first | exact List.Sublist.refl _ | apply List.Sublist.cons)) (fun r hr=>by (try simp only [List.mem_cons] at hr ⊢);(repeat ((simp [hr];done)))) (fun G h=>by repeat (first | exact DeepL.ones _ | refine dc (Deep.emp _ _) ?_ | refine dc (Deep.one _) ?_))⟩
 have h5':¬k=1:=by simpa using h5
 rw [if_neg h5'] at hbody
 refine ⟨fun h5=>?_,fun h5=>?_⟩
 ·have h5:k=2:=by simpa using h5
  subst h5
  rw [if_pos rfl] at hbody
  by_cases hd:((n - 4:Nat):Int)>=4+24*(C:Int)
  ·rw [decide_eq_true hd]
   rw [if_neg (by omega)] at hbody
   have hU:=hU1.trans (congrArg oneOf hbody)
   refine ⟨fun _=>?_,fun h=>by cases h⟩
   refine call_j (c58 (H.rd (xs:=xs.drop 4) ms) hb4 (by omega)) ?_
   rintro _ w ⟨rfl,g⟩
   replace H:=H.grow g;clear g
   refine ⟨_,rfl,?_⟩
   refine sSt0 H (by exact add_flat _ _ _) (by kernel_rfl) (by rfl) (by rfl) ?_;clear H;intro w _ H
   refine ⟨by omega,by omega,?_⟩
   have H1:=H.skipB (xs:=xs.drop 4) (a:=cutA a 4 c 1) (n:=n - 4) (c:=c - 4) ms 4 (by omega)
   refine call_j (c60 H1 ms (hb4.drop 4) (by omega) (by omega)) ?_
   clear H H1
   rintro _ w ⟨a1,c1,a2,n2,c2,rfl,H⟩
   refine ⟨_,_,_,_,_,_,rfl,?_⟩
   refine sSt0 H (by exact add_flat _ _ _) (by kernel_rfl) (by rfl) (by rfl) ?_;clear H;intro w _ H
   refine sSt0 H (by exact add_flat _ _ _) (by kernel_rfl) (by rfl) (by rfl) ?_;clear H;intro w _ H
   refine ⟨fun h=>(by cases h),fun _=>?_⟩
   refine ⟨_,H.b0.ld,?_⟩
   refine sSw2 H rfl (by kernel_rfl) (by rfl) (by rfl) ?_
   clear H;intro w _ H
   exact ⟨_,H.b2.ld,OnePost.mk hU H (by repeat (first | exact List.Sublist.refl _ | apply List.Sublist.cons)) (fun r hr=>by (try simp only [List.mem_cons] at hr ⊢);(repeat ((simp [hr];done)))) (fun G h=>by repeat (first | exact DeepL.ones _ | refine dc (Deep.emp _ _) ?_ | refine dc (Deep.one _) ?_ | refine dc (h (.deep [_] [_]) (by first | exact ms | (apply List.mem_cons_of_mem;exact ms))).head ?_))⟩
  ·rw [decide_eq_false hd]
   rw [if_pos (by omega)] at hbody
   have hU:rdOne xs=(2,{}):=by rw [hU1,hbody];rfl
   refine ⟨fun h=>(by cases h),fun _=>⟨fun _=>?_,fun h=>by cases h⟩⟩
   refine sSw2 H rfl (by kernel_rfl) (by rfl) (by rfl) ?_;clear H;intro w _ H
   exact ⟨_,H.b2.ld,OnePost.mk hU H (by repeat (first | exact List.Sublist.refl _ | apply List.Sublist.cons)) (fun r hr=>by (try simp only [List.mem_cons] at hr ⊢);(repeat ((simp [hr];done)))) (fun G h=>by repeat (first | exact DeepL.ones _ | refine dc (Deep.emp _ _) ?_ | refine dc (Deep.one _) ?_))⟩
 have h6:¬k=2:=by simpa using h5
 rw [if_neg h6] at hbody
 refine ⟨fun h5=>?_,fun h5=>?_⟩
 ·have h5:k=3:=by simpa using h5
  subst h5
  rw [if_pos rfl] at hbody
  refine call_j (c61 H ms hb4 (by omega) (by omega)) ?_
  intro en w' hP'
  exact oneTail hP' (fun r h=>mt h) (by rw [hU1,hbody])
 have h7:¬k=3:=by simpa using h5
 rw [if_neg h7] at hbody
 refine ⟨fun h5=>?_,fun h5=>?_⟩
 ·have h5:k=4:=by simpa using h5
  subst h5
  rw [if_pos rfl] at hbody
  refine call_j (c62 H ms hb4 (by omega) (by omega)) ?_
  intro en w' hP'
  exact oneTail hP' (fun r h=>mt h) (by rw [hU1,hbody])
 have h8:¬k=4:=by simpa using h5
 rw [if_neg h8] at hbody
 refine ⟨fun h5=>?_,fun h5=>?_⟩
 ·have h5:k=5:=by simpa using h5
  subst h5
  rw [if_pos rfl] at hbody
  by_cases hd:((n - 4:Nat):Int)>=(8:Int)
  ·rw [decide_eq_true hd]
   rw [if_neg (by omega)] at hbody
   have hU:=hU1.trans (congrArg oneOf hbody)
   refine ⟨fun _=>?_,fun h=>by cases h⟩
   have hbl:=hb4
   refine ⟨some b23,?_⟩;replace H:=H.drew;generalize w.drew=wd1 at H ⊢;have K:=grew_refl wd1 (some b23)
   refine ⟨by omega,by omega,by omega,by omega,?_⟩
   have HT:=H.cutB (xs:=xs.drop 4) (a:=cutA a 4 c 1) (n:=n - 4) (c:=c - 4) ms 4 8 (by omega) (by omega)
   refine ⟨_,strRow HT ms (fun b hb=>by injection hb with hb;subst hb;exact blk_foots ms) uSl uU8 uStr,?_⟩
   clear HT
   have hne:b9≠b23:=by
    have:=H.nd
    simp only [foots,Ex.foot,List.flatMap_cons,List.cons_append,List.nil_append,List.nodup_cons,List.mem_cons,not_or] at this
    exact fun e=>this.1.1 e.symm
   refine ⟨fun e=>by injection e with e;exact hne e,?_⟩
   refine ⟨H.b1.row,?_⟩
   refine ⟨_,(H.b1.at0 rfl),?_⟩
   refine ⟨by omega,by omega,?_⟩
   refine call_j (c58 (H.rd (xs:=xs.drop 4) ms) hb4 (by omega)) ?_
   rintro _ w ⟨rfl,g⟩
   replace H:=H.grow g;replace K:=gtr K (grew_none _ g);clear g
   refine ⟨_,rfl,K,?_⟩
   refine sSt0 H (by exact add_flat _ _ _) (by kernel_rfl) (by rfl) (by rfl) ?_;clear H;intro w g H;replace K:=gtr K g;clear g
   refine ⟨K,?_⟩
   refine sSt0 H (by exact add_flat _ _ _) (by kernel_rfl) (by rfl) (by rfl) ?_;clear H;intro w g H;replace K:=gtr K g;clear g
   refine ⟨K,?_⟩
   refine sSt0 H (by exact add_flat _ _ _) (by kernel_rfl) (by rfl) (by rfl) ?_;clear H;intro w g H;replace K:=gtr K g;clear g
   refine ⟨K,?_⟩
   refine sSt0 H (by exact add_flat _ _ _) (by kernel_rfl) (by rfl) (by rfl) ?_;clear H;intro w _ H
   refine ⟨fun h=>(by cases h),fun _=>?_⟩
   have H1:=H.skipB (xs:=xs.drop 4) (a:=cutA a 4 c 1) (n:=n - 4) (c:=c - 4) ms 8 (by omega)
   replace H:=H1;clear H1
   refine ⟨_,H.b0.ld,?_⟩
   refine sSw2 H rfl (by kernel_rfl) (by rfl) (by rfl) ?_
   clear H;intro w _ H
   exact ⟨_,H.b2.ld,OnePost.mk hU H (by repeat (first | exact List.Sublist.refl _ | apply List.Sublist.cons)) (fun r hr=>by (try simp only [List.mem_cons] at hr ⊢);(repeat ((simp [hr];done)))) (fun G h=>by repeat (first | exact DeepL.ones _ | refine dc (Deep.emp _ _) ?_ | refine dc (Deep.one _) ?_ | refine dc (h (.deep [_] [_]) ms).head ?_))⟩
  ·rw [decide_eq_false hd]
   rw [if_pos (by omega)] at hbody
   have hU:rdOne xs=(2,{}):=by rw [hU1,hbody];rfl
   refine ⟨fun h=>(by cases h),fun _=>⟨fun _=>?_,fun h=>by cases h⟩⟩
   refine sSw2 H rfl (by kernel_rfl) (by rfl) (by rfl) ?_;clear H;intro w _ H
   exact ⟨_,H.b2.ld,OnePost.mk hU H (by repeat (first | exact List.Sublist.refl _ | apply List.Sublist.cons)) (fun r hr=>by (try simp only [List.mem_cons] at hr ⊢);(repeat ((simp [hr];done)))) (fun G h=>by repeat (first | exact DeepL.ones _ | refine dc (Deep.emp _ _) ?_ | refine dc (Deep.one _) ?_))⟩
 have h9:¬k=5:=by simpa using h5
 rw [if_neg h9] at hbody
 by_cases hd:((n - 4:Nat):Int)>=(8:Int)
 ·rw [decide_eq_true hd]
  rw [if_neg (by omega)] at hbody
  refine ⟨fun _=>?_,fun h=>by cases h⟩
  refine ⟨by omega,by omega,?_⟩
  replace H:=H.drew;generalize w.drew=w at H ⊢
  refine call_j (c58 (H.rd (xs:=xs.drop 4) ms) hb4 (by omega)) ?_
  rintro _ w ⟨rfl,g⟩
  replace H:=H.grow g;clear g
  refine ⟨_,rfl,?_⟩
  refine call_j (c58 (Rd.skip (H.rd (xs:=xs.drop 4) ms) 4 (by omega)) (hb4.drop 4) (by omega)) ?_
  rintro _ w ⟨rfl,g⟩
  replace H:=H.grow g;clear g
  refine ⟨_,rfl,?_⟩
  refine sSt0 H (by exact add_flat _ _ _) (by kernel_rfl) (by rfl) (by rfl) ?_;clear H;intro w _ H
  refine sSt0 H (by exact add_flat _ _ _) (by kernel_rfl) (by rfl) (by rfl) ?_;clear H;intro w _ H
  refine ⟨_,_,_,_,H.b1.ld,?_⟩
  refine call_j (c63 (H.sub (ex':=.blk b23 63 (pk0 k (n32 (xs.drop 4)) (n32 ((xs.drop 4).drop 4)) false 0 0 0)::_) (ro':=_) (by repeat (exact List.Sublist.refl _)) (fun _ h=>h)) ms hb4 (by omega) (by omega) (by omega)) ?_
  intro en w' hP'
  exact oneTail hP' (fun r h=>mt h) (by rw [hU1,hbody])
 ·rw [decide_eq_false hd]
  rw [if_pos (by omega)] at hbody
  have hU:rdOne xs=(2,{}):=by rw [hU1,hbody];rfl
  refine ⟨fun h=>(by cases h),fun _=>⟨fun _=>?_,fun h=>by cases h⟩⟩
  refine sSw2 H rfl (by kernel_rfl) (by rfl) (by rfl) ?_;clear H;intro w _ H
  exact ⟨_,H.b2.ld,OnePost.mk hU H (by repeat (first | exact List.Sublist.refl _ | apply List.Sublist.cons)) (fun r hr=>by (try simp only [List.mem_cons] at hr ⊢);(repeat ((simp [hr];done)))) (fun G h=>by repeat (first | exact DeepL.ones _ | refine dc (Deep.emp _ _) ?_ | refine dc (Deep.one _) ?_))⟩
theorem be32r {x y z u:Int} (hx:0<=x/\x < 256) (hy:0<=y/\y < 256) (hz:0<=z/\z < 256) (hu:0<=u/\u < 256) :
  ior .u32 (ior .u32 (ior .u32 (IntKind.u32.wrap u) (ishl .u32 (IntKind.u32.wrap z) (8:Int))) (ishl .u32 (IntKind.u32.wrap y) (16:Int))) (ishl .u32 (IntKind.u32.wrap x) (24:Int))=(x*256+y)*65536+(z*256+u):=by
 rw [ishl_of (b:=(24:Int)) 24 (by rfl) (by decide),ishl_of (b:=(16:Int)) 16 (by rfl) (by decide),ishl_of (b:=(8:Int)) 8 (by rfl) (by decide),wu32,wu32,wu32,wu32,wu32,wu32,wu32]
 rw [show u % 4294967296=u by omega,show z % 4294967296*2 ^ 8 % 4294967296=z*256 by omega,show y % 4294967296*2 ^ 16 % 4294967296=y*65536 by omega,show x % 4294967296*2 ^ 24 % 4294967296=x*16777216 by omega]
 rw [ior_add' (k:=.u32) (by rfl) 8 z (a:=z*256) (b:=u) (by omega) hz.1 hu.1 (by omega) (by simp only [IntKind.bits];omega)]
 rw [ior_add' (k:=.u32) (by rfl) 16 y (a:=y*65536) (b:=z*256+u) (by omega) hy.1 (by omega) (by omega) (by simp only [IntKind.bits];omega)]
 rw [ior_add' (k:=.u32) (by rfl) 24 x (a:=x*16777216) (b:=y*65536+(z*256+u)) (by omega) hx.1 (by omega) (by omega) (by simp only [IntKind.bits];omega)]
 omega
theorem c90 {w:World} {xs:List Int} {a:Option Addr} {n c:Nat} (h:Rd w xs a n c) (hb:By xs) (hn:2<=n) :
  Calls pg 90 #[.slice a n c] w fun en w'=>en=.returned (.int .u16 (n16 xs))/\w.grownBy w' none:=by
 apply of90
 obtain ⟨p,rfl,hc,_⟩:=h.at_ (by omega)
 refine ⟨_,rfl,by omega,by omega,_,hc 1 (by omega),_,rfl,by omega,by omega,_,hc 0 (by omega),?_,grew_drew _ _⟩
 rw [be16' (hb.getD 0) (hb.getD 1)];rfl
theorem c150 {w:World} {xs:List Int} {a:Option Addr} {n c:Nat} (h:Rd w xs a n c) (hb:By xs) (hn:4<=n) :
  Calls pg 150 #[.slice a n c] w fun en w'=>en=.returned (.int .u32 (n32 xs))/\w.grownBy w' none:=by
 apply of150
 obtain ⟨p,rfl,hc,_⟩:=h.at_ (by omega)
 refine ⟨_,rfl,by omega,by omega,_,hc 3 (by omega),_,rfl,by omega,by omega,_,hc 3 (by omega),_,rfl,by omega,by omega,_,hc 2 (by omega),_,rfl,by omega,by omega,_,hc 1 (by omega),_,rfl,by omega,by omega,_,hc 0 (by omega),?_,grew_drew _ _⟩
 rw [be32r (hb.getD 0) (hb.getD 1) (hb.getD 2) (hb.getD 3)]
 unfold n32 n16
 rw [getD_drop,getD_drop]
theorem hdr_bits {x:Int} (h:0<=x/\x < 256):iand .u8 (ishr .u8 x (6:Int)) (3:Int)=x / 64/\decide (iand .u8 (ishr .u8 x (5:Int)) (1:Int) > (0:Int))=(x / 32 % 2 == 1)/\iand .u8 (ishr .u8 x (0:Int)) (31:Int)=x % 32:=by
 refine byte_cases (fun x=>iand .u8 (ishr .u8 x (6:Int)) (3:Int)=x / 64/\decide (iand .u8 (ishr .u8 x (5:Int)) (1:Int) > (0:Int))=(x / 32 % 2 == 1)/\iand .u8 (ishr .u8 x (0:Int)) (31:Int)=x % 32) ?_ h.1 h.2
 decide +kernel
theorem c55 {F:Fr} {w:World} {ex:List Ex} {ro:List Ro} {xs:List Int} {a:Option Addr} {n c:Nat} {b:Nat} {t:TypeId} {c0 c1 c2 c3:Value} {rest:List Value} (H:Sat F w (.blk b t (c0::c1::c2::c3::rest)::ex) ro)
  (hx:Ro.B xs a n c∈ro) (hb:By xs) (hok:hdrOk xs=true):Calls pg 55 #[.pointer (some ⟨b,0,none⟩),.slice a n c] w fun en w'=>en=.returned .nilIface /\
   Sat F w' (.blk b t (.bool (hP xs)::.int .u8 (hC xs)::.int .u8 (hT xs)::.int .u16 (hL xs)::rest)::ex) ro:=by
 apply of55
 have hlen:=H.lenB hx
 simp only [hdrOk,Bool.and_eq_true,decide_eq_true_eq,beq_iff_eq] at hok
 obtain ⟨e1,e2,e3⟩:=hdr_bits (hb.getD 0)
 refine ⟨fun hc=>?_,fun hc=>?_⟩
 ·rw [decide_eq_true_eq] at hc;omega
 obtain ⟨p,rfl,hp,kp,fp⟩:=H.at_ (a:=a) hx (by omega)
 refine ⟨p,rfl,by omega,by omega,?_⟩
 refine ⟨_,hp 0 (by omega),?_⟩
 rw [e1,hok.2]
 refine fF ?_
 refine ⟨p,rfl,by omega,by omega,?_⟩
 refine ⟨_,hp 0 (by omega),?_⟩
 rw [e2]
 refine ⟨_,rfl,?_⟩
 refine sSt0 H (by exact add_flat _ _ _) (by kernel_rfl) (by rfl) (by rfl) ?_;clear H;intro w _ H
 obtain ⟨p9,e,hp,kp,fp⟩:=H.at_ (a:=some p) hx (by omega)
 cases e
 refine ⟨p,rfl,by omega,by omega,?_⟩
 refine ⟨_,hp 0 (by omega),?_⟩
 rw [e3]
 refine ⟨_,rfl,?_⟩
 refine sSt0 H (by exact add_flat _ _ _) (by kernel_rfl) (by rfl) (by rfl) ?_;clear H;intro w _ H
 obtain ⟨p9,e,hp,kp,fp⟩:=H.at_ (a:=some p) hx (by omega)
 cases e
 refine ⟨p,rfl,by omega,by omega,?_⟩
 refine ⟨_,hp 1 (by omega),?_⟩
 refine ⟨_,rfl,?_⟩
 refine sSt0 H (by exact add_flat _ _ _) (by kernel_rfl) (by rfl) (by rfl) ?_;clear H;intro w _ H
 refine ⟨by omega,by omega,?_⟩
 refine call_j (c90 (by exact Rd.skip (Sat.rd H (by assumption)) _ (by omega)) (hb.drop 2) (by omega)) ?_
 rintro _ w ⟨rfl,g⟩
 replace H:=H.grow g;clear g
 refine ⟨_,rfl,?_⟩
 refine ⟨_,rfl,?_⟩
 refine sSt0 H (by exact add_flat _ _ _) (by kernel_rfl) (by rfl) (by rfl) ?_;clear H;intro w _ H
 exact ⟨rfl,H⟩
def deD (d:Del):Dat:=.ptr [.one (.int .u16 d.1),.one (.int .i64 d.2)]
theorem n16_take {ys:List Int}:n16 (ys.take 2)=n16 ys:=by
 unfold n16
 rw [List.getD_eq_getElem?_getD,List.getD_eq_getElem?_getD,List.getElem?_take,List.getElem?_take,if_pos (by omega),if_pos (by omega),<-List.getD_eq_getElem?_getD,<-List.getD_eq_getElem?_getD]
theorem flat_len {α:Type} {f:α->List Dat} {k:Nat} (hk:∀x,(f x).length=k):∀l:List α,(l.flatMap f).length=l.length*k
 | []=>by simp
 | x::l=>by rw [List.flatMap_cons,List.length_append,hk,flat_len hk l,List.length_cons,Nat.succ_mul,Nat.add_comm]
theorem flat_drop {α:Type} {f:α->List Dat} {k:Nat} (hk:∀x,(f x).length=k):∀(l:List α) (j:Nat),(l.flatMap f).drop (j*k)=(l.drop j).flatMap f
 | l,0=>by simp
 | [],j+1=>by simp
 | x::l,j+1=>by
  rw [List.flatMap_cons,Nat.succ_mul,Nat.add_comm,<-List.drop_drop,List.drop_left' (hk x),flat_drop hk l j,List.drop_succ_cons]
theorem Sat.eltF {α:Type} {f:α->List Dat} {k:Nat} (hk:∀x,(f x).length=k) (hk0:0 < k) {l:List α} {F:Fr} {w:World} {ex:List Ex} {ro:List Ro} {a:Option Addr} {n c:Nat} (H:Sat F w ex ro) (h:Ro.deep [.row k (l.flatMap f)] [.slice a n c]∈ro) {j:Nat} (hj:j < l.length) :
  ∃p us,a=some p/\us.length=k/\(∀(i:Nat) (u:Value),us[i]?=some u->w.cell? ((p.add (j*k)).add i)=some u)/\Sat F w ex (.deep (f l[j]) us::ro):=by
 have hl:=(H.deep1 h).len.1
 rw [flat_len hk] at hl
 have hn:l.length=n:=Nat.eq_of_mul_eq_mul_right hk0 hl
 obtain ⟨b,o,vs,rfl,hv,hc,H1⟩:=H.elts h (by omega)
 have hd:=H1.deep ms
 have hd1:=(hd.drop (j*k)).take k
 have e:((l.flatMap f).drop (j*k)).take k=f l[j]:=by
  rw [flat_drop hk,List.drop_eq_getElem_cons hj,List.flatMap_cons,List.take_left' (hk _)]
 rw [e] at hd1
 refine ⟨_,(vs.drop (j*k)).take k,rfl,by rw [hd1.1,hk],fun i u hu=>?_,H.addRo hd1⟩
 rw [List.getElem?_take] at hu
 split at hu
 ·rw [List.getElem?_drop] at hu
  rw [add_flat,add_flat,Nat.add_assoc]
  exact hc _ _ hu
 ·cases hu
theorem recover_idle (p:Addr) (w:World) :
  CallsD Tryz.prog 78 #[.pointer (some p)] .returning w fun e u' w'=>e=.returned (.tuple #[])/\u'=.returning/\w'=w:=by
 refine callsD_of_wpS Tryz.func78 rfl fun c₀ cs hu=>?_
 apply wpS_seq
 apply wpS_region
 simp [wpOpsS,go_sem,recoverD,hu,Tryz.ntmps78,Exit.thenS]
 refine wpS_cond (t:=false) (by simp [Act.eval,Array.replicate]) ?_
 simp only [Bool.false_eq_true,if_false]
 refine wpS_of_wp (wp_skip ?_)
 cases c₀
 simp_all [bodyPostS,results,Tryz.results78]
theorem ofTry {fid:FuncId} {caps:Array Value} {R:Ending->World->Prop} {w:World} (hb:hasBody pg fid=true)
  (h:Calls pg fid caps (w.alloc (.cells #[.bool false] 4)) fun en w'=>∃b:Bool,en=.returned (.bool b)/\(∃x,w'.cell? ⟨w.heap.size,0,none⟩=some x)/\w'.frozen? ⟨w.heap.size,0,none⟩=false/\R (.returned (.bool b)) (w'.setCell ⟨w.heap.size,0,none⟩ (.bool b))) :
  Calls pg 34 #[.func (.func fid) #[] caps] w R:=by
 have hmf:∀(fn:Fn) (first cap:Array Value) (w:World),(Instr.makeFunc fn first cap).run Tryz.prog w=.ok (.func fn first cap) w:=fun _ _ _ _=>rfl
 have hcf:∀w:World,(callFunc fid caps).run Tryz.prog w=.ok (.enter fid caps) w:=fun w=>run_callFunc_body fine hb
 go_enter_defers Tryz.func34,Tryz.ntmps34
 go_wp2
 rename_i K1 hK1 K0 hK0
 refine h.mono ?_
 rintro e w' ⟨b,rfl,⟨x,hx⟩,hz,hR⟩
 refine hK0 _ _ ?_
 go_wp2
 refine leaves_cons (f:=78) (args:=#[.pointer (some ⟨w.heap.size,0,none⟩)]) (by simp) (by simp [go_sem]) ?_
 refine (recover_idle ⟨w.heap.size,0,none⟩ _).mono ?_
 rintro e u' w'' ⟨rfl,rfl,rfl⟩
 simp [Leaves,settle,results,Tryz.results34,go_sem]
 rw [World.cell?_setCell_same _ _ _ hx]
 exact ⟨_,rfl,hR⟩
def mthB (P:Program) (t:TypeId) (name:String) (f:FuncId) (ptr:Bool):Bool:=match P.info? t with
 | some i=>(match i.methods.find? (·.name == name) with
  | some m=>(match m.func with
   | some (g,q)=>Nat.beq g f && (q == ptr) && m.path.toList.isEmpty
   | none=>false)
  | none=>false)
 | none=>false
theorem fuel_pos:Nat.ble 1 (pg.types.size+Made.depth)=true:=by kernel_rfl
theorem mth_spec {P:Program} {t:TypeId} {name:String} {f:FuncId} {ptr:Bool} (h:mthB P t name f ptr=true) :
  ∃i m,P.info? t=some i/\i.methods.find? (·.name == name)=some m/\m.func=some (f,ptr)/\m.path.toList=[]:=by
 unfold mthB at h
 split at h
 ·rename_i i hi
  split at h
  ·rename_i m hm
   split at h
   ·rename_i g q hf
    simp only [Bool.and_eq_true,beq_iff_eq,List.isEmpty_iff] at h
    obtain ⟨⟨h1,rfl⟩,h3⟩:=h
    obtain rfl:=Nat.eq_of_beq_eq_true h1
    exact ⟨i,m,hi,hm,hf,h3⟩
   ·cases h
  ·cases h
 ·cases h
theorem run_mth_ptr {P:Program} {k:Nat} {t e:TypeId} {name:String} {f:FuncId} {v:Value} (h:mthB P t name f true=true) (ht:P.underlying t=some (.pointer e)) (w:World) :
  (method (k+1) t v name).run P w=.ok (f,v) w:=by
 obtain ⟨i,m,hi,hm,hf,hp⟩:=mth_spec h
 simp only [method,typeInfo,Sem.run_bind,run_program,Result.andThen_ok,hi,Sem.run_pure,hm,hp,follow,hf]
 simp only [receiverAt,Sem.run_bind,run_underlying ht,Result.andThen_ok,Place.get,Sem.run_pure]
theorem run_wrapChk {P:Program} {xt:TypeId} {a:Addr} {s n:String} {w:World}:(Builtin.ssaWrapNilChk_ #[xt] xt #[.pointer (some a),strVal s,strVal n]).run P w=.ok (.pointer (some a)) w:=rfl
theorem run_mth_val {P:Program} {k:Nat} {t e:TypeId} {name:String} {f:FuncId} {a:Addr} {v:Value} (h:mthB P t name f false=true) (ht:P.underlying t=some (.pointer e)) {w:World} (hl:LdV P e a v w) :
  (method (k+1) t (.pointer (some a)) name).run P w=.ok (f,v) w:=by
 obtain ⟨i,m,hi,hm,hf,hp⟩:=mth_spec h
 have hpe:m.path.isEmpty=true:=by rw [Array.isEmpty_iff,<-Array.toList_eq_nil_iff];exact hp
 unfold LdV at hl
 simp only [method,typeInfo,Sem.run_bind,run_program,Result.andThen_ok,hi,Sem.run_pure,hm,hp,follow,hf]
 simp only [receiverAt,Sem.run_bind,run_underlying ht,Result.andThen_ok,Place.get,Sem.run_pure,hpe,if_true]
 rw [run_wrapChk]
 simp only [Result.andThen_ok,asAddr,Sem.run_pure,hl]
theorem fuel_succ:∃k,pg.types.size+Made.depth=k+1:=by
 have h:=Nat.le_of_ble_eq_true fuel_pos
 generalize pg.types.size+Made.depth=n at h
 exact ⟨n - 1,by omega⟩
theorem inv_ptr {t e:TypeId} {name:String} {f:FuncId} {v:Value} {args:Array Value} {w:World} {R:Ending->World->Prop} (h:mthB pg t name f true=true) (ht:pg.underlying t=some (.pointer e)) (hb:hasBody pg f=true) (hc:Calls pg f (#[v]++args) w R) :
  Invk (.iface t v) name args w R:=by
 obtain ⟨k,hk⟩:=fuel_succ
 exact ⟨t,v,f,v,rfl,by rw [hk];exact run_mth_ptr h ht w,hb,hc⟩
theorem inv_val {t e:TypeId} {name:String} {f:FuncId} {a:Addr} {v:Value} {args:Array Value} {w:World} {R:Ending->World->Prop} (h:mthB pg t name f false=true) (ht:pg.underlying t=some (.pointer e)) (hb:hasBody pg f=true) (hl:LdV pg e a v w) (hc:Calls pg f (#[v]++args) w R) :
  Invk (.iface t (.pointer (some a))) name args w R:=by
 obtain ⟨k,hk⟩:=fuel_succ
 exact ⟨t,.pointer (some a),f,v,rfl,by rw [hk];exact run_mth_val h ht hl,hb,hc⟩
def ptrB (P:Program) (t:TypeId):Bool:=match P.underlying t,(P.info? t).bind (·.zero) with
 | some (.pointer _),some (.pointer none)=>true
 | _,_=>false
theorem ta_yes {P:Program} {t xt:TypeId} {p:Option Addr} (h:ptrB P t=true) (w:World):(Instr.typeAssert (.iface t (.pointer p)) xt t true).run P w=.ok (.tuple #[.pointer p,.bool true]) w:=by
 unfold ptrB at h
 split at h
 ·rename_i e ht hz
  simp only [Instr.typeAssert,Sem.run_bind,run_underlying ht,Result.andThen_ok,if_true,Sem.run_pure]
 ·cases h
theorem ta_no {P:Program} {t u xt:TypeId} {v:Value} (h:ptrB P u=true) (hne:t≠u) (w:World):(Instr.typeAssert (.iface t v) xt u true).run P w=.ok (.tuple #[.pointer none,.bool false]) w:=by
 unfold ptrB at h
 split at h
 ·rename_i e ht hz
  obtain ⟨i,hi,hz⟩:=Option.bind_eq_some_iff.1 hz
  simp only [Instr.typeAssert,Sem.run_bind,run_underlying ht,Result.andThen_ok,if_neg hne,Sem.run_pure,if_true,zeroValue,typeInfo,run_program,hi,hz]
 ·cases h
theorem tno {P:Program} {t u xt:TypeId} {v:Value} {A:Option Addr->Bool->Prop} {B:Prop} (h:B) (h1:ptrB P u=true:=by kernel_rfl) (h2:t≠u:=by decide):∃(a:Option Addr) (b:Bool),(∀w,(Instr.typeAssert (.iface t v) xt u true).run P w=.ok (.tuple #[.pointer a,.bool b]) w)/\(b=true->A a b)/\(b=false->B):=⟨none,false,fun w=>ta_no h1 h2 w,fun e=>(by cases e),fun _=>h⟩

/-! ### Reading through -/
theorem Sat.ifc {F:Fr} {w:World} {ex:List Ex} {ro:List Ro} {t:TypeId} {d:Dat} {u:Value} (H:Sat F w ex ro) (h:Ro.deep [.ifc t d] [u]∈ro):∃v,u=.iface t v/\Sat F w ex (.deep [d] [v]::ro):=by
 have hd:=H.deep1 h
 cases hd with
 | ifc _ _ v h1=>exact ⟨v,rfl,H.addRo (dc h1 dn)⟩
theorem Sat.ptr {F:Fr} {w:World} {ex:List Ex} {ro:List Ro} {ds:List Dat} {v:Value} (H:Sat F w ex ro) (h:Ro.deep [.ptr ds] [v]∈ro) :
  ∃b vs,v=.pointer (some ⟨b,0,none⟩)/\(∀(i:Nat) (u:Value),vs[i]?=some u->w.cell? ⟨b,i,none⟩=some u)/\(∃c ty f,w.heap[b]?=some (.cells c ty f))/\b ∉ foots ex/\Sat F w ex (.deep ds vs::ro):=by
 have hd:=H.deep1 h
 cases hd with
 | ptr b t fz _ vs hG hb hv hdd=>
  refine ⟨b,vs,rfl,fun i u hu=>?_,⟨_,_,_,hb⟩,hG,H.addRo ⟨hv,hdd⟩⟩
  simp [World.cell?,hb,hu]
theorem Sat.ones {F:Fr} {w:World} {ex:List Ex} {ro:List Ro} {us vs:List Value} (H:Sat F w ex ro) (h:Ro.deep (us.map .one) vs∈ro):vs=us:=DeepL.of_ones (H.deep h)
theorem Sat.one1 {F:Fr} {w:World} {ex:List Ex} {ro:List Ro} {u v:Value} {ds:List Dat} {vs:List Value} (H:Sat F w ex ro) (h:Ro.deep (.one u::ds) (v::vs)∈ro):v=u:=by
 have hd:=(H.deep h).head
 cases hd;rfl
theorem Sat.rowS {F:Fr} {w:World} {ex:List Ex} {ro:List Ro} {sz:Nat} {ds:List Dat} {v:Value} (H:Sat F w ex ro) (h:Ro.deep [.row sz ds] [v]∈ro):∃a n c,v=.slice a n c/\ds.length=n*sz:=by
 have hd:=H.deep1 h
 have hl:∀a n c,v=.slice a n c->ds.length=n*sz:=by rintro a n c rfl;exact hd.len.1
 cases hd with
 | emp=>exact ⟨_,_,_,rfl,by simp⟩
 | row _ b o n c _ vs=>exact ⟨_,_,_,rfl,hl _ _ _ rfl⟩
theorem Sat.uncons {F:Fr} {w:World} {ex:List Ex} {ro:List Ro} {d:Dat} {ds:List Dat} {vs:List Value} (H:Sat F w ex ro) (h:Ro.deep (d::ds) vs∈ro):∃v us,vs=v::us/\Sat F w ex (.deep [d] [v]::.deep ds us::ro):=by
 have hd:=H.deep h
 cases vs with
 | nil=>have:=hd.1;simp at this
 | cons v us=>exact ⟨v,us,rfl,(H.addRo (r:=.deep ds us) hd.tail).addRo (dc hd.head dn)⟩
theorem run_loadC {P:Program} {a:Addr} {w:World}:∀(vs:List Value) (i:Nat) (acc:Array Value),(∀(j:Nat) (u:Value),vs[j]?=some u->w.cell? (a.add (i+j))=some u) ->
  (loadCellsFrom a i vs.length acc).run P w=.ok (acc++vs.toArray) w
 | [],i,acc,_=>by simp [loadCellsFrom]
 | v::vs,i,acc,h=>by
  have hc:=h 0 v rfl
  rw [Nat.add_zero] at hc
  simp only [List.length_cons,loadCellsFrom,Sem.run_bind,run_load,hc,Result.andThen_ok]
  rw [run_loadC vs (i+1) _ (fun j u hu=>by rw [Nat.add_assoc,Nat.add_comm 1 j];exact h (j+1) u (by simpa using hu))]
  congr 1
  simp
theorem LdC {P:Program} {t:TypeId} {w:World} {a:Addr} (vs:List Value) (ht:aggT P t vs.length=true) (hc:∀(j:Nat) (u:Value),vs[j]?=some u->w.cell? (a.add j)=some u):LdV P t a (.agg vs.toArray) w:=by
 simp only [LdV,loadVar,Sem.run_bind,run_isAgg_agg ht,Result.andThen_ok,if_true,run_size_agg ht,loadCells]
 rw [run_loadC vs 0 #[] (fun j u hu=>by rw [Nat.zero_add];exact hc j u hu)]
 simp
theorem sNewB {F:Fr} {w:World} {ex:List Ex} {ro:List Ro} (H:Sat F w ex ro) {cs:Array Value} {t:TypeId} {K:Addr->World->Prop} (h:∀b w',w.heap.size<=b->w.grownBy w' none->Sat F w' (.blk b t cs.toList::ex) ro->K ⟨b,0,none⟩ w'):gNew cs t K w:=by
 refine gNew_i fun b w' hb hs hg hB=>h b w' (by omega) hg ?_
 refine Sat.step (used:=[]) (used':=[.blk b t cs.toList]) (rest:=ex) H ((Gr.of hg).mono (fun k _ h=>by cases h)) (by simp [foots,Ex.foot]) (fun q hq=>?_) (fun e he _=>?_)
 ·simp only [foots,Ex.foot,List.flatMap_cons,List.flatMap_nil,List.append_nil,List.mem_singleton] at hq
  subst hq
  exact ⟨by omega,.inr (by omega)⟩
 ·simp only [List.mem_singleton] at he
  subst he
  exact hB
theorem clone_j {F:Fr} {w:World} {ex:List Ex} {ro:List Ro} {us:List Value} {a:Option Addr} {n c:Nat} (H:Sat F w ex ro) (hx:Ro.deep [.row 1 (us.map .one)] [.slice a n c]∈ro) (hn:n<=10000000) (h1:us.all Value.oneCell'=true) {t e bytes:Nat} (hap:apT pg t e 1 bytes=true) (hb:bytes<=1000)
  {R:Ending->World->Prop} (hR:∀a' c' w',w.grownBy w' none->Sat F w' ex (.deep [.row 1 (us.map .one)] [.slice a' n c']::ro)->R (.returned (.slice a' n c')) w') :
  (a.isNone=true->R (.returned (.slice none 0 0)) w)/\(a.isNone=false->gNew #[] e (fun p_1 w_2=>∃(x3:Option Addr) (x3l x3c:Nat),∃w_4,(Builtin.append_ #[t,t] t #[.slice (some p_1) 0 0,.slice a n c]).run pg w_2=.ok (.slice x3 x3l x3c) w_4/\R (.returned (.slice x3 x3l x3c)) w_4) w):=by
 have hl:=(H.deep1 hx).len
 refine ⟨fun hc=>?_,fun hc=>?_⟩
 ·have ha:a=none:=by cases a with
   | none=>rfl
   | some p=>cases hc
  have h0:=hl.2.2.2 ha
  have hn0:n=0:=by omega
  have hu:us=[]:=by have:=hl.1;simpa [hn0] using this
  subst hn0;subst hu
  exact hR none 0 w (grew_refl _ _) (H.addRo (dc (.emp _ _) dn))
 ·refine sNewB H ?_;clear H;intro b1 w1 hsz g1 H
  have H1:=H.toOwn 1 0 [] (by rfl) (by decide) (fun G h=>DeepL.nil _ _)
  obtain ⟨p,rfl⟩:∃p,a=some p:=by cases a with
   | none=>cases hc
   | some p=>exact ⟨p,rfl⟩
  have hlu:us.length=n:=by have:=hl.1;simpa using this
  have hm:n+0<=maxLen:=by unfold maxLen;omega
  have hb2:(0+n)*bytes<=140737488355328:=Nat.le_trans (Nat.mul_le_mul (show 0+n<=10000000 by omega) hb) (by decide)
  refine sApp0 H1 hap us (us.map .one) (by rw [hlu,Nat.mul_one]) ?_ (fun G h=>DeepL.ones us) (fun u hu=>List.all_eq_true.1 h1 u hu) (by unfold maxLen;omega) hb2 ?_
  ·intro j u hu
   have hj:=(List.getElem?_eq_some_iff.1 hu).1
   obtain ⟨bb,oo,ha,hcell⟩:=H1.elt hx (by omega)
   cases ha
   rw [add_flat]
   exact hcell j u (by rw [List.getElem?_map,hu];rfl)
  ·clear H H1;intro x3 x3l x3c x3r w ex3 g H
   rw [Nat.zero_add] at ex3
   subst ex3
   exact hR x3 x3c w (grew_step g (fun j e=>by injection e with e;subst e;exact .inl hsz) g1) H.freeze
theorem all_u8 (xs:List Int):(xs.map (Value.int .u8)).all Value.oneCell'=true:=by rw [List.all_eq_true];intro u hu;obtain ⟨x,_,rfl⟩:=List.mem_map.1 hu;rfl
theorem c37 {F:Fr} {w:World} {ex:List Ex} {ro:List Ro} {xs:List Int} {a:Option Addr} {n c:Nat} (H:Sat F w ex ro) (hx:Ro.B xs a n c∈ro) (hn:n<=10000000):Calls pg 37 #[.slice a n c] w fun en w'=>
  ∃a' c',en=.returned (.slice a' n c')/\w.grownBy w' none/\Sat F w' ex (Ro.B xs a' n c'::ro):=by
 apply of37
 unfold Ro.B at hx ⊢
 rw [ob_ones] at hx ⊢
 exact clone_j (t:=22) (e:=5) (bytes:=1) (R:=fun en w'=>∃a' c',en=.returned (.slice a' n c')/\w.grownBy w' none/\Sat F w' ex (.deep [.row 1 ((xs.map (Value.int .u8)).map .one)] [.slice a' n c']::ro)) H hx hn (all_u8 xs) (by kernel_rfl) (by decide) (fun a' c' w' g H=>⟨a',c',rfl,g,H⟩)
theorem oi_ones (k:IntKind) (l:List Int):oi k l=(l.map (Value.int k)).map .one:=by simp [oi]
theorem sTry {F:Fr} {w:World} {ex:List Ex} {ro:List Ro} (H:Sat F w ex ro) {fid:FuncId} {caps:Array Value} {R:Ending->World->Prop} (hb:hasBody pg fid=true)
  (h:∀tb w1,Sat F w1 (.blk tb 4 [.bool false]::ex) ro->Calls pg fid caps w1 fun en w'=>∃(b:Bool) (ex':List Ex) (ro':List Ro),en=.returned (.bool b)/\Sat F w' (.blk tb 4 [.bool false]::ex') ro'/\∀w'',Sat F w'' ex' ro'->R (.returned (.bool b)) w'') :
  Calls pg 34 #[.func (.func fid) #[] caps] w R:=by
 refine ofTry hb ?_
 have hS:gNew #[.bool false] 4 (fun p w'=>p=⟨w.heap.size,0,none⟩/\w'=w.alloc (.cells #[.bool false] 4)) w:=⟨rfl,rfl⟩
 have H1:Sat F (w.alloc (.cells #[.bool false] 4)) (.blk w.heap.size 4 [.bool false]::ex) ro:=by
  refine Sat.step (used:=[]) (used':=[.blk w.heap.size 4 [.bool false]]) (rest:=ex) H ((Gr.of (World.grownBy_alloc _ _ none)).mono (fun k _ h=>by cases h)) (by simp [foots,Ex.foot]) (fun q hq=>?_) (fun e he _=>?_)
  ·simp only [foots,Ex.foot,List.flatMap_cons,List.flatMap_nil,List.append_nil,List.mem_singleton] at hq
   subst hq
   exact ⟨by simp,.inr (by omega)⟩
  ·simp only [List.mem_singleton] at he
   subst he
   exact (⟨by simpa using heap_alloc_new w (.cells #[.bool false] 4)⟩:Blk (w.alloc (.cells #[.bool false] 4)) w.heap.size 4 [.bool false])
 refine (h _ _ H1).mono ?_
 rintro en w2 ⟨b,ex',ro',rfl,H2,hR⟩
 refine ⟨b,rfl,⟨_,H2.b0.cell (i:=0) rfl⟩,H2.b0.thaw 0,hR _ ?_⟩
 exact (H2.turn (setCell_grew _ _ _ _) (setCell_blk H2.b0)).sub (List.sublist_cons_self _ _) (fun _ h=>h)
def errIds:List Nat:=(List.range 37).filter fun i=>!(i == 7)
def laidIds:List Nat:=[1,0,2]
structure ErrC (P:Prop) (ro:List Ro):Prop where
 laid:∀i,laidIds.contains i=true->∃v,Ro.cell i 0 v∈ro/\isIf v/\(laidIds.contains i=true->isNilI v=false)
 rest:P->∀i,errIds.contains i=true->∃v,Ro.cell i 0 v∈ro/\isIf v
theorem ErrC.mono {P:Prop} {ro ro':List Ro} (h:ErrC P ro) (hr:∀r∈ro,r∈ro'):ErrC P ro':=
 ⟨fun i hi=>by
  obtain ⟨v,h1,h2⟩:=h.laid i hi
  exact ⟨v,hr _ h1,h2⟩,fun hp i hi=>by
  obtain ⟨v,h1,h2⟩:=h.rest hp i hi
  exact ⟨v,hr _ h1,h2⟩⟩
theorem ErrC.imp {P Q:Prop} {ro:List Ro} (h:ErrC P ro) (hq:Q->P):ErrC Q ro:=⟨h.laid,fun hp=>h.rest (hq hp)⟩
def chS:Sta->Dat
 | (V,s,z,r,l)=>if V then .ifc 282 (.ptr [.one .nilIface,.one (.int .u16 1),.one (.int .u16 z),.row 1 (oi .u16 l)])
  else .ifc 288 (.ptr [.one .nilIface,.one (.int .u16 0),.one (.int .u16 s),.one (.int .u16 r)])
def rtcpD (p:Pk):List Dat:=
 if p.kind=1 then [.one (.int .u32 p.sender),.one (.int .u64 p.ntp),.one (.int .u32 p.rtp),.one (.int .u32 p.packets),.one (.int .u32 p.octets),.row 7 (p.reports.flatMap Rep.dat),.row 1 (ob p.ext)] else
 if p.kind=2 then [.one (.int .u32 p.sender),.row 7 (p.reports.flatMap Rep.dat),.row 1 (ob p.ext)] else
 if p.kind=3 then [.row 2 (p.chunks.flatMap Chk.dat)] else
 if p.kind=4 then [.row 1 (oi .u32 p.sources),.one (.string p.text)] else
 if p.kind=5 then [.one (.int .u8 p.sub),.one (.int .u32 p.sender),.one (.string p.text),.row 1 (ob p.data)] else
 if p.kind=6 then [.one (.int .u32 p.sender),.one (.int .u32 p.media),.row 2 (p.pairs.flatMap Par.dat)] else
 if p.kind=8 then [.one (.int .u32 p.sender),.row 3 (p.blocks.flatMap Blo.dat),.one (.int .u32 p.time)] else
 if p.kind=10 then [.one (.int .u32 p.sender),.one (.int .u32 p.media),.row 3 (p.slices.flatMap Sli.dat)] else
 if p.kind=11 then [.one (.int .u32 p.sender),.one (.int .u32 p.media),.row 2 (p.entries.flatMap Ent.dat)] else
 if p.kind=12 then [.one (.int .u32 p.sender),.one (.float .f32 p.bits.toNat),.row 1 (oi .u32 p.sources)] else
 if p.kind=13 then [.one (.bool p.hp),.one (.int .u8 p.hc),.one (.int .u8 p.ht),.one (.int .u16 p.hl),.one (.int .u32 p.sender),.one (.int .u32 p.media),.one (.int .u16 p.base),.one (.int .u16 p.count),.one (.int .u32 p.ref),.one (.int .u8 p.fb),.row 1 (p.statuses.map chS),.row 1 (p.deltas.map deD)] else
 if p.kind=0 then [.row 1 (ob p.data)] else
 [.one (.int .u32 p.sender),.one (.int .u32 p.media)]
def gd (xs:List Int):Option Pk:=if hP xs then none else rdBody xs
def UPost (F:Fr) (b:Nat) (T:TypeId) (n:Nat) (ex:List Ex) (ro:List Ro) (q:Option Pk) (en:Ending) (w':World):Prop:=
 ∃e cells ro',en=.returned e/\isIf e/\(∀r∈ro,r∈ro')/\cells.length=n/\Sat F w' (.blk b T cells::ex) ro'/\∀p,q=some p->e=.nilIface/\Ro.deep (rtcpD p) cells∈ro'
theorem uErr {F:Fr} {w:World} {b:Nat} {T:TypeId} {n:Nat} {cells:List Value} {ex exs:List Ex} {ro ro':List Ro} {q:Option Pk} {i:Nat} (H:Sat F w exs ro') (hs:(Ex.blk b T cells::ex).Sublist exs) (hr:∀r∈ro,r∈ro') (hE:ErrC (q=none) ro) (hn:cells.length=n) (hq:q=none) (hi:errIds.contains i=true) :
  ∃x,w.cell? ⟨i,0,none⟩=some x/\UPost F b T n ex ro q (.returned x) w:=by
 obtain ⟨v,h1,h2⟩:=hE.rest hq i hi
 exact ⟨v,H.cell (hr _ h1) rfl,v,cells,ro',rfl,h2,hr,hn,H.sub hs (fun _ h=>h),fun p hp=>by rw [hq] at hp;cases hp⟩
theorem uOk {F:Fr} {w:World} {b:Nat} {T:TypeId} {n:Nat} {cells:List Value} {ex exs:List Ex} {ro ro':List Ro} {q:Option Pk} (H:Sat F w exs ro') (hs:(Ex.blk b T cells::ex).Sublist exs) (hr:∀r∈ro,r∈ro') (hn:cells.length=n)
  (hD:∀p,q=some p->∀G:Nat->Prop,(∀r∈ro',Ro.holds w G r)->DeepL w G (rtcpD p) cells):UPost F b T n ex ro q (.returned .nilIface) w:=by
 cases q with
 | none=>exact ⟨_,cells,ro',rfl,trivial,hr,hn,H.sub hs (fun _ h=>h),fun p hp=>by cases hp⟩
 | some p=>exact ⟨_,cells,_,rfl,trivial,fun r h=>mt (hr r h),hn,(H.addD (hD p rfl)).sub hs (fun _ h=>h),fun p' hp=>by cases hp;exact ⟨rfl,ms⟩⟩
theorem rdBody_fb {xs:List Int} {k:Int} (hk:kindOf (hT xs) (hC xs)=k) (h6:6<=k):rdBody xs=if (xs.drop 4).length < 8 then none else rdFb k (hP xs) (hC xs) (hT xs) (hL xs) (xs.drop 4):=by
 unfold rdBody
 simp only [hk]
 rw [if_neg (by omega),if_neg (by omega),if_neg (by omega),if_neg (by omega),if_neg (by omega)]
theorem gd_some {xs:List Int} {p:Pk} (h:gd xs=some p):hP xs=false/\rdBody xs=some p:=by
 unfold gd at h
 split at h
 ·cases h
 ·rename_i hp;exact ⟨by simpa using hp,h⟩
theorem gd_none {xs:List Int} (h:rdBody xs=none):gd xs=none:=by
 unfold gd;split
 ·rfl
 ·exact h
structure Hd (xs:List Int) (t c:Int):Prop where
 ok:hdrOk xs=true
 len:4*(hL xs+1)=(xs.length:Int)
 typ:hT xs=t
 cnt:hC xs=c
theorem c203 {F:Fr} {w:World} {ex:List Ex} {ro:List Ro} {xs:List Int} {a:Option Addr} {n c:Nat} {b:Nat} {T:TypeId} {c0 c1:Value} (H:Sat F w (.blk b T [c0,c1]::ex) ro)
  (hx:Ro.B xs a n c∈ro) (hb:By xs) (hE:ErrC (gd xs=none) ro) (hd:Hd xs 206 1):Calls pg 203 #[.pointer (some ⟨b,0,none⟩),.slice a n c] w (UPost F b T 2 ex ro (gd xs)):=by
 apply of203
 have hlen:=H.lenB hx
 have hk:kindOf (hT xs) (hC xs)=9:=by rw [hd.typ,hd.cnt];rfl
 have hU:=rdBody_fb hk (by decide)
 rw [List.length_drop] at hU
 refine ⟨fun hc=>?_,fun hc=>?_⟩
 ·rw [decide_eq_true_eq] at hc
  exact uErr H (List.Sublist.refl _) (fun _ h=>h) hE rfl (gd_none (by rw [hU,if_pos (by omega)])) (by decide)
 rw [decide_eq_false_iff_not] at hc
 refine sNew H ?_;clear H;intro b2 w _ H
 refine call_j (c55 H hx hb hd.ok) ?_
 rintro _ w ⟨rfl,H⟩
 refine ⟨_,rfl,by simp [isIf],fun h=>absurd h (by decide),fun _=>?_⟩
 refine ⟨_,(H.b0.at0 rfl),?_⟩
 rw [hd.typ]
 refine fF ?_
 refine ⟨_,(H.b0.at0 rfl),?_⟩
 rw [hd.cnt]
 refine fF ?_
 refine ⟨by omega,by omega,?_⟩
 refine call_j (c150 (by exact Rd.skip (Sat.rd H (by assumption)) _ (by omega)) (hb.drop 4) (by omega)) ?_
 rintro _ w ⟨rfl,g⟩
 replace H:=H.grow g;clear g
 refine ⟨_,rfl,?_⟩
 refine ⟨_,rfl,?_⟩
 refine sSt1 H (by exact add_flat _ _ _) (by kernel_rfl) (by rfl) (by rfl) ?_;clear H;intro w _ H
 refine ⟨by omega,by omega,?_⟩
 refine call_j (c150 (by exact Rd.skip (Sat.rd H (by assumption)) _ (by omega)) (hb.drop 8) (by omega)) ?_
 rintro _ w ⟨rfl,g⟩
 replace H:=H.grow g;clear g
 refine ⟨_,rfl,?_⟩
 refine ⟨_,rfl,?_⟩
 refine sSt1 H (by exact add_flat _ _ _) (by kernel_rfl) (by rfl) (by rfl) ?_;clear H;intro w _ H
 refine uOk (cells:=[.int .u32 (n32 (xs.drop 4)),.int .u32 (n32 (xs.drop 8))]) H (List.sublist_cons_self _ _) (fun _ h=>h) rfl ?_
 intro p hp
 obtain ⟨_,hp⟩:=gd_some hp
 rw [hU,if_neg (by omega)] at hp
 unfold rdFb at hp
 simp only at hp
 rw [if_pos (by decide)] at hp
 split at hp
 ·cases hp
  rw [List.drop_drop]
  exact fun G h=>DeepL.ones [_,_]
 ·cases hp
theorem c186 {F:Fr} {w:World} {ex:List Ex} {ro:List Ro} {xs:List Int} {a:Option Addr} {n c:Nat} {b:Nat} {T:TypeId} {c0 c1:Value} (H:Sat F w (.blk b T [c0,c1]::ex) ro)
  (hx:Ro.B xs a n c∈ro) (hb:By xs) (hE:ErrC (gd xs=none) ro) (hd:Hd xs 205 5):Calls pg 186 #[.pointer (some ⟨b,0,none⟩),.slice a n c] w (UPost F b T 2 ex ro (gd xs)):=by
 apply of186
 have hlen:=H.lenB hx
 have hk:kindOf (hT xs) (hC xs)=7:=by rw [hd.typ,hd.cnt];rfl
 have hU:=rdBody_fb hk (by decide)
 rw [List.length_drop] at hU
 refine ⟨fun hc=>?_,fun hc=>?_⟩
 ·rw [decide_eq_true_eq] at hc
  exact uErr H (List.Sublist.refl _) (fun _ h=>h) hE rfl (gd_none (by rw [hU,if_pos (by omega)])) (by decide)
 rw [decide_eq_false_iff_not] at hc
 refine sNew H ?_;clear H;intro b2 w _ H
 refine call_j (c55 H hx hb hd.ok) ?_
 rintro _ w ⟨rfl,H⟩
 refine ⟨_,rfl,by simp [isIf],fun h=>absurd h (by decide),fun _=>?_⟩
 refine ⟨_,(H.b0.at0 rfl),?_⟩
 rw [hd.typ]
 refine fF ?_
 refine ⟨_,(H.b0.at0 rfl),?_⟩
 rw [hd.cnt]
 refine fF ?_
 refine ⟨by omega,by omega,?_⟩
 refine call_j (c150 (by exact Rd.skip (Sat.rd H (by assumption)) _ (by omega)) (hb.drop 4) (by omega)) ?_
 rintro _ w ⟨rfl,g⟩
 replace H:=H.grow g;clear g
 refine ⟨_,rfl,?_⟩
 refine ⟨_,rfl,?_⟩
 refine sSt1 H (by exact add_flat _ _ _) (by kernel_rfl) (by rfl) (by rfl) ?_;clear H;intro w _ H
 refine ⟨by omega,by omega,?_⟩
 refine call_j (c150 (by exact Rd.skip (Sat.rd H (by assumption)) _ (by omega)) (hb.drop 8) (by omega)) ?_
 rintro _ w ⟨rfl,g⟩
 replace H:=H.grow g;clear g
 refine ⟨_,rfl,?_⟩
 refine ⟨_,rfl,?_⟩
 refine sSt1 H (by exact add_flat _ _ _) (by kernel_rfl) (by rfl) (by rfl) ?_;clear H;intro w _ H
 refine uOk (cells:=[.int .u32 (n32 (xs.drop 4)),.int .u32 (n32 (xs.drop 8))]) H (List.sublist_cons_self _ _) (fun _ h=>h) rfl ?_
 intro p hp
 obtain ⟨_,hp⟩:=gd_some hp
 rw [hU,if_neg (by omega)] at hp
 unfold rdFb at hp
 simp only at hp
 rw [if_pos (by decide)] at hp
 split at hp
 ·cases hp
  rw [List.drop_drop]
  exact fun G h=>DeepL.ones [_,_]
 ·cases hp
theorem u_size {n:Nat} {L:Int} (h:4*(L+1)=(n:Int)) (hn:n<=1000000):IntKind.i64.wrap ((4:Int)+(IntKind.i64.wrap ((4:Int)*(IntKind.i64.wrap L))))=(n:Int)/\IntKind.i64.wrap ((4:Int)*(IntKind.i64.wrap L))=(n:Int) - 4:=by
 rw [wi64_of (n:=L) (by omega) (by omega),wi64_of (n:=4*L) (by omega) (by omega),wi64_of (n:=4+4*L) (by omega) (by omega)]
 omega
theorem c181 {F:Fr} {w:World} {ex:List Ex} {ro:List Ro} {xs:List Int} {a:Option Addr} {n c:Nat} {b:Nat} {T:TypeId} {c0 c1:Value} (H:Sat F w (.blk b T [c0,c1,.slice none 0 0]::ex) ro)
  (hx:Ro.B xs a n c∈ro) (hb:By xs) (hE:ErrC (gd xs=none) ro) (hd:Hd xs 205 1) (hn:n<=1000000):Calls pg 181 #[.pointer (some ⟨b,0,none⟩),.slice a n c] w (UPost F b T 3 ex ro (gd xs)):=by
 apply of181
 have hlen:=H.lenB hx
 have hk:kindOf (hT xs) (hC xs)=6:=by rw [hd.typ,hd.cnt];rfl
 have hU:=rdBody_fb hk (by decide)
 rw [List.length_drop] at hU
 have hLn:=hd.len
 rw [hlen] at hLn
 obtain ⟨e1,e2⟩:=u_size hLn hn
 refine ⟨fun hc=>?_,fun hc=>?_⟩
 ·rw [decide_eq_true_eq] at hc
  exact uErr H (List.Sublist.refl _) (fun _ h=>h) hE rfl (gd_none (by rw [hU,if_pos (by omega)])) (by decide)
 rw [decide_eq_false_iff_not] at hc
 refine sNew H ?_;clear H;intro b2 w _ H
 refine call_j (c55 H hx hb hd.ok) ?_
 rintro _ w ⟨rfl,H⟩
 refine ⟨_,rfl,by simp [isIf],fun h=>absurd h (by decide),fun _=>?_⟩
 refine ⟨_,(H.b0.at0 rfl),?_⟩
 rw [e1]
 refine ⟨fun h=>by rw [decide_eq_true_eq] at h;omega,fun _=>?_⟩
 refine ⟨_,(H.b0.at0 rfl),?_⟩
 rw [hd.typ]
 refine fF ?_
 refine ⟨_,(H.b0.at0 rfl),?_⟩
 rw [hd.cnt]
 refine fF ?_
 refine ⟨_,(H.b0.at0 rfl),?_⟩
 rw [e2]
 refine ⟨fun h=>?_,fun h=>?_⟩
 ·rw [decide_eq_true_eq] at h
  refine uErr H (List.sublist_cons_self _ _) (fun _ h=>h) hE rfl (gd_none ?_) (by decide)
  rw [hU]
  split
  ·rfl
  ·unfold rdFb
   simp only
   rw [if_neg (by decide),if_pos trivial,if_pos (by simp;omega)]
 rw [decide_eq_false_iff_not] at h
 refine ⟨by omega,by omega,?_⟩
 refine call_j (c150 (by exact Rd.skip (Sat.rd H (by assumption)) _ (by omega)) (hb.drop 4) (by omega)) ?_
 rintro _ w ⟨rfl,g⟩
 replace H:=H.grow g;clear g
 refine ⟨_,rfl,?_⟩
 refine ⟨_,rfl,?_⟩
 refine sSt1 H (by exact add_flat _ _ _) (by kernel_rfl) (by rfl) (by rfl) ?_;clear H;intro w _ H
 refine ⟨by omega,by omega,?_⟩
 refine call_j (c150 (by exact Rd.skip (Sat.rd H (by assumption)) _ (by omega)) (hb.drop 8) (by omega)) ?_
 rintro _ w ⟨rfl,g⟩
 replace H:=H.grow g;clear g
 refine ⟨_,rfl,?_⟩
 refine ⟨_,rfl,?_⟩
 refine sSt1 H (by exact add_flat _ _ _) (by kernel_rfl) (by rfl) (by rfl) ?_;clear H;intro w _ H
 obtain ⟨k,hk2⟩:∃k,n=12+4*k:=⟨(n - 12) / 4,by omega⟩
 refine ⟨fun i28 m_24 w=>∃(i:Nat) (o:Option Addr) (oc:Nat) (r:Option Nat),i28=((12+4*i:Nat):Int)/\i+m_24=k /\
  Sat F w (.blk b2 109 [.bool (hP xs),.int .u8 (hC xs),.int .u8 (hT xs),.int .u16 (hL xs)]::.blk b T [.int .u32 (n32 (xs.drop 4)),.int .u32 (n32 (xs.drop 8)),.slice o i oc]::.own 213 2 o i oc r ((pairsL i (xs.drop 12)).flatMap Par.dat)::ex) ro,⟨k,0,none,0,none,rfl,by omega,(H.nilOwn 213 2).u2⟩,?_⟩
 clear H;rintro dd23 i28 m_24 w ⟨i,o,oc,r,rfl,him,H⟩
 refine ⟨_,(H.b0.at0 rfl),?_⟩
 rw [e1]
 refine ⟨fun h=>?_,fun h=>?_⟩
 ·rw [decide_eq_true_eq] at h
  refine ⟨r,?_⟩;replace H:=H.drew;generalize w.drew=wd1 at H ⊢;have K:=grew_refl wd1 (r)
  refine ⟨_,rfl,?_⟩
  refine ⟨(H.ne (mt ms) (mt (mt ms))),?_⟩
  refine ⟨H.b1.row,?_⟩
  refine ⟨_,_,_,(H.b1.at0 rfl),?_⟩
  rw [wi64_of (n:=((12+4*i:Nat):Int)+2) (by omega) (by omega),show (((12+4*i:Nat):Int)+2).toNat=14+4*i by omega,Int.toNat_natCast]
  refine ⟨by omega,by omega,?_⟩
  refine ⟨by omega,by omega,?_⟩
  refine call_j (c90 (by exact Rd.skip (Sat.rd H (by assumption)) _ (by omega)) (hb.drop (12+4*i)) (by omega)) ?_
  rintro _ w ⟨rfl,g⟩
  replace H:=H.grow g;replace K:=gtr K (grew_none _ g);clear g
  refine ⟨_,rfl,?_⟩
  refine ⟨K,?_⟩
  refine call_j (c90 (by exact Rd.skip (Sat.rd H (by assumption)) _ (by omega)) (hb.drop (14+4*i)) (by omega)) ?_
  rintro _ w ⟨rfl,g⟩
  replace H:=H.grow g;replace K:=gtr K (grew_none _ g);clear g
  refine ⟨_,rfl,?_⟩
  refine ⟨K,?_⟩
  refine ⟨rfl,?_⟩
  refine sNew H ?_;clear H;intro b37 w g H;replace K:=gtr K (grew_none _ g);clear g
  refine ⟨K,?_⟩
  refine sApp3 H (bytes:=4) (by kernel_rfl) [.int .u16 (n16 (xs.drop (12+4*i))),.int .u16 (n16 (xs.drop (14+4*i)))] (Par.dat (n16 (xs.drop (12+4*i)),n16 (xs.drop (14+4*i)))) (by rfl) (fun j u hu=>by rw [add_flat,Nat.zero_add];exact H.b0.cell hu) (fun G h=>by repeat (exact DeepL.ones _)) (by simp [Value.oneCell']) (by unfold maxLen;omega) (by omega) ?_
  clear H;intro x39 x39l x39c x39r w ex39 g H
  replace K:=gtr K g;clear g;replace H:=H.d1
  refine ⟨K,?_⟩
  refine ⟨_,rfl,?_⟩
  refine sSt1 H (by exact add_flat _ _ _) (by kernel_rfl) (by rfl) (by rfl) ?_;clear H;intro w _ H
  subst ex39
  refine ⟨m_24 - 1,by omega,i+1,x39,x39c,x39r,?_,by omega,?_⟩
  ·rw [wi64_of (by omega) (by omega)];omega
  ·rw [pairsL_snoc,List.flatMap_append,List.drop_drop,List.drop_drop,show 12+4*i+2=14+4*i by omega]
   exact H
 ·rw [decide_eq_false_iff_not] at h
  obtain rfl:i=k:=by omega
  replace H:=H.r2.freeze
  refine uOk (cells:=[.int .u32 (n32 (xs.drop 4)),.int .u32 (n32 (xs.drop 8)),.slice o i oc]) H (List.sublist_cons_self _ _) (fun r hr=>by simp [hr]) rfl ?_
  intro p hp
  obtain ⟨_,hp⟩:=gd_some hp
  rw [hU,if_neg (by omega)] at hp
  unfold rdFb at hp
  simp only at hp
  rw [if_neg (by decide),if_pos trivial] at hp
  split at hp
  ·cases hp
  ·cases hp
   rw [List.drop_drop,List.drop_drop,List.length_drop,show (xs.length - (4+8)) / 4=i by omega]
   exact fun G h=>dc (.one _) (dc (.one _) (dc (h (.deep [_] [_]) ms).head dn))
theorem sli_bits2 {v:Int} (h:0<=v/\v < 4294967296):IntKind.u16.wrap (iand .u32 (ishr .u32 v (19:Int)) (8191:Int))=v / 524288/\IntKind.u16.wrap (iand .u32 (ishr .u32 v (6:Int)) (8191:Int))=v / 64 % 8192/\IntKind.u8.wrap (iand .u32 v (63:Int))=v % 64:=by
 have e1:ishr .u32 v (19:Int)=v / 524288:=ishr_of 19 (by rfl) (by decide)
 have e2:ishr .u32 v (6:Int)=v / 64:=ishr_of 6 (by rfl) (by decide)
 have e3:iand .u32 (v / 64) (8191:Int)=v / 64 % 8192:=iand_low (k:=.u32) (by rfl) 13 (by omega) (by simp only [IntKind.bits];omega) (by omega) (by decide)
 have e4:iand .u32 v (63:Int)=v % 64:=iand_low (k:=.u32) (by rfl) 6 h.1 (by simp only [IntKind.bits];omega) (by omega) (by decide)
 have e5:iand .u32 (v / 524288) (8191:Int)=v / 524288 % 8192:=iand_low (k:=.u32) (by rfl) 13 (by omega) (by simp only [IntKind.bits];omega) (by omega) (by decide)
 rw [e1,e2,e3,e4,e5,wu16,wu16,wu8]
 omega
theorem c207 {F:Fr} {w:World} {ex:List Ex} {ro:List Ro} {xs:List Int} {a:Option Addr} {n c:Nat} {b:Nat} {T:TypeId} {c0 c1:Value} (H:Sat F w (.blk b T [c0,c1,.slice none 0 0]::ex) ro)
  (hx:Ro.B xs a n c∈ro) (hb:By xs) (hE:ErrC (gd xs=none) ro) (hd:Hd xs 206 2) (hn:n<=1000000):Calls pg 207 #[.pointer (some ⟨b,0,none⟩),.slice a n c] w (UPost F b T 3 ex ro (gd xs)):=by
 apply of207
 have hlen:=H.lenB hx
 have hk:kindOf (hT xs) (hC xs)=10:=by rw [hd.typ,hd.cnt];rfl
 have hU:=rdBody_fb hk (by decide)
 rw [List.length_drop] at hU
 have hLn:=hd.len
 rw [hlen] at hLn
 obtain ⟨e1,e2⟩:=u_size hLn hn
 refine ⟨fun hc=>?_,fun hc=>?_⟩
 ·rw [decide_eq_true_eq] at hc
  exact uErr H (List.Sublist.refl _) (fun _ h=>h) hE rfl (gd_none (by rw [hU,if_pos (by omega)])) (by decide)
 rw [decide_eq_false_iff_not] at hc
 refine sNew H ?_;clear H;intro b2 w _ H
 refine call_j (c55 H hx hb hd.ok) ?_
 rintro _ w ⟨rfl,H⟩
 refine ⟨_,rfl,by simp [isIf],fun h=>absurd h (by decide),fun _=>?_⟩
 refine ⟨_,(H.b0.at0 rfl),?_⟩
 rw [e1]
 refine ⟨fun h=>by rw [decide_eq_true_eq] at h;omega,fun _=>?_⟩
 refine ⟨_,(H.b0.at0 rfl),?_⟩
 rw [hd.typ]
 refine fF ?_
 refine ⟨_,(H.b0.at0 rfl),?_⟩
 rw [hd.cnt]
 refine fF ?_
 refine ⟨by omega,by omega,?_⟩
 refine call_j (c150 (by exact Rd.skip (Sat.rd H (by assumption)) _ (by omega)) (hb.drop 4) (by omega)) ?_
 rintro _ w ⟨rfl,g⟩
 replace H:=H.grow g;clear g
 refine ⟨_,rfl,?_⟩
 refine ⟨_,rfl,?_⟩
 refine sSt1 H (by exact add_flat _ _ _) (by kernel_rfl) (by rfl) (by rfl) ?_;clear H;intro w _ H
 refine ⟨by omega,by omega,?_⟩
 refine call_j (c150 (by exact Rd.skip (Sat.rd H (by assumption)) _ (by omega)) (hb.drop 8) (by omega)) ?_
 rintro _ w ⟨rfl,g⟩
 replace H:=H.grow g;clear g
 refine ⟨_,rfl,?_⟩
 refine ⟨_,rfl,?_⟩
 refine sSt1 H (by exact add_flat _ _ _) (by kernel_rfl) (by rfl) (by rfl) ?_;clear H;intro w _ H
 obtain ⟨k,hk2⟩:∃k,n=12+4*k:=⟨(n - 12) / 4,by omega⟩
 refine ⟨fun i26 m_22 w=>∃(i:Nat) (o:Option Addr) (oc:Nat) (r:Option Nat),i26=((12+4*i:Nat):Int)/\i+m_22=k /\
  Sat F w (.blk b2 109 [.bool (hP xs),.int .u8 (hC xs),.int .u8 (hT xs),.int .u16 (hL xs)]::.blk b T [.int .u32 (n32 (xs.drop 4)),.int .u32 (n32 (xs.drop 8)),.slice o i oc]::.own 228 3 o i oc r ((sliceL i (xs.drop 12)).flatMap Sli.dat)::ex) ro,⟨k,0,none,0,none,rfl,by omega,(H.nilOwn 228 3).u2⟩,?_⟩
 clear H;rintro dd21 i26 m_22 w ⟨i,o,oc,r,rfl,him,H⟩
 refine ⟨_,(H.b0.at0 rfl),?_⟩
 rw [e1]
 refine ⟨fun h=>?_,fun h=>?_⟩
 ·rw [decide_eq_true_eq] at h
  rw [Int.toNat_natCast]
  refine ⟨by omega,by omega,?_⟩
  refine call_j (c150 (by exact Rd.skip (Sat.rd H (by assumption)) _ (by omega)) (hb.drop (12+4*i)) (by omega)) ?_
  rintro _ w ⟨rfl,g⟩
  replace H:=H.grow g;clear g
  obtain ⟨f1,f2,f3⟩:=sli_bits2 (n32_lt (hb.drop (12+4*i)))
  refine ⟨_,rfl,?_⟩
  rw [f1,f2,f3]
  refine ⟨_,rfl,?_⟩
  refine ⟨_,_,_,(H.b1.at0 rfl),?_⟩
  refine ⟨rfl,?_⟩
  refine sPush2 H (bytes:=6) (by kernel_rfl) (Sli.dat (sli1 (n32 (xs.drop (12+4*i))))) (by rfl) (fun G h=>by repeat (exact DeepL.ones _)) (by rfl) (by unfold maxLen;omega) (by omega) ?_
  clear H;intro x34 x34l x34c x34r w ex34 _ H
  refine ⟨_,rfl,?_⟩
  refine sSt1 H (by exact add_flat _ _ _) (by kernel_rfl) (by rfl) (by rfl) ?_;clear H;intro w _ H
  subst ex34
  refine ⟨m_22 - 1,by omega,i+1,x34,x34c,x34r,?_,by omega,?_⟩
  ·rw [wi64_of (by omega) (by omega)];omega
  ·rw [sliceL_snoc,List.flatMap_append,List.drop_drop]
   simp only [List.flatMap_cons,List.flatMap_nil,List.append_nil]
   exact H
 ·rw [decide_eq_false_iff_not] at h
  obtain rfl:i=k:=by omega
  replace H:=H.r2.freeze
  refine uOk (cells:=[.int .u32 (n32 (xs.drop 4)),.int .u32 (n32 (xs.drop 8)),.slice o i oc]) H (List.sublist_cons_self _ _) (fun r hr=>by simp [hr]) rfl ?_
  intro p hp
  obtain ⟨_,hp⟩:=gd_some hp
  rw [hU,if_neg (by omega)] at hp
  unfold rdFb at hp
  simp only at hp
  rw [if_neg (by decide),if_neg (by decide),if_pos trivial] at hp
  split at hp
  ·cases hp
  ·cases hp
   rw [List.drop_drop,List.drop_drop,List.length_drop,show (xs.length - (4+8)) / 4=i by omega]
   exact fun G h=>dc (.one _) (dc (.one _) (dc (h (.deep [_] [_]) ms).head dn))
def entsL:Nat->List Int->List Ent
 | 0,_=>[]
 | n+1,xs=>(n32 xs,xs.getD 4 0)::entsL n (xs.drop 8)
theorem entsL_snoc:∀(i:Nat) (xs:List Int),entsL (i+1) xs=entsL i xs++[(n32 (xs.drop (8*i)),(xs.drop (8*i)).getD 4 0)]
 | 0,xs=>by simp [entsL]
 | i+1,xs=>by
  rw [entsL,entsL_snoc i,entsL]
  simp only [List.cons_append,List.drop_drop]
  rw [show 8+8*i=8*(i+1) by omega]
theorem entryL_ents:∀(k:Nat) (xs:List Int) (l:List Ent),entryL k xs=some l->l=entsL k xs
 | 0,xs,l,h=>by
  unfold entryL at h
  split at h
  ·cases h;rfl
  ·cases h
 | k+1,xs,l,h=>by
  unfold entryL at h
  split at h
  ·cases h
  ·cases h2:entryL k (xs.drop 8) with
   | none=>rw [h2] at h;cases h
   | some q=>
    rw [h2] at h
    simp only [Option.map_some,Option.some.injEq] at h
    subst h
    rw [entryL_ents k _ _ h2,entsL]
theorem getD_take {ys:List Int} {j m:Nat} (h:j < m):(ys.take m).getD j 0=ys.getD j 0:=by
 rw [List.getD_eq_getElem?_getD,List.getElem?_take,if_pos h,<-List.getD_eq_getElem?_getD]
theorem n32_take8 {ys:List Int}:n32 (ys.take 8)=n32 ys/\(ys.take 8).getD 4 0=ys.getD 4 0:=by
 refine ⟨?_,getD_take (by decide)⟩
 unfold n32 n16
 rw [getD_drop,getD_drop,getD_drop,getD_drop,getD_take (by decide),getD_take (by decide),getD_take (by decide),getD_take (by decide)]
theorem c212 {F:Fr} {w:World} {ex:List Ex} {ro:List Ro} {xs:List Int} {a:Option Addr} {n c:Nat} {b:Nat} {T:TypeId} {c0 c1:Value} (H:Sat F w (.blk b T [c0,c1,.slice none 0 0]::ex) ro)
  (hx:Ro.B xs a n c∈ro) (hb:By xs) (hE:ErrC (gd xs=none) ro) (hd:Hd xs 206 4) (hn:n<=1000000):Calls pg 212 #[.pointer (some ⟨b,0,none⟩),.slice a n c] w (UPost F b T 3 ex ro (gd xs)):=by
 apply of212
 have hlen:=H.lenB hx
 have hk:kindOf (hT xs) (hC xs)=11:=by rw [hd.typ,hd.cnt];rfl
 have hU:=rdBody_fb hk (by decide)
 rw [List.length_drop] at hU
 have hLn:=hd.len
 rw [hlen] at hLn
 obtain ⟨e1,e2⟩:=u_size hLn hn
 have hU2:¬xs.length - 4 < 8->rdBody xs=match entryL ((xs.length - 12) / 8) (xs.drop 12) with
   | some l=>if l=[] then none else some { kind:=11,sender:=n32 (xs.drop 4),media:=n32 (xs.drop 8),entries:=l }
   | none=>none:=by
  intro h
  rw [hU,if_neg h]
  unfold rdFb
  simp only
  rw [if_neg (by decide),if_neg (by decide),if_neg (by decide),if_pos trivial,List.drop_drop,List.drop_drop,List.length_drop]
  rfl
 refine ⟨fun hc=>?_,fun hc=>?_⟩
 ·rw [decide_eq_true_eq] at hc
  exact uErr H (List.Sublist.refl _) (fun _ h=>h) hE rfl (gd_none (by rw [hU,if_pos (by omega)])) (by decide)
 rw [decide_eq_false_iff_not] at hc
 refine sNew H ?_;clear H;intro b2 w _ H
 refine call_j (c55 H hx hb hd.ok) ?_
 rintro _ w ⟨rfl,H⟩
 refine ⟨_,rfl,by simp [isIf],fun h=>absurd h (by decide),fun _=>?_⟩
 refine ⟨_,(H.b0.at0 rfl),?_⟩
 rw [e1]
 refine ⟨fun h=>by rw [decide_eq_true_eq] at h;omega,fun _=>?_⟩
 refine ⟨_,(H.b0.at0 rfl),?_⟩
 rw [hd.typ]
 refine fF ?_
 refine ⟨_,(H.b0.at0 rfl),?_⟩
 rw [hd.cnt]
 refine fF ?_
 refine ⟨_,(H.b0.at0 rfl),?_⟩
 rw [e2,wi64_of (n:=(n:Int) - 4 - 8) (by omega) (by omega)]
 refine ⟨fun h=>?_,fun h=>?_⟩
 ·rw [decide_eq_true_eq] at h
  refine uErr H (List.sublist_cons_self _ _) (fun _ h=>h) hE rfl (gd_none ?_) (by decide)
  by_cases h8:xs.length - 4 < 8
  ·rw [hU,if_pos h8]
  ·rw [hU2 h8,show (xs.length - 12) / 8=0 by omega]
   unfold entryL
   split<;>simp_all
 rw [decide_eq_false_iff_not] at h
 refine ⟨_,(H.b0.at0 rfl),?_⟩
 rw [e2]
 refine ⟨by decide,?_⟩
 have ht:((n:Int) - 4).tmod 8=(((n - 4) % 8:Nat):Int):=by rw [Int.tmod_eq_emod_of_nonneg (by omega)];omega
 rw [ht]
 refine ⟨fun h2=>?_,fun h2=>?_⟩
 ·have h3:¬(((n - 4) % 8:Nat):Int)=0:=by simpa using h2
  refine uErr H (List.sublist_cons_self _ _) (fun _ h=>h) hE rfl (gd_none ?_) (by decide)
  rw [hU2 (by omega)]
  have key:∀(k:Nat) (ys:List Int),8*k < ys.length->entryL k ys=none:=by
   intro k
   induction k with
   | zero=>intro ys hy;unfold entryL;rw [if_neg (by omega)]
   | succ k ih=>
    intro ys hy
    unfold entryL
    split
    ·rfl
    ·rw [ih (ys.drop 8) (by rw [List.length_drop];omega)];rfl
  rw [key _ _ (by rw [List.length_drop];omega)]
 have h3:(((n - 4) % 8:Nat):Int)=0:=by simpa using h2
 refine ⟨by omega,by omega,?_⟩
 refine call_j (c150 (by exact Rd.skip (Sat.rd H (by assumption)) _ (by omega)) (hb.drop 4) (by omega)) ?_
 rintro _ w ⟨rfl,g⟩
 replace H:=H.grow g;clear g
 refine ⟨_,rfl,?_⟩
 refine ⟨_,rfl,?_⟩
 refine sSt1 H (by exact add_flat _ _ _) (by kernel_rfl) (by rfl) (by rfl) ?_;clear H;intro w _ H
 refine ⟨by omega,by omega,?_⟩
 refine call_j (c150 (by exact Rd.skip (Sat.rd H (by assumption)) _ (by omega)) (hb.drop 8) (by omega)) ?_
 rintro _ w ⟨rfl,g⟩
 replace H:=H.grow g;clear g
 refine ⟨_,rfl,?_⟩
 refine ⟨_,rfl,?_⟩
 refine sSt1 H (by exact add_flat _ _ _) (by kernel_rfl) (by rfl) (by rfl) ?_;clear H;intro w _ H
 have hnc:n<=c:=(H.deep1 hx).len.2.1
 obtain ⟨k,hk2⟩:∃k,n=12+8*k:=⟨(n - 12) / 8,by omega⟩
 refine ⟨fun i30 m_26 w=>∃(i:Nat) (o:Option Addr) (oc:Nat) (r:Option Nat),i30=((12+8*i:Nat):Int)/\i+m_26=k /\
  Sat F w (.blk b2 109 [.bool (hP xs),.int .u8 (hC xs),.int .u8 (hT xs),.int .u16 (hL xs)]::.blk b T [.int .u32 (n32 (xs.drop 4)),.int .u32 (n32 (xs.drop 8)),.slice o i oc]::.own 234 2 o i oc r ((entsL i (xs.drop 12)).flatMap Ent.dat)::ex) ro,⟨k,0,none,0,none,rfl,by omega,(H.nilOwn 234 2).u2⟩,?_⟩
 clear H;rintro dd25 i30 m_26 w ⟨i,o,oc,r,rfl,him,H⟩
 refine ⟨_,(H.b0.at0 rfl),?_⟩
 rw [e1]
 refine ⟨fun h=>?_,fun h=>?_⟩
 ·rw [decide_eq_true_eq] at h
  rw [wi64_of (n:=((12+8*i:Nat):Int)+8) (by omega) (by omega),show (((12+8*i:Nat):Int)+8).toNat=20+8*i by omega,Int.toNat_natCast,show 20+8*i - (12+8*i)=8 by omega]
  refine ⟨by omega,by omega,?_⟩
  refine ⟨by omega,by omega,?_⟩
  replace H:=H.cutB hx (12+8*i) (20+8*i) (by omega) (by omega)
  rw [show 20+8*i - (12+8*i)=8 by omega] at H
  have hby:By ((xs.drop (12+8*i)).take 8):=(hb.drop _).take _
  have hyy:=n32_take8 (ys:=xs.drop (12+8*i))
  refine ⟨r,?_⟩;replace H:=H.drew;generalize w.drew=wd1 at H ⊢;have K:=grew_refl wd1 (r)
  refine ⟨_,rfl,?_⟩
  refine ⟨(H.ne (mt ms) (mt (mt ms))),?_⟩
  refine ⟨H.b1.row,?_⟩
  refine ⟨_,_,_,(H.b1.at0 rfl),?_⟩
  obtain ⟨p_35,ep_35,hp_35,kp_35,fp_35⟩:=H.at_ (a:=cutA a (12+8*i) c 1) ms (by omega)
  refine ⟨p_35,ep_35,by omega,by omega,?_⟩
  refine ⟨H.ne_own (mt (mt ms)) (fp_35 _),?_⟩
  refine ⟨kp_35 _,?_⟩
  refine ⟨_,hp_35 4 (by omega),?_⟩
  refine call_j (c150 (Sat.rd H ms) hby (by omega)) ?_
  clear ep_35 hp_35 kp_35 fp_35
  rintro _ w ⟨rfl,g⟩
  replace H:=H.grow g;replace K:=gtr K (grew_none _ g);clear g
  rw [hyy.1,hyy.2]
  refine ⟨_,rfl,?_⟩
  refine ⟨K,?_⟩
  refine ⟨rfl,?_⟩
  refine sNew H ?_;clear H;intro b39 w g H;replace K:=gtr K (grew_none _ g);clear g
  refine ⟨K,?_⟩
  refine sApp3 H (bytes:=8) (by kernel_rfl) [.int .u32 (n32 (xs.drop (12+8*i))),.int .u8 ((xs.drop (12+8*i)).getD 4 0)] (Ent.dat (n32 (xs.drop (12+8*i)),(xs.drop (12+8*i)).getD 4 0)) (by rfl) (fun j u hu=>by rw [add_flat,Nat.zero_add];exact H.b0.cell hu) (fun G h=>by repeat (exact DeepL.ones _)) (by simp [Value.oneCell']) (by unfold maxLen;omega) (by omega) ?_
  clear H;intro x41 x41l x41c x41r w ex41 g H
  replace K:=gtr K g;clear g;replace H:=H.d1
  refine ⟨K,?_⟩
  refine ⟨_,rfl,?_⟩
  refine sSt1 H (by exact add_flat _ _ _) (by kernel_rfl) (by rfl) (by rfl) ?_;clear H;intro w _ H
  subst ex41
  refine ⟨m_26 - 1,by omega,i+1,x41,x41c,x41r,?_,by omega,?_⟩
  ·omega
  ·rw [entsL_snoc,List.flatMap_append,List.drop_drop]
   simp only [List.flatMap_cons,List.flatMap_nil,List.append_nil]
   exact H.sub (List.Sublist.refl _) (fun r hr=>mt hr)
 ·rw [decide_eq_false_iff_not] at h
  obtain rfl:i=k:=by omega
  replace H:=H.r2.freeze
  refine uOk (cells:=[.int .u32 (n32 (xs.drop 4)),.int .u32 (n32 (xs.drop 8)),.slice o i oc]) H (List.sublist_cons_self _ _) (fun r hr=>by simp [hr]) rfl ?_
  intro p hp
  obtain ⟨_,hp⟩:=gd_some hp
  rw [hU2 (by omega),show (xs.length - 12) / 8=i by omega] at hp
  cases h5:entryL i (xs.drop 12) with
  | none=>rw [h5] at hp;cases hp
  | some l=>
   rw [h5] at hp
   simp only at hp
   split at hp
   ·cases hp
   ·cases hp
    rw [entryL_ents _ _ _ h5]
    exact fun G h=>dc (.one _) (dc (.one _) (dc (h (.deep [_] [_]) ms).head dn))
theorem c151 {F:Fr} {w:World} {ex:List Ex} {ro:List Ro} {xs:List Int} {a:Option Addr} {n c:Nat} (H:Sat F w ex ro) (hx:Ro.B xs a n c∈ro) (hb:By xs) (hn:8<=n) :
  Calls pg 151 #[.slice a n c] w fun en w'=>en=.returned (.int .u64 (n64 xs))/\Sat F w' ex ro:=by
 apply of151
 obtain ⟨p_1,ep_1,hp_1,kp_1,fp_1⟩:=H.at_ (a:=a) hx (by omega)
 refine ⟨p_1,ep_1,by omega,by omega,?_⟩
 refine ⟨_,hp_1 7 (by omega),?_⟩
 refine ⟨by omega,by omega,?_⟩
 clear ep_1 hp_1 kp_1 fp_1
 replace H:=H.drew;generalize w.drew=w at H ⊢
 refine call_j (c150 (Sat.rd H hx) hb (by omega)) ?_
 rintro _ w ⟨rfl,g⟩
 replace H:=H.grow g;clear g
 refine ⟨_,rfl,?_⟩
 refine call_j (c150 (Rd.skip (Sat.rd H hx) _ (by omega)) (hb.drop 4) (by omega)) ?_
 rintro _ w ⟨rfl,g⟩
 replace H:=H.grow g;clear g
 refine ⟨_,rfl,?_,H⟩
 have h1:=n32_lt hb
 have h2:=n32_lt (hb.drop 4)
 have e:ior .u64 (ishl .u64 (IntKind.u64.wrap (n32 xs)) (32:Int)) (IntKind.u64.wrap (n32 (xs.drop 4)))=n64 xs:=by
  rw [ishl_of (b:=(32:Int)) 32 (by rfl) (by decide),wu64,wu64,wu64,show n32 xs % 18446744073709551616*2 ^ 32 % 18446744073709551616=n32 xs*4294967296 by omega,show n32 (xs.drop 4) % 18446744073709551616=n32 (xs.drop 4) by omega]
  rw [ior_add (k:=.u64) (by rfl) 32 (n32 xs) (by rfl) h1.1 h2.1 (by omega) (by simp only [IntKind.bits];omega)]
  rfl
 rw [e]
def repV (ys:List Int):List Value:=[.int .u32 (n32 ys),.int .u8 (ys.getD 4 0),.int .u32 (n24 (ys.drop 5)),.int .u32 (n32 (ys.drop 8)),.int .u32 (n32 (ys.drop 12)),.int .u32 (n32 (ys.drop 16)),.int .u32 (n32 (ys.drop 20))]
theorem c152 {P:Prop} {F:Fr} {w:World} {ex:List Ex} {ro:List Ro} {ys:List Int} {a:Option Addr} {n c:Nat} {b:Nat} {T:TypeId} {c0 c1 c2 c3 c4 c5 c6:Value} (H:Sat F w (.blk b T [c0,c1,c2,c3,c4,c5,c6]::ex) ro)
  (hx:Ro.B ys a n c∈ro) (hb:By ys) (hE:ErrC P ro):Calls pg 152 #[.pointer (some ⟨b,0,none⟩),.slice a n c] w fun en w'=>
   (n < 24/\∃e,en=.returned e/\isIf e/\isNilI e=false/\Sat F w' (.blk b T [c0,c1,c2,c3,c4,c5,c6]::ex) ro)\/(24<=n/\en=.returned .nilIface/\Sat F w' (.blk b T (repV ys)::ex) ro):=by
 apply of152
 have hlen:=H.lenB hx
 refine ⟨fun hc=>?_,fun hc=>?_⟩
 ·rw [decide_eq_true_eq] at hc
  obtain ⟨v,h1,h2,h3⟩:=hE.laid 1 (by decide)
  exact ⟨v,H.cell h1 rfl,.inl ⟨by omega,v,rfl,h2,h3 (by decide),H⟩⟩
 rw [decide_eq_false_iff_not] at hc
 refine call_j (c150 (Sat.rd H hx) hb (by omega)) ?_
 rintro _ w ⟨rfl,g⟩
 replace H:=H.grow g;clear g
 refine ⟨_,rfl,?_⟩
 refine ⟨_,rfl,?_⟩
 refine sSt0 H (by exact add_flat _ _ _) (by kernel_rfl) (by rfl) (by rfl) ?_;clear H;intro w _ H
 obtain ⟨p_6,ep_6,hp_6,kp_6,fp_6⟩:=H.at_ (a:=a) hx (by omega)
 refine ⟨p_6,ep_6,by omega,by omega,?_⟩
 refine ⟨_,hp_6 4 (by omega),?_⟩
 refine ⟨_,rfl,?_⟩
 clear ep_6 hp_6 kp_6 fp_6
 refine sSt0 H (by exact add_flat _ _ _) (by kernel_rfl) (by rfl) (by rfl) ?_;clear H;intro w _ H
 refine ⟨by omega,by omega,?_⟩
 have H5:=H.skipB hx 5 (by omega)
 obtain ⟨p_10,ep_10,_,_,_⟩:=H5.at_ (a:=cutA a 5 c 1) ms (by omega)
 refine ⟨p_10,ep_10,by omega,by omega,?_⟩
 replace H:=H.drew;generalize w.drew=w at H ⊢
 replace H5:=H.skipB hx 5 (by omega)
 obtain ⟨p_11,ep_11,hp_10,_,_⟩:=H5.at_ (a:=cutA a 5 c 1) ms (by omega)
 rw [ep_10] at ep_11
 cases ep_11
 refine ⟨_,hp_10 2 (by omega),?_⟩
 refine ⟨p_10,ep_10,by omega,by omega,?_⟩
 refine ⟨_,hp_10 1 (by omega),?_⟩
 refine ⟨p_10,ep_10,by omega,by omega,?_⟩
 refine ⟨_,hp_10 0 (by omega),?_⟩
 have h0:=(hb.drop 5).getD 0
 have h1:=(hb.drop 5).getD 1
 have h2:=(hb.drop 5).getD 2
 have e24:ior .u32 (ior .u32 (IntKind.u32.wrap ((ys.drop 5).getD 2 0)) (ishl .u32 (IntKind.u32.wrap ((ys.drop 5).getD 1 0)) (8:Int))) (ishl .u32 (IntKind.u32.wrap ((ys.drop 5).getD 0 0)) (16:Int))=n24 (ys.drop 5):=by
  unfold n24
  generalize (ys.drop 5).getD 0 0=x at h0 ⊢
  generalize (ys.drop 5).getD 1 0=y at h1 ⊢
  generalize (ys.drop 5).getD 2 0=z at h2 ⊢
  rw [ishl_of (b:=(16:Int)) 16 (by rfl) (by decide),ishl_of (b:=(8:Int)) 8 (by rfl) (by decide),wu32,wu32,wu32,wu32,wu32]
  rw [show z % 4294967296=z by omega,show y % 4294967296*2 ^ 8 % 4294967296=y*256 by omega,show x % 4294967296*2 ^ 16 % 4294967296=x*65536 by omega]
  rw [ior_add' (k:=.u32) (by rfl) 8 y (a:=y*256) (b:=z) (by omega) h1.1 h2.1 (by omega) (by simp only [IntKind.bits];omega)]
  rw [ior_add' (k:=.u32) (by rfl) 16 x (a:=x*65536) (b:=y*256+z) (by omega) h0.1 (by omega) (by omega) (by simp only [IntKind.bits];omega)]
  omega
 rw [e24]
 refine ⟨_,rfl,?_⟩
 clear hp_10 ep_10 H5 e24
 refine sSt0 H (by exact add_flat _ _ _) (by kernel_rfl) (by rfl) (by rfl) ?_;clear H;intro w _ H
 refine ⟨by omega,by omega,?_⟩
 refine call_j (c150 (Rd.skip (Sat.rd H hx) _ (by omega)) (hb.drop 8) (by omega)) ?_
 rintro _ w ⟨rfl,g⟩
 replace H:=H.grow g;clear g
 refine ⟨_,rfl,?_⟩
 refine ⟨_,rfl,?_⟩
 refine sSt0 H (by exact add_flat _ _ _) (by kernel_rfl) (by rfl) (by rfl) ?_;clear H;intro w _ H
 refine ⟨by omega,by omega,?_⟩
 refine call_j (c150 (Rd.skip (Sat.rd H hx) _ (by omega)) (hb.drop 12) (by omega)) ?_
 rintro _ w ⟨rfl,g⟩
 replace H:=H.grow g;clear g
 refine ⟨_,rfl,?_⟩
 refine ⟨_,rfl,?_⟩
 refine sSt0 H (by exact add_flat _ _ _) (by kernel_rfl) (by rfl) (by rfl) ?_;clear H;intro w _ H
 refine ⟨by omega,by omega,?_⟩
 refine call_j (c150 (Rd.skip (Sat.rd H hx) _ (by omega)) (hb.drop 16) (by omega)) ?_
 rintro _ w ⟨rfl,g⟩
 replace H:=H.grow g;clear g
 refine ⟨_,rfl,?_⟩
 refine ⟨_,rfl,?_⟩
 refine sSt0 H (by exact add_flat _ _ _) (by kernel_rfl) (by rfl) (by rfl) ?_;clear H;intro w _ H
 refine ⟨by omega,by omega,?_⟩
 refine call_j (c150 (Rd.skip (Sat.rd H hx) _ (by omega)) (hb.drop 20) (by omega)) ?_
 rintro _ w ⟨rfl,g⟩
 replace H:=H.grow g;clear g
 refine ⟨_,rfl,?_⟩
 refine ⟨_,rfl,?_⟩
 refine sSt0 H (by exact add_flat _ _ _) (by kernel_rfl) (by rfl) (by rfl) ?_;clear H;intro w _ H
 exact .inr ⟨by omega,rfl,H⟩
theorem repV_take {ys:List Int} (m:Nat) (h:24<=m):repV (ys.take m)=repV ys:=by
 have hg:∀j,j < 24->(ys.take m).getD j 0=ys.getD j 0:=fun j hj=>getD_take (by omega)
 unfold repV n32 n24 n16
 simp only [getD_drop]
 rw [hg 0 (by decide),hg (0+1) (by decide)]
 simp only [Nat.reduceAdd]
 simp only [hg 1 (by decide),hg 2 (by decide),hg 3 (by decide),hg 4 (by decide),hg 5 (by decide),hg 6 (by decide),hg 7 (by decide),hg 8 (by decide),hg 9 (by decide),hg 10 (by decide),hg 11 (by decide),hg 12 (by decide),hg 13 (by decide),hg 14 (by decide),hg 15 (by decide),hg 16 (by decide),hg 17 (by decide),hg 18 (by decide),hg 19 (by decide),hg 20 (by decide),hg 21 (by decide),hg 22 (by decide),hg 23 (by decide)]
theorem repV_dat (ys:List Int):(repV ys).map .one=Rep.dat (rep1 ys):=rfl
theorem c143 {F:Fr} {w:World} {ex:List Ex} {ro:List Ro} {xs:List Int} {a:Option Addr} {n c:Nat} {b:Nat} {T:TypeId} {c0 c1 c2 c3 c4:Value} (H:Sat F w (.blk b T [c0,c1,c2,c3,c4,.slice none 0 0,.slice none 0 0]::ex) ro)
  (hx:Ro.B xs a n c∈ro) (hb:By xs) (hE:ErrC (gd xs=none) ro) (hd:Hd xs 200 (hC xs)) (hn:n<=1000000):Calls pg 143 #[.pointer (some ⟨b,0,none⟩),.slice a n c] w (UPost F b T 7 ex ro (gd xs)):=by
 apply of143
 have hlen:=H.lenB hx
 have hk:kindOf (hT xs) (hC xs)=1:=by rw [hd.typ];rfl
 have hU:rdBody xs=if (xs.drop 4).length < 24+24*(hC xs).toNat then none else some { kind:=1,sender:=n32 (xs.drop 4),ntp:=n64 ((xs.drop 4).drop 4),rtp:=n32 ((xs.drop 4).drop 12),packets:=n32 ((xs.drop 4).drop 16),octets:=n32 ((xs.drop 4).drop 20),reports:=reps (hC xs).toNat ((xs.drop 4).drop 24),ext:=((xs.drop 4).drop 24).drop (24*(hC xs).toNat) }:=by
  unfold rdBody;simp only [hk];rw [if_pos trivial]
 rw [List.length_drop] at hU
 have hCr:0<=hC xs/\hC xs < 32:=by unfold hC;omega
 obtain ⟨k,hk2⟩:∃k:Nat,hC xs=(k:Int):=⟨(hC xs).toNat,by omega⟩
 rw [hk2,Int.toNat_natCast] at hU
 refine ⟨fun hc=>?_,fun hc=>?_⟩
 ·rw [decide_eq_true_eq] at hc
  exact uErr H (List.Sublist.refl _) (fun _ h=>h) hE rfl (gd_none (by rw [hU,if_pos (by omega)])) (by decide)
 rw [decide_eq_false_iff_not] at hc
 refine sNew H ?_;clear H;intro b2 w _ H
 refine call_j (c55 H hx hb hd.ok) ?_
 rintro _ w ⟨rfl,H⟩
 refine ⟨_,rfl,by simp [isIf],fun h=>absurd h (by decide),fun _=>?_⟩
 refine ⟨_,(H.b0.at0 rfl),?_⟩
 rw [hd.typ]
 refine fF ?_
 refine ⟨by omega,by omega,?_⟩
 refine ⟨by omega,by omega,?_⟩
 have hro:∀r∈ro,r∈(Ro.B (xs.drop 4) (cutA a 4 c 1) (n - 4) (c - 4)::ro):=fun r h=>mt h
 replace H:=H.skipB hx 4 (by omega)
 have hy:By (xs.drop 4):=hb.drop 4
 have hyl:(xs.drop 4).length=n - 4:=by rw [List.length_drop,hlen]
 have hnc:n - 4<=c - 4:=(H.deep1 ms).len.2.1
 generalize hys:xs.drop 4=ys at H hU hro hy hyl
 refine call_j (c150 (Rd.skip (Sat.rd H ms) 0 (by omega)) (hy.drop 0) (by omega)) ?_
 rintro _ w ⟨rfl,g⟩
 replace H:=H.grow g;clear g
 rw [List.drop_zero]
 refine ⟨_,rfl,?_⟩
 refine ⟨_,rfl,?_⟩
 refine sSt1 H (by exact add_flat _ _ _) (by kernel_rfl) (by rfl) (by rfl) ?_;clear H;intro w _ H
 refine ⟨by omega,by omega,?_⟩
 have H1:=H.skipB ms 4 (by omega)
 refine call_j (c151 H1 ms (hy.drop 4) (by omega)) ?_
 clear H1
 rintro _ w ⟨rfl,H1⟩
 replace H:=H1.sub (List.Sublist.refl _) (fun r h=>mt h)
 clear H1
 refine ⟨_,rfl,?_⟩
 refine ⟨_,rfl,?_⟩
 refine sSt1 H (by exact add_flat _ _ _) (by kernel_rfl) (by rfl) (by rfl) ?_;clear H;intro w _ H
 refine ⟨by omega,by omega,?_⟩
 refine call_j (c150 (Rd.skip (Sat.rd H ms) _ (by omega)) (hy.drop 12) (by omega)) ?_
 rintro _ w ⟨rfl,g⟩
 replace H:=H.grow g;clear g
 refine ⟨_,rfl,?_⟩
 refine ⟨_,rfl,?_⟩
 refine sSt1 H (by exact add_flat _ _ _) (by kernel_rfl) (by rfl) (by rfl) ?_;clear H;intro w _ H
 refine ⟨by omega,by omega,?_⟩
 refine call_j (c150 (Rd.skip (Sat.rd H ms) _ (by omega)) (hy.drop 16) (by omega)) ?_
 rintro _ w ⟨rfl,g⟩
 replace H:=H.grow g;clear g
 refine ⟨_,rfl,?_⟩
 refine ⟨_,rfl,?_⟩
 refine sSt1 H (by exact add_flat _ _ _) (by kernel_rfl) (by rfl) (by rfl) ?_;clear H;intro w _ H
 refine ⟨by omega,by omega,?_⟩
 refine call_j (c150 (Rd.skip (Sat.rd H ms) _ (by omega)) (hy.drop 20) (by omega)) ?_
 rintro _ w ⟨rfl,g⟩
 replace H:=H.grow g;clear g
 refine ⟨_,rfl,?_⟩
 refine ⟨_,rfl,?_⟩
 refine sSt1 H (by exact add_flat _ _ _) (by kernel_rfl) (by rfl) (by rfl) ?_;clear H;intro w _ H
 rw [hk2] at H
 refine ⟨fun off i35 m_30 w=>∃(i:Nat) (o:Option Addr) (oc:Nat) (r:Option Nat),i35=(i:Int)/\off=((24+24*i:Nat):Int)/\i+m_30=k/\24+24*i<=n - 4 /\
  Sat F w (.blk b2 109 [.bool (hP xs),.int .u8 (k:Int),.int .u8 (hT xs),.int .u16 (hL xs)]::.blk b T [.int .u32 (n32 ys),.int .u64 (n64 (ys.drop 4)),.int .u32 (n32 (ys.drop 12)),.int .u32 (n32 (ys.drop 16)),.int .u32 (n32 (ys.drop 20)),.slice o i oc,.slice none 0 0]::.own 275 7 o i oc r ((reps i (ys.drop 24)).flatMap Rep.dat)::ex) (Ro.B ys (cutA a 4 c 1) (n - 4) (c - 4)::ro),⟨k,0,none,0,none,rfl,rfl,by omega,by omega,(H.nilOwn 275 7).u2⟩,?_⟩
 clear H;rintro dd29 off i35 m_30 w ⟨i,o,oc,r,rfl,rfl,him,hio,H⟩
 refine ⟨_,(H.b0.at0 rfl),?_⟩
 rw [wi64_of (n:=(k:Int)) (by omega) (by omega)]
 refine ⟨fun h=>?_,fun h=>?_⟩
 ·rw [decide_eq_true_eq] at h
  rw [wi64_of (n:=((24+24*i:Nat):Int)+24) (by omega) (by omega)]
  refine ⟨fun h2=>?_,fun h2=>?_⟩
  ·rw [decide_eq_true_eq] at h2
   exact uErr H (by exact List.Sublist.cons _ (List.Sublist.cons_cons _ (List.sublist_cons_self _ _))) hro hE (by rfl) (gd_none (by rw [hU,if_pos (by omega)])) (by decide)
  rw [decide_eq_false_iff_not] at h2
  rw [show (((24+24*i:Nat):Int)+24).toNat=48+24*i by omega,Int.toNat_natCast,show 48+24*i - (24+24*i)=24 by omega]
  refine ⟨by omega,by omega,?_⟩
  refine ⟨by omega,by omega,?_⟩
  replace H:=H.cutB ms (24+24*i) (48+24*i) (by omega) (by omega)
  rw [show 48+24*i - (24+24*i)=24 by omega] at H
  refine sNew H ?_;clear H;intro b38 w _ H
  refine call_j (c152 H ms ((hy.drop _).take _) (hE.mono (fun r h=>mt (hro r h)))) ?_
  clear H
  rintro en w (⟨hbad,_⟩ | ⟨_,rfl,H⟩)
  ·omega
  rw [repV_take 24 (Nat.le_refl _)] at H
  refine ⟨_,rfl,by simp [isIf],fun h=>absurd h (by decide),fun _=>?_⟩
  refine ⟨r,?_⟩;replace H:=H.drew;generalize w.drew=wd1 at H ⊢;have K:=grew_refl wd1 (r)
  refine ⟨_,rfl,?_⟩
  refine ⟨(H.ne (mt (mt ms)) (mt (mt (mt ms)))),?_⟩
  refine ⟨H.b2.row,?_⟩
  refine ⟨_,_,_,(H.b2.at0 rfl),?_⟩
  refine ⟨(H.ne ms (mt (mt (mt ms)))),?_⟩
  refine ⟨H.b0.row,?_⟩
  refine ⟨_,_,_,_,_,_,_,H.b0.ld,?_⟩
  refine ⟨rfl,?_⟩
  refine sNew H ?_;clear H;intro b52 w g H;replace K:=gtr K (grew_none _ g);clear g
  refine ⟨K,?_⟩
  refine sApp4 H (bytes:=28) (by kernel_rfl) (repV (ys.drop (24+24*i))) (Rep.dat (rep1 (ys.drop (24+24*i)))) (by rfl) (fun j u hu=>by rw [add_flat,Nat.zero_add];exact H.b0.cell hu) (fun G h=>by rw [<-repV_dat];exact DeepL.ones _) (by simp [Value.oneCell',repV]) (by unfold maxLen;omega) (by omega) ?_
  clear H;intro x54 x54l x54c x54r w ex54 g H
  replace K:=gtr K g;clear g;replace H:=H.d1
  refine ⟨K,?_⟩
  refine ⟨_,rfl,?_⟩
  refine sSt2 H (by exact add_flat _ _ _) (by kernel_rfl) (by rfl) (by rfl) ?_;clear H;intro w _ H
  subst ex54
  refine ⟨m_30 - 1,by omega,i+1,x54,x54c,x54r,?_,?_,by omega,by omega,?_⟩
  ·rw [wi64_of (by omega) (by omega)];simp
  ·omega
  ·rw [reps_snoc,List.flatMap_append,List.drop_drop]
   simp only [List.flatMap_cons,List.flatMap_nil,List.append_nil]
   exact H.sub (List.sublist_cons_self _ _) (fun r hr=>mt hr)
 ·rw [decide_eq_false_iff_not] at h
  obtain rfl:i=k:=by omega
  replace H:=H.r2.freeze
  have hU3:rdBody xs=some { kind:=1,sender:=n32 ys,ntp:=n64 (ys.drop 4),rtp:=n32 (ys.drop 12),packets:=n32 (ys.drop 16),octets:=n32 (ys.drop 20),reports:=reps i (ys.drop 24),ext:=(ys.drop 24).drop (24*i) }:=by rw [hU,if_neg (by omega)]
  refine ⟨fun h2=>?_,fun h2=>?_⟩
  ·rw [decide_eq_true_eq] at h2
   rw [Int.toNat_natCast]
   refine ⟨by omega,by omega,?_⟩
   refine ⟨_,rfl,?_⟩
   refine sSt1 H (by exact add_flat _ _ _) (by kernel_rfl) (by rfl) (by rfl) ?_;clear H;intro w _ H
   refine ⟨_,rfl,?_⟩
   replace H:=H.drew;generalize w.drew=w at H ⊢
   refine ⟨_,_,_,(H.b1.at0 rfl),?_⟩
   refine ⟨_,(H.b0.at0 rfl),?_⟩
   rw [wu8,show ((i:Nat):Int) % 256=(i:Int) by omega]
   refine ⟨fun h3=>absurd h3 (by simp),fun _=>?_⟩
   have H2:=H.skipB (xs:=ys) (a:=cutA a 4 c 1) (n:=n - 4) (c:=c - 4) (by simp) (24+24*i) (by omega)
   refine uOk (cells:=[.int .u32 (n32 ys),.int .u64 (n64 (ys.drop 4)),.int .u32 (n32 (ys.drop 12)),.int .u32 (n32 (ys.drop 16)),.int .u32 (n32 (ys.drop 20)),.slice o i oc,.slice (cutA (cutA a 4 c 1) (24+24*i) (c - 4) 1) (n - 4 - (24+24*i)) (c - 4 - (24+24*i))]) H2 (List.sublist_cons_self _ _) (fun r hr=>by simp [hr]) rfl ?_
   intro p hp
   obtain ⟨_,hp⟩:=gd_some hp
   rw [hU3] at hp
   cases hp
   intro G h
   have h1:=(h (.deep [_] [_]) ms).head
   have h2:=(h (.deep [_] [_]) (mt ms)).head
   refine dc (.one _) (dc (.one _) (dc (.one _) (dc (.one _) (dc (.one _) (dc h2 (dc ?_ dn))))))
   show Deep w G (.row 1 (ob ((ys.drop 24).drop (24*i)))) _
   rw [List.drop_drop]
   exact h1
  ·rw [decide_eq_false_iff_not] at h2
   refine ⟨_,rfl,?_⟩
   replace H:=H.drew;generalize w.drew=w at H ⊢
   refine ⟨_,_,_,(H.b1.at0 rfl),?_⟩
   refine ⟨_,(H.b0.at0 rfl),?_⟩
   rw [wu8,show ((i:Nat):Int) % 256=(i:Int) by omega]
   refine ⟨fun h3=>absurd h3 (by simp),fun _=>?_⟩
   refine uOk (cells:=[.int .u32 (n32 ys),.int .u64 (n64 (ys.drop 4)),.int .u32 (n32 (ys.drop 12)),.int .u32 (n32 (ys.drop 16)),.int .u32 (n32 (ys.drop 20)),.slice o i oc,.slice none 0 0]) H (List.sublist_cons_self _ _) (fun r hr=>by simp [hr]) rfl ?_
   intro p hp
   obtain ⟨_,hp⟩:=gd_some hp
   rw [hU3] at hp
   cases hp
   intro G h
   have h2':=(h (.deep [_] [_]) ms).head
   refine dc (.one _) (dc (.one _) (dc (.one _) (dc (.one _) (dc (.one _) (dc h2' (dc ?_ dn))))))
   have e0:ys.drop (24+24*i)=[]:=List.drop_of_length_le (by omega)
   show Deep w G (.row 1 (ob ((ys.drop 24).drop (24*i)))) _
   rw [List.drop_drop,e0]
   exact .emp _ _
theorem c156 {F:Fr} {w:World} {ex:List Ex} {ro:List Ro} {xs:List Int} {a:Option Addr} {n c:Nat} {b:Nat} {T:TypeId} {c0:Value} (H:Sat F w (.blk b T [c0,.slice none 0 0,.slice none 0 0]::ex) ro)
  (hx:Ro.B xs a n c∈ro) (hb:By xs) (hE:ErrC (gd xs=none) ro) (hd:Hd xs 201 (hC xs)) (hn:n<=1000000):Calls pg 156 #[.pointer (some ⟨b,0,none⟩),.slice a n c] w (UPost F b T 3 ex ro (gd xs)):=by
 apply of156
 have hlen:=H.lenB hx
 have hk:kindOf (hT xs) (hC xs)=2:=by rw [hd.typ];rfl
 have hU:rdBody xs=if (xs.drop 4).length < 4+24*(hC xs).toNat then none else some { kind:=2,sender:=n32 (xs.drop 4),reports:=reps (hC xs).toNat ((xs.drop 4).drop 4),ext:=((xs.drop 4).drop 4).drop (24*(hC xs).toNat) }:=by
  unfold rdBody;simp only [hk];rw [if_neg (by decide),if_pos trivial]
 rw [List.length_drop,List.drop_drop] at hU
 have hCr:0<=hC xs/\hC xs < 32:=by unfold hC;omega
 obtain ⟨k,hk2⟩:∃k:Nat,hC xs=(k:Int):=⟨(hC xs).toNat,by omega⟩
 rw [hk2,Int.toNat_natCast] at hU
 have hnc:n<=c:=(H.deep1 hx).len.2.1
 refine ⟨fun hc=>?_,fun hc=>?_⟩
 ·rw [decide_eq_true_eq] at hc
  exact uErr H (List.Sublist.refl _) (fun _ h=>h) hE rfl (gd_none (by rw [hU,if_pos (by omega)])) (by decide)
 rw [decide_eq_false_iff_not] at hc
 refine sNew H ?_;clear H;intro b2 w _ H
 refine call_j (c55 H hx hb hd.ok) ?_
 rintro _ w ⟨rfl,H⟩
 refine ⟨_,rfl,by simp [isIf],fun h=>absurd h (by decide),fun _=>?_⟩
 refine ⟨_,(H.b0.at0 rfl),?_⟩
 rw [hd.typ]
 refine fF ?_
 refine ⟨by omega,by omega,?_⟩
 refine call_j (c150 (Rd.skip (Sat.rd H hx) _ (by omega)) (hb.drop 4) (by omega)) ?_
 rintro _ w ⟨rfl,g⟩
 replace H:=H.grow g;clear g
 refine ⟨_,rfl,?_⟩
 refine ⟨_,rfl,?_⟩
 refine sSt1 H (by exact add_flat _ _ _) (by kernel_rfl) (by rfl) (by rfl) ?_;clear H;intro w _ H
 rw [hk2] at H

 have hend:∀(w:World) (i:Nat) (o:Option Addr) (oc:Nat) (r:Option Nat),i<=k->8+24*i<=n->(i < k->n < 8+24*k) ->
   Sat F w (.blk b2 109 [.bool (hP xs),.int .u8 (k:Int),.int .u8 (hT xs),.int .u16 (hL xs)]::.blk b T [.int .u32 (n32 (xs.drop 4)),.slice o i oc,.slice (cutA a (8+24*i) c 1) (n - (8+24*i)) (c - (8+24*i))]::.own 275 7 o i oc r ((reps i (xs.drop 8)).flatMap Rep.dat)::ex) ro ->
   (((IntKind.u8.wrap ((i:Nat):Int)) != (k:Int))=true->∃x,w.cell? ⟨0,0,none⟩=some x/\UPost F b T 3 ex ro (gd xs) (.returned x) w) /\
   (((IntKind.u8.wrap ((i:Nat):Int)) != (k:Int))=false->UPost F b T 3 ex ro (gd xs) (.returned .nilIface) w):=by
  intro w i o oc r hik hin hshort H
  rw [wu8,show ((i:Nat):Int) % 256=(i:Int) by omega]
  refine ⟨fun h=>?_,fun h=>?_⟩
  ·have hne:¬(i:Int)=(k:Int):=by simpa using h
   exact uErr H (by exact List.Sublist.cons _ (List.Sublist.cons_cons _ (List.sublist_cons_self _ _))) (fun _ h=>h) hE (by rfl) (gd_none (by rw [hU,if_pos (by have:=hshort (by omega);omega)])) (by decide)
  ·have he:(i:Int)=(k:Int):=by simpa using h
   obtain rfl:i=k:=by omega
   have H1:=(H.r2.freeze).skipB (xs:=xs) (a:=a) (n:=n) (c:=c) (by simp [hx]) (8+24*i) (by omega)
   refine uOk (cells:=[.int .u32 (n32 (xs.drop 4)),.slice o i oc,.slice (cutA a (8+24*i) c 1) (n - (8+24*i)) (c - (8+24*i))]) H1 (List.sublist_cons_self _ _) (fun r hr=>by simp [hr]) rfl ?_
   intro p hp
   obtain ⟨_,hp⟩:=gd_some hp
   rw [hU,if_neg (by omega)] at hp
   cases hp
   intro G h
   have h1:=(h (.deep [_] [_]) ms).head
   have h2:=(h (.deep [_] [_]) (mt ms)).head
   refine dc (.one _) (dc h2 (dc ?_ dn))
   show Deep w G (.row 1 (ob ((xs.drop 8).drop (24*i)))) _
   rw [List.drop_drop]
   exact h1
 refine ⟨fun i18 m_14 w=>∃(i:Nat) (o:Option Addr) (oc:Nat) (r:Option Nat),i18=((8+24*i:Nat):Int)/\i+m_14=k/\8+24*i<=n /\
  Sat F w (.blk b2 109 [.bool (hP xs),.int .u8 (k:Int),.int .u8 (hT xs),.int .u16 (hL xs)]::.blk b T [.int .u32 (n32 (xs.drop 4)),.slice o i oc,.slice none 0 0]::.own 275 7 o i oc r ((reps i (xs.drop 8)).flatMap Rep.dat)::ex) ro,⟨k,0,none,0,none,rfl,by omega,by omega,(H.nilOwn 275 7).u2⟩,?_⟩
 clear H;rintro dd13 i18 m_14 w ⟨i,o,oc,r,rfl,him,hio,H⟩
 have eoff:IntKind.i64.wrap ((8:Int)+(IntKind.i64.wrap (((i:Nat):Int)*(24:Int))))=((8+24*i:Nat):Int):=by rw [wi64_of (n:=(i:Int)*24) (by omega) (by omega),wi64_of (by omega) (by omega)];omega
 refine ⟨fun h=>?_,fun h=>?_⟩
 ·rw [decide_eq_true_eq] at h
  refine ⟨_,rfl,?_⟩
  replace H:=H.drew;generalize w.drew=w at H ⊢
  refine ⟨_,_,_,(H.b1.at0 rfl),?_⟩
  refine ⟨_,(H.b0.at0 rfl),?_⟩
  rw [wi64_of (n:=(k:Int)) (by omega) (by omega)]
  refine ⟨fun h2=>?_,fun h2=>?_⟩
  ·rw [decide_eq_true_eq] at h2
   refine sNew H ?_;clear H;intro b22 w _ H
   rw [Int.toNat_natCast]
   refine ⟨by omega,by omega,?_⟩
   have H1:=H.skipB hx (8+24*i) (by omega)
   refine call_j (c152 H1 ms (hb.drop _) (hE.mono (fun r h=>mt h))) ?_
   clear H H1
   rintro en w (⟨hbad,e,rfl,he1,he2,H⟩ | ⟨hgood,rfl,H⟩)
   ·refine ⟨_,rfl,he1,fun _=>?_,fun h=>by rw [he2] at h;cases h⟩
    refine ⟨e,[.int .u32 (n32 (xs.drop 4)),.slice o i oc,.slice none 0 0],ro,rfl,he1,fun _ h=>h,rfl,H.sub ?_ (fun r hr=>mt hr),?_⟩
    ·exact List.Sublist.cons _ (List.Sublist.cons _ (List.Sublist.cons_cons _ (List.sublist_cons_self _ _)))
    ·intro p hp
     obtain ⟨_,hp⟩:=gd_some hp
     rw [hU,if_pos (by omega)] at hp
     cases hp
   refine ⟨_,rfl,by simp [isIf],fun h=>absurd h (by decide),fun _=>?_⟩
   refine ⟨r,?_⟩;replace H:=H.drew;generalize w.drew=wd2 at H ⊢;have K:=grew_refl wd2 (r)
   refine ⟨_,rfl,?_⟩
   refine ⟨(H.ne (mt (mt ms)) (mt (mt (mt ms)))),?_⟩
   refine ⟨H.b2.row,?_⟩
   refine ⟨_,_,_,(H.b2.at0 rfl),?_⟩
   refine ⟨(H.ne ms (mt (mt (mt ms)))),?_⟩
   refine ⟨H.b0.row,?_⟩
   refine ⟨_,_,_,_,_,_,_,H.b0.ld,?_⟩
   refine ⟨rfl,?_⟩
   refine sNew H ?_;clear H;intro b36 w g H;replace K:=gtr K (grew_none _ g);clear g
   refine ⟨K,?_⟩
   refine sApp4 H (bytes:=28) (by kernel_rfl) (repV (xs.drop (8+24*i))) (Rep.dat (rep1 (xs.drop (8+24*i)))) (by rfl) (fun j u hu=>by rw [add_flat,Nat.zero_add];exact H.b0.cell hu) (fun G h=>by rw [<-repV_dat];exact DeepL.ones _) (by simp [Value.oneCell',repV]) (by unfold maxLen;omega) (by omega) ?_
   clear H;intro x38 x38l x38c x38r w ex38 g H
   replace K:=gtr K g;clear g;replace H:=H.d1
   refine ⟨K,?_⟩
   refine ⟨_,rfl,?_⟩
   refine sSt2 H (by exact add_flat _ _ _) (by kernel_rfl) (by rfl) (by rfl) ?_;clear H;intro w _ H
   subst ex38
   refine ⟨m_14 - 1,by omega,i+1,x38,x38c,x38r,?_,by omega,by omega,?_⟩
   ·rw [wi64_of (by omega) (by omega)];omega
   ·rw [reps_snoc,List.flatMap_append,List.drop_drop]
    simp only [List.flatMap_cons,List.flatMap_nil,List.append_nil]
    exact H.sub (List.sublist_cons_self _ _) (fun r hr=>mt hr)
  ·rw [decide_eq_false_iff_not] at h2
   refine ⟨_,rfl,?_⟩
   refine ⟨_,_,_,(H.b1.at0 rfl),?_⟩
   rw [eoff,Int.toNat_natCast]
   refine ⟨by omega,by omega,?_⟩
   refine ⟨_,rfl,?_⟩
   refine sSt1 H (by exact add_flat _ _ _) (by kernel_rfl) (by rfl) (by rfl) ?_;clear H;intro w _ H
   refine ⟨_,rfl,?_⟩
   replace H:=H.drew;generalize w.drew=w at H ⊢
   refine ⟨_,_,_,(H.b1.at0 rfl),?_⟩
   refine ⟨_,(H.b0.at0 rfl),?_⟩
   exact hend w i o oc r (by omega) hio (fun h=>by omega) H
 ·rw [decide_eq_false_iff_not] at h
  refine ⟨_,rfl,?_⟩
  replace H:=H.drew;generalize w.drew=w at H ⊢
  refine ⟨_,_,_,(H.b1.at0 rfl),?_⟩
  rw [eoff,Int.toNat_natCast]
  refine ⟨by omega,by omega,?_⟩
  refine ⟨_,rfl,?_⟩
  refine sSt1 H (by exact add_flat _ _ _) (by kernel_rfl) (by rfl) (by rfl) ?_;clear H;intro w _ H
  refine ⟨_,rfl,?_⟩
  replace H:=H.drew;generalize w.drew=w at H ⊢
  refine ⟨_,_,_,(H.b1.at0 rfl),?_⟩
  refine ⟨_,(H.b0.at0 rfl),?_⟩
  exact hend w i o oc r (by omega) hio (fun h=>by omega) H
theorem n32_takem {ys:List Int} {m:Nat} (h:4<=m):n32 (ys.take m)=n32 ys:=by
 unfold n32 n16
 rw [getD_drop,getD_drop,getD_drop,getD_drop,getD_take (by omega),getD_take (by omega),getD_take (by omega),getD_take (by omega)]
theorem c248 {F:Fr} {w:World} {ex:List Ex} {ro:List Ro} {xs:List Int} {a:Option Addr} {n c:Nat} {b:Nat} {T:TypeId} {c0:Value} (H:Sat F w (.blk b T [c0]::ex) ro)
  (hx:Ro.B xs a n c∈ro) (hb:By xs) (hok:hdrOk xs=true):Calls pg 248 #[.pointer (some ⟨b,0,none⟩),.slice a n c] w fun en w'=>en=.returned .nilIface/\Sat F w' (.blk b T [.slice a n c]::ex) ro:=by
 apply of248
 have hlen:=H.lenB hx
 have h4:4<=xs.length:=by
  simp only [hdrOk,Bool.and_eq_true,decide_eq_true_eq] at hok
  exact hok.1
 refine ⟨fun hc=>?_,fun hc=>?_⟩
 ·rw [decide_eq_true_eq] at hc;omega
 refine ⟨_,rfl,?_⟩
 refine sSt0 H (by rfl) (by kernel_rfl) (by rfl) (by rfl) ?_;clear H;intro w _ H
 refine sNew H ?_;clear H;intro b4 w _ H
 refine call_j (c55 H hx hb hok) ?_
 rintro _ w ⟨rfl,H⟩
 refine ⟨_,rfl,?_⟩
 exact ⟨rfl,H.d1⟩
theorem c177 {F:Fr} {w:World} {ex:List Ex} {ro:List Ro} {xs:List Int} {a:Option Addr} {n c:Nat} {b:Nat} {T:TypeId} {c0 c1 c2 c3:Value} (H:Sat F w (.blk b T [c0,c1,c2,c3]::ex) ro)
  (hx:Ro.B xs a n c∈ro) (hb:By xs) (hE:ErrC (gd xs=none) ro) (hd:Hd xs 204 (hC xs)) (hn:n<=1000000):Calls pg 177 #[.pointer (some ⟨b,0,none⟩),.slice a n c] w (UPost F b T 4 ex ro (gd xs)):=by
 apply of177
 have hlen:=H.lenB hx
 have hk:kindOf (hT xs) (hC xs)=5:=by rw [hd.typ];rfl
 have hU:rdBody xs=if (xs.drop 4).length < 8 then none else some { kind:=5,sender:=n32 (xs.drop 4),text:=strOfNums (((xs.drop 4).drop 4).take 4),sub:=hC xs,data:=(xs.drop 4).drop 8 }:=by
  unfold rdBody;simp only [hk];rw [if_neg (by decide),if_neg (by decide),if_neg (by decide),if_neg (by decide),if_pos trivial]
 rw [List.length_drop,List.drop_drop,List.drop_drop] at hU
 have hLn:=hd.len
 rw [hlen] at hLn
 have hnc:n<=c:=(H.deep1 hx).len.2.1
 refine sNew H ?_;clear H;intro b1 w _ H
 refine sSw0 H rfl (by kernel_rfl) (by rfl) (by rfl) ?_;clear H;intro w _ H
 refine call_j (c55 H hx hb hd.ok) ?_
 rintro _ w ⟨rfl,H⟩
 refine ⟨_,rfl,by simp [isIf],fun h=>absurd h (by decide),fun _=>?_⟩
 refine ⟨fun hc=>?_,fun hc=>?_⟩
 ·rw [decide_eq_true_eq] at hc
  exact uErr H (List.sublist_cons_self _ _) (fun _ h=>h) hE rfl (gd_none (by rw [hU,if_pos (by omega)])) (by decide)
 rw [decide_eq_false_iff_not] at hc
 refine ⟨_,(H.b0.at0 rfl),?_⟩
 rw [wi64_of (n:=hL xs) (by omega) (by omega),wi64_of (n:=hL xs+1) (by omega) (by omega),wi64_of (n:=(hL xs+1)*4) (by omega) (by omega),show (hL xs+1)*4=(n:Int) by omega]
 refine ⟨fun h=>absurd h (by simp),fun _=>?_⟩
 refine ⟨_,(H.b0.at0 rfl),?_⟩
 refine ⟨_,rfl,?_⟩
 refine sSt1 H (by exact add_flat _ _ _) (by kernel_rfl) (by rfl) (by rfl) ?_;clear H;intro w _ H
 refine ⟨by omega,by omega,?_⟩
 refine ⟨by omega,by omega,?_⟩
 have H4:=H.cutB hx 4 8 (by omega) (by omega)
 refine call_j (c150 (Sat.rd H4 ms) ((hb.drop 4).take _) (by omega)) ?_
 clear H4
 rintro _ w ⟨rfl,g⟩
 have e32:n32 ((xs.drop 4).take (8 - 4))=n32 (xs.drop 4):=n32_takem (by decide)
 rw [e32]
 replace H:=H.grow g;clear g
 refine ⟨_,rfl,?_⟩
 refine ⟨_,rfl,?_⟩
 refine sSt1 H (by exact add_flat _ _ _) (by kernel_rfl) (by rfl) (by rfl) ?_;clear H;intro w _ H
 refine ⟨by omega,by omega,?_⟩
 refine ⟨by omega,by omega,?_⟩
 have H8:=H.cutB hx 8 12 (by omega) (by omega)
 refine ⟨_,_,sStr H8 ms uSl uU8 uStr,?_⟩
 clear H8
 refine ⟨_,rfl,?_⟩
 refine sSt1 H (by exact add_flat _ _ _) (by kernel_rfl) (by rfl) (by rfl) ?_;clear H;intro w _ H
 refine ⟨_,(H.b0.at0 rfl),?_⟩
 have hrest:∀pd:Nat,pd<=n - 12->(pd=0\/hP xs=true)->∃p_24,some (⟨b,0,none⟩:Addr)=some p_24/\∃w_25,StV pg 22 (p_24.add 3) (.slice (cutA a 12 c 1) (n - pd - 12) (c - 12)) w w_25/\UPost F b T 4 ex ro (gd xs) (.returned .nilIface) w_25:=by
  intro pd hpd hpz
  have hnn:(n - pd) - 12=n - pd - 12:=rfl
  refine ⟨_,rfl,?_⟩
  refine sSt1 H (by exact add_flat _ _ _) (by kernel_rfl) (by rfl) (by rfl) ?_;clear H;intro w _ H
  have H2:=H.cutB hx 12 (n - pd) (by omega) (by omega)
  refine uOk (cells:=[.int .u8 (hC xs),.int .u32 (n32 (xs.drop 4)),.string (strOfNums ((xs.drop 8).take (12 - 8))),.slice (cutA a 12 c 1) (n - pd - 12) (c - 12)]) H2 (List.sublist_cons_self _ _) (fun r hr=>by simp [hr]) rfl ?_
  intro p hp
  obtain ⟨hpf,hp⟩:=gd_some hp
  rw [hU,if_neg (by omega)] at hp
  cases hp
  have hp0:pd=0:=by
   rcases hpz with h | h
   ·exact h
   ·rw [hpf] at h;cases h
  subst hp0
  intro G h
  have h1:=(h (.deep [_] [_]) ms).head
  refine dc (.one _) (dc (.one _) (dc (.one _) (dc ?_ dn)))
  have et:(xs.drop 12).take (n - 0 - 12)=xs.drop 12:=List.take_of_length_le (by rw [List.length_drop];omega)
  rw [et] at h1
  exact h1
 cases hpp:hP xs with
 | true=>
  rw [hpp] at H hrest
  refine fT ?_
  have e1:IntKind.i64.wrap (((n:Nat):Int) - (1:Int))=((n - 1:Nat):Int):=by rw [wi64_of (by omega) (by omega)];omega
  have e12:IntKind.i64.wrap (((n:Nat):Int) - (12:Int))=((n - 12:Nat):Int):=by rw [wi64_of (by omega) (by omega)];omega
  rw [e1]
  obtain ⟨p_21,ep_21,hp_21,_,_⟩:=H.at_ (a:=a) hx (by omega)
  refine ⟨p_21,ep_21,by omega,by omega,?_⟩
  refine ⟨_,(by rw [Int.toNat_natCast,Nat.mul_one];exact hp_21 (n - 1) (by omega)),?_⟩
  have hl:=hb.getD (n - 1)
  generalize xs.getD (n - 1) 0=y at hl ⊢
  obtain ⟨pd,rfl⟩:=Int.eq_ofNat_of_zero_le hl.1
  rw [wi64_of (n:=(pd:Int)) (by omega) (by omega),e12]
  refine ⟨fun h=>?_,fun h=>?_⟩
  ·rw [decide_eq_true_eq] at h
   exact uErr (cells:=[.int .u8 (hC xs),.int .u32 (n32 (xs.drop 4)),.string (strOfNums ((xs.drop 8).take (12 - 8))),c3]) H (List.sublist_cons_self _ _) (fun _ h=>h) hE rfl (by unfold gd;rw [hpp];rfl) (by decide)
  ·rw [decide_eq_false_iff_not] at h
   have e3:IntKind.i64.wrap (((n:Nat):Int) - (pd:Int))=((n - pd:Nat):Int):=by rw [wi64_of (by omega) (by omega)];omega
   rw [e3,Int.toNat_natCast]
   refine ⟨by omega,by omega,?_⟩
   refine ⟨by omega,by omega,?_⟩
   exact hrest pd (by omega) (.inr rfl)
 | false=>
  refine fF ?_
  have e3:IntKind.i64.wrap (((n:Nat):Int) - (0:Int))=((n - 0:Nat):Int):=by rw [wi64_of (by omega) (by omega)];omega
  rw [e3,Int.toNat_natCast]
  refine ⟨by omega,by omega,?_⟩
  refine ⟨by omega,by omega,?_⟩
  exact hrest 0 (by omega) (.inl rfl)

/-! ### Bytes that are being written -/
def u8s (l:List Int):List Value:=l.map (Value.int .u8)
theorem u8s_length (l:List Int):(u8s l).length=l.length:=by simp [u8s]
def pre (ys:List Int) (k N:Nat):List Int:=ys.take k++List.replicate (N - k) 0
theorem pre_length {ys:List Int} {k N:Nat} (h:k<=N) (hy:N<=ys.length):(pre ys k N).length=N:=by simp [pre];omega
theorem pre_zero (ys:List Int) (N:Nat):pre ys 0 N=List.replicate N 0:=by simp [pre]
theorem pre_set {ys:List Int} {k N:Nat} (h:k < N) (hy:N<=ys.length):(pre ys k N).set k (ys.getD k 0)=pre ys (k+1) N:=by
 unfold pre
 have hl:(ys.take k).length=k:=by simp;omega
 have ht:ys.take (k+1)=ys.take k++[ys[k]'(by omega)]:=by rw [List.take_add_one,List.getElem?_eq_getElem (show k < ys.length by omega)];rfl
 rw [List.set_append_right _ _ (by omega),hl,Nat.sub_self,ht]
 obtain ⟨q,hq⟩:∃q,N - k=q+1:=⟨N - k - 1,by omega⟩
 rw [hq,List.replicate_succ,List.set_cons_zero,show N - (k+1)=q by omega,List.append_assoc,List.singleton_append]
 congr 2
 simp [List.getD,List.getElem?_eq_getElem (show k < ys.length by omega)]
theorem pre_full {ys:List Int} {k N:Nat} (hN:N=ys.length) (hk:k<=N) (hz:(ys.drop k).all (· == 0)=true):pre ys k N=ys:=by
 unfold pre
 have:ys.drop k=List.replicate (N - k) 0:=by
  rw [List.eq_replicate_iff]
  refine ⟨by simp [hN],fun x hx=>?_⟩
  have:=List.all_eq_true.1 hz x hx
  simpa using this
 rw [<-this,List.take_append_drop]
theorem sStB {F:Fr} {w:World} {g:Nat} {t:TypeId} {l:List Int} {ex:List Ex} {ro:List Ro} (H:Sat F w (.blk g t (u8s l)::ex) ro) {a:Addr} {i:Nat} {x:Int} {K:World->Prop} (ha:a=⟨g,i,none⟩) (hi:i < l.length)
  (h:∀w',w.grownBy w' (some g)->Sat F w' (.blk g t (u8s (l.set i x))::ex) ro->K w'):∃w',StV pg 5 a (.int .u8 x) w w'/\K w':=by
 refine sSt0 H ha (by kernel_rfl) ?_ (by rfl) ?_
 ·rw [u8s_length]
  exact Nat.ble_eq_true_of_le (show i+1<=l.length by omega)
 ·intro w' hg H1
  refine h w' hg ?_
  have e:putL (u8s l) i (Value.int .u8 x).cells.toList=u8s (l.set i x):=by
   show (u8s l).set i (Value.int .u8 x)=_
   unfold u8s
   rw [List.map_set]
  rw [e] at H1
  exact H1
theorem Sat.bcell {F:Fr} {w:World} {g:Nat} {t:TypeId} {l:List Int} {ex:List Ex} {ro:List Ro} (H:Sat F w (.blk g t (u8s l)::ex) ro) {a:Addr} {i:Nat} (ha:a=⟨g,i,none⟩) (hi:i < l.length):w.cell? a=some (.int .u8 (l.getD i 0)):=by
 subst ha
 refine H.b0.cell ?_
 unfold u8s
 rw [List.getElem?_map,List.getElem?_eq_getElem hi]
 simp [List.getD,List.getElem?_eq_getElem hi]
theorem c89 {F:Fr} {w:World} {g:Nat} {t:TypeId} {l:List Int} {ex:List Ex} {ro:List Ro} (H:Sat F w (.blk g t (u8s l)::ex) ro) {o n c:Nat} {v:Int} (hv:0<=v/\v < 65536) (hn:2<=n) (ho:o+2<=l.length) :
  Calls pg 89 #[.slice (some ⟨g,o,none⟩) n c,.int .u16 v] w fun en w'=>en=.returned (.tuple #[])/\Sat F w' (.blk g t (u8s ((l.set o (v / 256)).set (o+1) (v % 256)))::ex) ro:=by
 apply of89
 refine ⟨_,rfl,by omega,by omega,?_⟩
 refine ⟨_,H.bcell (i:=o+1) (by rw [add_flat];rfl) (by omega),?_⟩
 refine ⟨_,rfl,by omega,by omega,?_⟩
 rw [ishr_of (b:=(8:Int)) 8 (by rfl) (by decide),wu8,show v / 2 ^ 8 % 256=v / 256 by omega]
 refine sStB H (i:=o) (by rw [add_flat];rfl) (by omega) ?_
 clear H;intro w _ H
 refine ⟨_,rfl,by omega,by omega,?_⟩
 rw [wu8]
 refine sStB H (i:=o+1) (by rw [add_flat];rfl) (by simp;omega) ?_
 clear H;intro w _ H
 exact ⟨rfl,H⟩
theorem c144 {F:Fr} {w:World} {g:Nat} {t:TypeId} {l:List Int} {ex:List Ex} {ro:List Ro} (H:Sat F w (.blk g t (u8s l)::ex) ro) {o n c:Nat} {v:Int} (hv:0<=v/\v < 4294967296) (hn:4<=n) (ho:o+4<=l.length) :
  Calls pg 144 #[.slice (some ⟨g,o,none⟩) n c,.int .u32 v] w fun en w'=>en=.returned (.tuple #[])/\Sat F w' (.blk g t (u8s ((((l.set o (v / 16777216)).set (o+1) (v / 65536 % 256)).set (o+2) (v / 256 % 256)).set (o+3) (v % 256)))::ex) ro:=by
 apply of144
 refine ⟨_,rfl,by omega,by omega,?_⟩
 refine ⟨_,H.bcell (i:=o+3) (by rw [add_flat];rfl) (by omega),?_⟩
 refine ⟨_,rfl,by omega,by omega,?_⟩
 rw [ishr_of (b:=(24:Int)) 24 (by rfl) (by decide),wu8,show v / 2 ^ 24 % 256=v / 16777216 by omega]
 refine sStB H (i:=o) (by rw [add_flat];rfl) (by omega) ?_
 clear H;intro w _ H
 refine ⟨_,rfl,by omega,by omega,?_⟩
 rw [ishr_of (b:=(16:Int)) 16 (by rfl) (by decide),wu8,show v / 2 ^ 16 % 256=v / 65536 % 256 by omega]
 refine sStB H (i:=o+1) (by rw [add_flat];rfl) (by simp;omega) ?_
 clear H;intro w _ H
 refine ⟨_,rfl,by omega,by omega,?_⟩
 rw [ishr_of (b:=(8:Int)) 8 (by rfl) (by decide),wu8,show v / 2 ^ 8 % 256=v / 256 % 256 by omega]
 refine sStB H (i:=o+2) (by rw [add_flat];rfl) (by simp;omega) ?_
 clear H;intro w _ H
 refine ⟨_,rfl,by omega,by omega,?_⟩
 rw [wu8]
 refine sStB H (i:=o+3) (by rw [add_flat];rfl) (by simp;omega) ?_
 clear H;intro w _ H
 exact ⟨rfl,H⟩
/-! ### Numbers -/
theorem c199 {w:World} {src val q size start:Int} (k:Nat) {m:Nat} (hk:(k:Int)+size+start=16) (hsz:(size=1/\m=2)\/(size=2/\m=4)\/(size=13/\m=8192)) (hst:0<=start) (hs:src=q*(m*2 ^ k)) (hq:0<=q/\src+m*2 ^ k<=65536) (hv:0<=val/\val < m) :
  Calls pg 199 #[.int .u16 src,.int .u16 size,.int .u16 start,.int .u16 val] w fun en w'=>en=.returned (.tuple #[.int .u16 (src+val*2 ^ k),.nilIface])/\w.grownBy w' none:=by
 apply of199
 refine ⟨fun hc=>?_,fun hc=>?_⟩
 ·rw [decide_eq_true_eq,wu16] at hc;omega
 have ek:IntKind.u16.wrap ((IntKind.u16.wrap ((16:Int) - size)) - start)=(k:Int):=by rw [wu16,wu16];omega
 have hk16:k<=15:=by omega
 have hp:(0:Int) < 2 ^ k:=Int.pow_pos (by omega)
 have hv2:val*2 ^ k < m*2 ^ k:=Int.mul_lt_mul_of_pos_right hv.2 hp
 have hv0:0<=val*2 ^ k:=Int.mul_nonneg hv.1 (by omega)
 have hs0:0<=src:=by rw [hs];exact Int.mul_nonneg hq.1 (Int.mul_nonneg (by omega) (by omega))
 have hm:iand .u16 val (IntKind.u16.wrap ((ishl .u16 (1:Int) size) - (1:Int)))=val:=by
  rcases hsz with ⟨rfl,rfl⟩ | ⟨rfl,rfl⟩ | ⟨rfl,rfl⟩
  ·rw [ishl_of (b:=(1:Int)) 1 (by rfl) (by decide),iand_low (k:=.u16) (by rfl) 1 hv.1 (by simp only [IntKind.bits];omega) (by rfl) (by decide)];omega
  ·rw [ishl_of (b:=(2:Int)) 2 (by rfl) (by decide),iand_low (k:=.u16) (by rfl) 2 hv.1 (by simp only [IntKind.bits];omega) (by rfl) (by decide)];omega
  ·rw [ishl_of (b:=(13:Int)) 13 (by rfl) (by decide),iand_low (k:=.u16) (by rfl) 13 hv.1 (by simp only [IntKind.bits];omega) (by rfl) (by decide)];omega
 have key:ior .u16 src (ishl .u16 val (k:Int))=src+val*2 ^ k:=by
  rw [ishl_of (k:=.u16) k rfl (by simp only [IntKind.bits];omega),wu16,Int.emod_eq_of_lt hv0 (by omega)]
  have hpow:∀e:Nat,(m:Int)=2 ^ e->ior .u16 src (val*2 ^ k)=src+val*2 ^ k:=by
   intro e he
   refine ior_add (k:=.u16) (by rfl) (e+k) q ?_ hq.1 hv0 ?_ (by simp only [IntKind.bits];omega)
   ·rw [hs,he,Int.pow_add]
   ·rw [Int.pow_add,<-he];exact hv2
  rcases hsz with ⟨_,rfl⟩ | ⟨_,rfl⟩ | ⟨_,rfl⟩
  ·exact hpow 1 rfl
  ·exact hpow 2 rfl
  ·exact hpow 13 rfl
 refine ⟨by omega,by rw [ek];omega,?_⟩
 rw [ek,hm,key]
 exact ⟨rfl,grew_refl _ _⟩
def u32s (l:List Int):List Value:=l.map (Value.int .u32)
theorem u32s_length (l:List Int):(u32s l).length=l.length:=by simp [u32s]
theorem sStU {F:Fr} {w:World} {g:Nat} {t:TypeId} {l:List Int} {ex:List Ex} {ro:List Ro} (H:Sat F w (.blk g t (u32s l)::ex) ro) {a:Addr} {i:Nat} {x:Int} {K:World->Prop} (ha:a=⟨g,i,none⟩) (hi:i < l.length)
  (h:∀w',w.grownBy w' (some g)->Sat F w' (.blk g t (u32s (l.set i x))::ex) ro->K w'):∃w',StV pg 51 a (.int .u32 x) w w'/\K w':=by
 refine sSt0 H ha (by kernel_rfl) ?_ (by rfl) ?_
 ·rw [u32s_length]
  exact Nat.ble_eq_true_of_le (show i+1<=l.length by omega)
 ·intro w' hg H1
  refine h w' hg ?_
  have e:putL (u32s l) i (Value.int .u32 x).cells.toList=u32s (l.set i x):=by
   show (u32s l).set i (Value.int .u32 x)=_
   unfold u32s
   rw [List.map_set]
  rw [e] at H1
  exact H1
theorem words_len:∀(k:Nat) (ys:List Int),(words k ys).length=k
 | 0,_=>rfl
 | k+1,ys=>by simp [words,words_len k]
theorem words_getD:∀(k:Nat) (ys:List Int) (i:Nat),i < k->(words k ys).getD i 0=n32 (ys.drop (4*i))
 | 0,_,_,h=>by omega
 | k+1,ys,0,_=>by simp [words]
 | k+1,ys,i+1,h=>by
  rw [words,List.getD_cons_succ,words_getD k _ i (by omega),List.drop_drop]
  congr 2
  omega
theorem c149 {w:World} {n:Nat} (h:n % 4=0):Calls pg 149 #[.int .i64 (n:Int)] w fun en w'=>en=.returned (.int .i64 0)/\w.grownBy w' none:=by
 apply of149
 refine ⟨by decide,?_⟩
 have ht:((n:Nat):Int).tmod 4=0:=by rw [Int.tmod_eq_emod_of_nonneg (by omega)];omega
 rw [ht]
 exact ⟨fun _=>⟨rfl,grew_refl _ _⟩,fun h=>absurd h (by decide)⟩
theorem c172 {F:Fr} {w:World} {ex:List Ex} {ro:List Ro} {xs:List Int} {a:Option Addr} {n c:Nat} {b:Nat} {T:TypeId} {c0:Value} (H:Sat F w (.blk b T [c0,.string ⟨#[]⟩]::ex) ro)
  (hx:Ro.B xs a n c∈ro) (hb:By xs) (hE:ErrC (gd xs=none) ro) (hd:Hd xs 203 (hC xs)) (hn:n<=1000000):Calls pg 172 #[.pointer (some ⟨b,0,none⟩),.slice a n c] w (UPost F b T 2 ex ro (gd xs)):=by
 apply of172
 have hlen:=H.lenB hx
 have hk:kindOf (hT xs) (hC xs)=4:=by rw [hd.typ];rfl
 have hU:rdBody xs=rdBye (hC xs).toNat (xs.drop 4):=by
  unfold rdBody;simp only [hk];rw [if_neg (by decide),if_neg (by decide),if_neg (by decide),if_pos trivial]
 have hLn:=hd.len
 rw [hlen] at hLn
 have hnc:n<=c:=(H.deep1 hx).len.2.1
 have h4:4<=xs.length:=by
  have:=hd.ok
  simp only [hdrOk,Bool.and_eq_true,decide_eq_true_eq] at this
  exact this.1
 have hCr:0<=hC xs/\hC xs < 32:=by unfold hC;omega
 obtain ⟨k,hk2⟩:∃k:Nat,hC xs=(k:Int):=⟨(hC xs).toNat,by omega⟩
 rw [hk2,Int.toNat_natCast] at hU
 have hyl:(xs.drop 4).length=n - 4:=by rw [List.length_drop,hlen]
 refine sNew H ?_;clear H;intro b1 w _ H
 refine call_j (c55 H hx hb hd.ok) ?_
 rintro _ w ⟨rfl,H⟩
 refine ⟨_,rfl,by simp [isIf],fun h=>absurd h (by decide),fun _=>?_⟩
 refine ⟨_,(H.b0.at0 rfl),?_⟩
 rw [hd.typ]
 refine fF ?_
 refine call_j (c149 (by omega)) ?_
 rintro _ w ⟨rfl,g⟩
 replace H:=H.grow g;clear g
 refine ⟨_,rfl,?_⟩
 refine fF ?_
 refine ⟨_,(H.b0.at0 rfl),?_⟩
 rw [hk2] at H
 rw [hk2]
 refine sMk H (e:=51) (z:=.int .u32 0) (bytes:=4) (by kernel_rfl) (by kernel_rfl) (by rfl) (by unfold maxLen;omega) (by omega) (n:=k) (by omega) (by omega) ?_
 clear H;intro g w _ H
 have e0:List.replicate k (Value.int .u32 0)=u32s (pre (words k (xs.drop 4)) 0 k):=by rw [pre_zero];simp [u32s]
 rw [e0] at H
 clear e0
 refine ⟨_,rfl,?_⟩
 refine sSt2 H (by exact add_flat _ _ _) (by kernel_rfl) (by rfl) (by rfl) ?_;clear H;intro w _ H
 refine ⟨_,(H.b1.at0 rfl),?_⟩
 have e5:IntKind.i64.wrap (IntKind.u8.wrap ((4:Int)+(IntKind.u8.wrap ((k:Int)*(4:Int)))))=((4+4*k:Nat):Int):=by rw [wu8,wu8,wi64_of (by omega) (by omega)];omega
 rw [e5]
 refine ⟨fun hc=>?_,fun hc=>?_⟩
 ·rw [decide_eq_true_eq] at hc
  exact uErr (cells:=[.slice (some ⟨g,0,none⟩) k k,.string ⟨#[]⟩]) H (by exact List.Sublist.cons _ (List.sublist_cons_self _ _)) (fun _ h=>h) hE rfl (gd_none (by rw [hU];unfold rdBye;rw [if_pos (by omega)])) (by decide)
 rw [decide_eq_false_iff_not] at hc
 refine ⟨fun i23 m_19 w=>∃i:Nat,i23=(i:Int)/\i+m_19=k /\
  Sat F w (.blk g 51 (u32s (pre (words k (xs.drop 4)) i k))::.blk b1 109 [.bool (hP xs),.int .u8 (k:Int),.int .u8 (hT xs),.int .u16 (hL xs)]::.blk b T [.slice (some ⟨g,0,none⟩) k k,.string ⟨#[]⟩]::ex) ro,⟨k,0,rfl,by omega,H⟩,?_⟩
 clear H;rintro dd18 i23 m_19 w ⟨i,rfl,him,H⟩
 refine ⟨_,(H.b1.at0 rfl),?_⟩
 rw [wi64_of (n:=(k:Int)) (by omega) (by omega)]
 refine ⟨fun h=>?_,fun h=>?_⟩
 ·rw [decide_eq_true_eq] at h
  refine ⟨none,?_⟩;replace H:=H.drew;generalize w.drew=wd1 at H ⊢;have K:=grew_refl wd1 (none)
  refine ⟨_,rfl,?_⟩
  refine ⟨nn,?_⟩
  refine ⟨H.b2.row,?_⟩
  refine ⟨_,_,_,(H.b2.at0 rfl),?_⟩
  have e4:IntKind.i64.wrap ((4:Int)+(IntKind.i64.wrap ((i:Int)*(4:Int))))=((4+4*i:Nat):Int):=by rw [wi64_of (n:=(i:Int)*4) (by omega) (by omega),wi64_of (by omega) (by omega)];omega
  rw [e4,Int.toNat_natCast]
  refine ⟨by omega,by omega,?_⟩
  refine call_j (c150 (Rd.skip (Sat.rd H hx) _ (by omega)) (hb.drop (4+4*i)) (by omega)) ?_
  rintro _ w ⟨rfl,gr⟩
  replace H:=H.grow gr;replace K:=gtr K (grew_none _ gr);clear gr
  refine ⟨_,rfl,?_⟩
  refine ⟨K,?_⟩
  refine ⟨_,rfl,by omega,by omega,?_⟩
  have hw:=words_getD k (xs.drop 4) i (by omega)
  rw [List.drop_drop] at hw
  rw [<-hw]
  refine sStU H (i:=i) (by rw [add_flat,show (i:Int).toNat*1=i by omega,Nat.zero_add]) (by rw [pre_length (by omega) (by rw [words_len];omega)];omega) ?_
  clear H K;intro w _ H
  rw [pre_set (by omega) (by rw [words_len];omega)] at H
  refine ⟨m_19 - 1,by omega,i+1,?_,by omega,H⟩
  rw [wi64_of (by omega) (by omega)];simp
 ·rw [decide_eq_false_iff_not] at h
  obtain rfl:i=k:=by omega
  have hw:pre (words i (xs.drop 4)) i i=words i (xs.drop 4):=pre_full (by rw [words_len]) (Nat.le_refl _) (by rw [List.drop_of_length_le (by rw [words_len];omega)];rfl)
  rw [hw] at H
  have eoi:oi .u32 (words i (xs.drop 4))=(u32s (words i (xs.drop 4))).map .one:=by simp [oi,u32s]
  have H1:=H.blkRow 1 i (oi .u32 (words i (xs.drop 4))) (by rw [u32s_length,words_len,Nat.mul_one]) (by unfold maxLen;omega) (fun G h=>by rw [eoi];exact DeepL.ones _)
  clear H
  have H:=H1
  clear H1
  have hro:∀r∈ro,r∈(.deep [.row 1 (oi .u32 (words i (xs.drop 4)))] [.slice (some ⟨g,0,none⟩) i i]::ro):=fun r h=>mt h
  refine ⟨fun h2=>?_,fun h2=>?_⟩
  ·rw [decide_eq_true_eq] at h2
   have h2':4+4*i < n:=by omega
   have hys:(xs.drop 4).drop (4*i)=xs.drop (4+4*i):=by rw [List.drop_drop]
   have hyy:(xs.drop (4+4*i)).length=n - (4+4*i):=by rw [List.length_drop,hlen]
   have hU2:rdBody xs=(if (xs.drop (4+4*i)).length < 1+((xs.drop (4+4*i)).getD 0 0).toNat then none else if 3 < (xs.drop (4+4*i)).length - (1+((xs.drop (4+4*i)).getD 0 0).toNat) then none else if 1+((xs.drop (4+4*i)).getD 0 0).toNat=1 then none else
     if ((xs.drop (4+4*i)).drop (1+((xs.drop (4+4*i)).getD 0 0).toNat)).all (· == 0) then some { kind:=4,sources:=words i (xs.drop 4),text:=strOfNums (((xs.drop (4+4*i)).drop 1).take (1+((xs.drop (4+4*i)).getD 0 0).toNat - 1)) } else none):=by
    rw [hU];unfold rdBye
    rw [if_neg (by omega)]
    simp only [hys]
    rw [if_neg (by omega)]
   obtain ⟨p_32,ep_32,hp_32,_,_⟩:=H.at_ (a:=a) (hro _ hx) (by omega)
   refine ⟨p_32,ep_32,by omega,by omega,?_⟩
   refine ⟨_,(by rw [Int.toNat_natCast,Nat.mul_one];exact hp_32 (4+4*i) (by omega)),?_⟩
   have hgd:(xs.drop (4+4*i)).getD 0 0=xs.getD (4+4*i) 0:=by rw [getD_drop];rfl
   have hl:=hb.getD (4+4*i)
   rw [hgd] at hU2
   generalize xs.getD (4+4*i) 0=y at hl hU2 ⊢
   obtain ⟨t,rfl⟩:=Int.eq_ofNat_of_zero_le hl.1
   rw [Int.toNat_natCast] at hU2
   rw [wi64_of (n:=(t:Int)) (by omega) (by omega),wi64_of (n:=((4+4*i:Nat):Int)+1) (by omega) (by omega),wi64_of (n:=((4+4*i:Nat):Int)+1+(t:Int)) (by omega) (by omega)]
   refine ⟨fun h3=>?_,fun h3=>?_⟩
   ·rw [decide_eq_true_eq] at h3
    exact uErr (cells:=[.slice (some ⟨g,0,none⟩) i i,.string ⟨#[]⟩]) H (List.sublist_cons_self _ _) hro hE rfl (gd_none (by rw [hU2,if_pos (by omega)])) (by decide)
   rw [decide_eq_false_iff_not] at h3
   rw [show (((4+4*i:Nat):Int)+1).toNat=5+4*i by omega,show (((4+4*i:Nat):Int)+1+(t:Int)).toNat=5+4*i+t by omega]
   refine ⟨by omega,by omega,?_⟩
   refine ⟨by omega,by omega,?_⟩
   have H8:=H.cutB (hro _ hx) (5+4*i) (5+4*i+t) (by omega) (by omega)
   refine ⟨_,_,sStr H8 ms uSl uU8 uStr,?_⟩
   clear H8
   refine ⟨_,rfl,?_⟩
   refine sSt1 H (by exact add_flat _ _ _) (by kernel_rfl) (by rfl) (by rfl) ?_;clear H;intro w _ H
   refine uOk (cells:=[.slice (some ⟨g,0,none⟩) i i,.string (strOfNums ((xs.drop (5+4*i)).take (5+4*i+t - (5+4*i))))]) H (List.sublist_cons_self _ _) hro rfl ?_
   intro p hp
   obtain ⟨_,hp⟩:=gd_some hp
   rw [hU2] at hp
   split at hp
   ·cases hp
   split at hp
   ·cases hp
   split at hp
   ·cases hp
   split at hp
   ·cases hp
    intro G h
    refine dc (h (.deep [_] [_]) ms).head (dc ?_ dn)
    have et:(xs.drop (5+4*i)).take (5+4*i+t - (5+4*i))=((xs.drop (4+4*i)).drop 1).take (1+t - 1):=by
     rw [List.drop_drop,show 4+4*i+1=5+4*i by omega,show 5+4*i+t - (5+4*i)=t by omega,show 1+t - 1=t by omega]
    rw [et]
    exact .one _
   ·cases hp
  ·rw [decide_eq_false_iff_not] at h2
   refine uOk (cells:=[.slice (some ⟨g,0,none⟩) i i,.string ⟨#[]⟩]) H (List.sublist_cons_self _ _) hro rfl ?_
   intro p hp
   obtain ⟨_,hp⟩:=gd_some hp
   rw [hU] at hp
   unfold rdBye at hp
   rw [if_neg (by omega)] at hp
   simp only at hp
   rw [if_pos (by rw [List.length_drop];omega)] at hp
   cases hp
   intro G h
   exact dc (h (.deep [_] [_]) ms).head (dc (.one _) dn)
theorem c167 {w:World} {t:Int} {s:ByteArray} (hs:s.size<=1000000):Calls pg 167 #[.agg #[.int .u8 t,.string s]] w fun en w'=>en=.returned (.int .i64 ((2+s.size:Nat):Int))/\w.grownBy w' none:=by
 apply of167
 have H:Sat ⟨w,fun _=>False⟩ w [] []:=Sat.start (by simp [foots]) (by simp [foots]) (by simp) (by simp)
 refine sNew H ?_;clear H;intro b1 w _ H
 refine ⟨_,(H.b0.at0 rfl),?_⟩
 refine ⟨_,_,_,_,run_bytes_of_string w 9 22 5 s uStr uSl uU8,?_⟩
 refine ⟨?_,gtr (Gr.none H.gr (fun _ _ h=>h)) (gtr (grew_drew w none) (World.grownBy_alloc w.drew _ none))⟩
 rw [wi64_of (by omega) (by omega)]
 congr 2
theorem c168 {P:Prop} {F:Fr} {w:World} {ex:List Ex} {ro:List Ro} {ys:List Int} {a:Option Addr} {n c:Nat} {b:Nat} {T:TypeId} {c0 c1:Value} (H:Sat F w (.blk b T [c0,c1]::ex) ro)
  (hx:Ro.B ys a n c∈ro) (hb:By ys) (hE:ErrC P ro) (hn:n<=1000000):Calls pg 168 #[.pointer (some ⟨b,0,none⟩),.slice a n c] w fun en w'=>
   ((n < 2\/(n:Int) < 2+ys.getD 1 0)/\∃e cells,en=.returned e/\isIf e/\isNilI e=false/\Sat F w' (.blk b T cells::ex) ro) \/
   (2+(ys.getD 1 0)<=(n:Int)/\en=.returned .nilIface/\Sat F w' (.blk b T [.int .u8 (ys.getD 0 0),.string (strOfNums ((ys.drop 2).take (ys.getD 1 0).toNat))]::ex) ro):=by
 apply of168
 have hlen:=H.lenB hx
 have hnc:n<=c:=(H.deep1 hx).len.2.1
 have h1:=hb.getD 1
 refine ⟨fun hc=>?_,fun hc=>?_⟩
 ·rw [decide_eq_true_eq] at hc
  obtain ⟨v,h1,h2,h3⟩:=hE.laid 1 (by decide)
  exact ⟨v,H.cell h1 rfl,.inl ⟨by omega,v,_,rfl,h2,h3 (by decide),H⟩⟩
 rw [decide_eq_false_iff_not] at hc
 obtain ⟨p_2,ep_2,hp_2,_,_⟩:=H.at_ (a:=a) hx (by omega)
 refine ⟨p_2,ep_2,by omega,by omega,?_⟩
 refine ⟨_,hp_2 0 (by omega),?_⟩
 refine ⟨_,rfl,?_⟩
 clear hp_2
 refine sSt0 H (by exact add_flat _ _ _) (by kernel_rfl) (by rfl) (by rfl) ?_;clear H;intro w _ H
 obtain ⟨p_6,ep_6,hp_6,_,_⟩:=H.at_ (a:=a) hx (by omega)
 refine ⟨p_6,ep_6,by omega,by omega,?_⟩
 refine ⟨_,hp_6 1 (by omega),?_⟩
 generalize hy:ys.getD 1 0=y at h1 ⊢
 obtain ⟨t,rfl⟩:=Int.eq_ofNat_of_zero_le h1.1
 rw [wi64_of (n:=(t:Int)) (by omega) (by omega),wi64_of (n:=2+(t:Int)) (by omega) (by omega)]
 refine ⟨fun h=>?_,fun h=>?_⟩
 ·rw [decide_eq_true_eq] at h
  obtain ⟨v,h1,h2,h3⟩:=hE.laid 1 (by decide)
  exact ⟨v,H.cell h1 rfl,.inl ⟨by omega,v,_,rfl,h2,h3 (by decide),H⟩⟩
 rw [decide_eq_false_iff_not] at h
 rw [show (2+(t:Int)).toNat=2+t by omega]
 refine ⟨by omega,by omega,?_⟩
 refine ⟨by omega,by omega,?_⟩
 have H8:=H.cutB hx 2 (2+t) (by omega) (by omega)
 refine ⟨_,_,sStr H8 ms uSl uU8 uStr,?_⟩
 clear H8
 refine ⟨_,rfl,?_⟩
 refine sSt0 H (by exact add_flat _ _ _) (by kernel_rfl) (by rfl) (by rfl) ?_;clear H;intro w _ H
 refine .inr ⟨by omega,rfl,?_⟩
 rw [show 2+t - 2=t by omega] at H
 rw [Int.toNat_natCast]
 exact H
def itLen (l:List Itm):Nat:=(l.map fun i=>2+i.2.size).sum
theorem itLen_snoc (l:List Itm) (i:Itm):itLen (l++[i])=itLen l+(2+i.2.size):=by simp [itLen]
theorem itLen_le:∀l:List Itm,2*l.length<=itLen l
 | []=>by simp
 | i::r=>by
  have:=itLen_le r
  simp only [itLen,List.map_cons,List.sum_cons,List.length_cons] at this ⊢
  omega
theorem Itm.dat_len (x:Itm):(Itm.dat x).length=2:=rfl
theorem c165 {P:Prop} {F:Fr} {w:World} {ex:List Ex} {ro:List Ro} {ys:List Int} {a:Option Addr} {n c:Nat} {b:Nat} {T:TypeId} {c0:Value} (H:Sat F w (.blk b T [c0,.slice none 0 0]::ex) ro)
  (hx:Ro.B ys a n c∈ro) (hb:By ys) (hE:ErrC P ro) (hn:n<=1000000):Calls pg 165 #[.pointer (some ⟨b,0,none⟩),.slice a n c] w fun en w'=>
   ((n < 5\/items ys n 4=none)/\∃e cells,en=.returned e/\isIf e/\isNilI e=false/\Sat F w' (.blk b T cells::ex) ro) \/
   (∃l o oc,items ys n 4=some (l,4+itLen l+1)/\4+itLen l+1<=n/\en=.returned .nilIface/\Sat F w' (.blk b T [.int .u32 (n32 ys),.slice o l.length oc]::ex) (.deep [.row 2 (l.flatMap Itm.dat)] [.slice o l.length oc]::ro)):=by
 apply of165
 have hlen:=H.lenB hx
 have hnc:n<=c:=(H.deep1 hx).len.2.1
 refine ⟨fun hc=>?_,fun hc=>?_⟩
 ·rw [decide_eq_true_eq] at hc
  obtain ⟨v,h1,h2,h3⟩:=hE.laid 1 (by decide)
  exact ⟨v,H.cell h1 rfl,.inl ⟨by omega,v,_,rfl,h2,h3 (by decide),H⟩⟩
 rw [decide_eq_false_iff_not] at hc
 refine call_j (c150 (Sat.rd H hx) hb (by omega)) ?_
 rintro _ w ⟨rfl,g⟩
 replace H:=H.grow g;clear g
 refine ⟨_,rfl,?_⟩
 refine ⟨_,rfl,?_⟩
 refine sSt0 H (by exact add_flat _ _ _) (by kernel_rfl) (by rfl) (by rfl) ?_;clear H;intro w _ H
 refine ⟨fun i12 m_8 w=>∃(l:List Itm) (o:Option Addr) (oc:Nat) (r:Option Nat),i12=((4+itLen l:Nat):Int)/\items ys n 4=(items ys m_8 (4+itLen l)).map (fun q=>(l++q.1,q.2))/\n < m_8+(4+itLen l)/\4+itLen l<=n /\
  Sat F w (.blk b T [.int .u32 (n32 ys),.slice o l.length oc]::.own 258 2 o l.length oc r (l.flatMap Itm.dat)::ex) ro,⟨n,[],none,0,none,rfl,by show items ys n 4=(items ys n 4).map _;cases items ys n 4<;>rfl,by simp [itLen],by simp [itLen];omega,(H.nilOwn 258 2).u1⟩,?_⟩
 clear H;rintro dd7 i12 m_8 w ⟨l,o,oc,r,rfl,hit,hm,hle,H⟩
 have hll:=itLen_le l
 refine ⟨fun h=>?_,fun h=>?_⟩
 ·rw [decide_eq_true_eq] at h
  obtain ⟨m,rfl⟩:∃m,m_8=m+1:=⟨m_8 - 1,by omega⟩
  rw [items,if_neg (by omega)] at hit
  obtain ⟨p_13,ep_13,hp_13,_,_⟩:=H.at_ (a:=a) hx (by omega)
  refine ⟨p_13,ep_13,by omega,by omega,?_⟩
  refine ⟨_,(by rw [Int.toNat_natCast,Nat.mul_one];exact hp_13 (4+itLen l) (by omega)),?_⟩
  clear ep_13 hp_13
  refine ⟨fun h0=>?_,fun h0=>?_⟩
  ·have h0:ys.getD (4+itLen l) 0=0:=by simpa using h0
   rw [if_pos h0] at hit
   simp only [Option.map_some,List.append_nil] at hit
   exact .inr ⟨l,o,oc,hit,by omega,rfl,H.r1.freeze⟩
  have h0:¬ys.getD (4+itLen l) 0=0:=by simpa using h0
  rw [if_neg h0] at hit
  refine sNew H ?_;clear H;intro b15 w _ H
  rw [Int.toNat_natCast]
  refine ⟨by omega,by omega,?_⟩
  have H1:=H.skipB hx (4+itLen l) (by omega)
  have hgd:∀j,(ys.drop (4+itLen l)).getD j 0=ys.getD (4+itLen l+j) 0:=fun j=>getD_drop _ _ _
  refine call_j (c168 H1 ms (hb.drop _) (hE.mono (fun r h=>mt h)) (by omega)) ?_
  clear H H1
  rw [hgd 1]
  rintro en w (⟨hbad,e,cells,rfl,he1,he2,H⟩ | ⟨hgood,rfl,H⟩)
  ·refine ⟨_,rfl,he1,fun _=>?_,fun h=>by rw [he2] at h;cases h⟩
   refine .inl ⟨.inr ?_,e,_,rfl,he1,he2,H.sub (by exact List.Sublist.cons _ (List.Sublist.cons_cons _ (List.sublist_cons_self _ _))) (fun r hr=>mt hr)⟩
   rw [hit]
   by_cases hs:ys.length < 4+itLen l+2
   ·rw [if_pos hs];rfl
   ·rw [if_neg hs,if_pos (by omega)];rfl
  have h1:=hb.getD (4+itLen l+1)
  rw [hgd 0,Nat.add_zero] at H
  generalize hy1:ys.getD (4+itLen l+1) 0=y at h1 hgood hit H
  obtain ⟨t,rfl⟩:=Int.eq_ofNat_of_zero_le h1.1
  rw [if_neg (by omega),if_neg (by omega),Int.toNat_natCast] at hit
  rw [Int.toNat_natCast,List.drop_drop] at H
  generalize ys.getD (4+itLen l) 0=ty at hit H
  have hsz:(strOfNums ((ys.drop (4+itLen l+2)).take t)).size=t:=by rw [strOfNums_size,List.length_take,List.length_drop];omega
  generalize strOfNums ((ys.drop (4+itLen l+2)).take t)=txt at hit H hsz
  refine ⟨_,rfl,by simp [isIf],fun h=>absurd h (by decide),fun _=>?_⟩
  refine ⟨r,?_⟩;replace H:=H.drew;generalize w.drew=wd1 at H ⊢;have K:=grew_refl wd1 (r)
  refine ⟨_,rfl,?_⟩
  refine ⟨(H.ne (mt ms) (mt (mt ms))),?_⟩
  refine ⟨H.b1.row,?_⟩
  refine ⟨_,_,_,(H.b1.at0 rfl),?_⟩
  refine ⟨(H.ne ms (mt (mt ms))),?_⟩
  refine ⟨H.b0.row,?_⟩
  refine ⟨_,_,H.b0.ld,?_⟩
  refine ⟨rfl,?_⟩
  refine sNew H ?_;clear H;intro b24 w g H;replace K:=gtr K (grew_none _ g);clear g
  refine ⟨K,?_⟩
  refine sApp3 H (bytes:=24) (by kernel_rfl) [.int .u8 ty,.string txt] (Itm.dat (ty,txt)) (by rfl) (fun j u hu=>by rw [add_flat,Nat.zero_add];exact H.b0.cell hu) (fun G h=>by repeat (exact DeepL.ones _)) (by simp [Value.oneCell']) (by unfold maxLen;omega) (by omega) ?_
  clear H;intro x26 x26l x26c x26r w ex26 g H
  replace K:=gtr K g;clear g;replace H:=H.d1
  refine ⟨K,?_⟩
  refine ⟨_,rfl,?_⟩
  refine sSt1 H (by exact add_flat _ _ _) (by kernel_rfl) (by rfl) (by rfl) ?_;clear H;intro w _ H
  refine ⟨_,_,H.b0.ld,?_⟩
  refine call_j (c167 (by omega)) ?_
  rintro _ w ⟨rfl,g⟩
  replace H:=H.grow g;clear g
  refine ⟨_,rfl,?_⟩
  subst ex26
  have hsn:=itLen_snoc l (ty,txt)
  simp only [hsz] at hsn
  rw [hsz]
  refine ⟨m,by omega,l++[(ty,txt)],x26,x26c,x26r,?_,?_,by omega,by omega,?_⟩
  ·rw [wi64_of (by omega) (by omega),hsn];omega
  ·rw [hit,hsn,show 4+(itLen l+(2+t))=4+itLen l+2+t by omega]
   cases items ys m (4+itLen l+2+t)<;>simp
  ·rw [List.flatMap_append,List.length_append]
   simp only [List.flatMap_cons,List.flatMap_nil,List.append_nil]
   exact H.sub (List.sublist_cons_self _ _) (fun r hr=>mt hr)
 ·rw [decide_eq_false_iff_not] at h
  obtain ⟨v,h1,h2,h3⟩:=hE.laid 1 (by decide)
  refine ⟨v,H.cell h1 rfl,.inl ⟨.inr ?_,v,_,rfl,h2,h3 (by decide),H.sub (List.Sublist.cons_cons _ (List.sublist_cons_self _ _)) (fun _ h=>h)⟩⟩
  rw [hit]
  cases m_8 with
  | zero=>rfl
  | succ m=>rw [items,if_pos (by omega)];rfl
def up4 (z:Nat):Nat:=(z+3) / 4*4
theorem pad_any {w:World} {n:Nat} (hn:n<=10000000):Calls pg 149 #[.int .i64 (n:Int)] w fun en w'=>en=.returned (.int .i64 ((up4 n - n:Nat):Int))/\w.grownBy w' none:=by
 apply of149
 refine ⟨by decide,?_⟩
 have ht:((n:Nat):Int).tmod 4=((n % 4:Nat):Int):=by rw [Int.tmod_eq_emod_of_nonneg (by omega)];omega
 rw [ht]
 refine ⟨fun h=>?_,fun h=>?_⟩
 ·have h0:((n % 4:Nat):Int)=0:=by simpa using h
  refine ⟨?_,grew_refl _ _⟩
  rw [show up4 n - n=0 by unfold up4;omega];rfl
 ·have h0:¬((n % 4:Nat):Int)=0:=by simpa using h
  refine ⟨by decide,?_,grew_refl _ _⟩
  rw [wi64_of (by omega) (by omega),show ((up4 n - n:Nat):Int)=4 - ((n % 4:Nat):Int) by unfold up4;omega]
theorem itLen_append (a b:List Itm):itLen (a++b)=itLen a+itLen b:=by simp [itLen]
theorem itLen_take (l:List Itm) (j:Nat):itLen (l.take j)<=itLen l:=by
 have h:=itLen_append (l.take j) (l.drop j)
 rw [List.take_append_drop] at h
 omega
theorem c164 {F:Fr} {w:World} {ex:List Ex} {ro:List Ro} {s:Int} {l:List Itm} {o:Option Addr} {oc:Nat} (H:Sat F w ex ro) (hl:Ro.deep [.row 2 (l.flatMap Itm.dat)] [.slice o l.length oc]∈ro) (hn:itLen l<=1000000) :
  Calls pg 164 #[.agg #[.int .u32 s,.slice o l.length oc]] w fun en w'=>en=.returned (.int .i64 (up4 (4+itLen l+1):Nat))/\Sat F w' ex ro:=by
 apply of164
 have hll:=itLen_le l
 refine sNew H ?_;clear H;intro b1 w _ H
 refine ⟨_,_,_,(H.b0.at0 rfl),?_⟩
 refine ⟨fun cl x11 m_6 w=>∃j:Nat,x11=(j:Int)/\j+m_6=l.length/\cl=((4+itLen (l.take j):Nat):Int)/\Sat F w (.blk b1 255 [.int .u32 s,.slice o l.length oc]::ex) ro,⟨l.length,0,rfl,by omega,by simp [itLen],H⟩,?_⟩
 clear H;rintro dd5 cl x11 m_6 w ⟨j,rfl,hjm,rfl,H⟩
 have htl:=itLen_take l j
 refine ⟨fun hc=>?_,fun hc=>?_⟩
 ·rw [decide_eq_true_eq] at hc
  have hjl:j < l.length:=by omega
  obtain ⟨p,us,e,hus,hcell,H1⟩:=H.eltF Itm.dat_len (by decide) hl (j:=j) hjl
  have htk:l.take (j+1)=l.take j++[l[j]]:=by rw [List.take_add_one,List.getElem?_eq_getElem hjl];rfl
  have htl2:=itLen_take l (j+1)
  rw [htk,itLen_snoc] at htl2
  clear H
  generalize l[j]=D at H1 htk htl2
  refine ⟨p,e,by omega,by omega,?_⟩
  obtain rfl:=H1.ones (us:=[.int .u8 D.1,.string D.2]) ms
  refine ⟨_,_,LdC [.int .u8 D.1,.string D.2] (by kernel_rfl) (by rw [show (j:Int).toNat*2=j*2 by omega];exact hcell),?_⟩
  have H:=H1
  clear H1 hcell
  refine sNew H ?_;clear H;intro b15 w _ H
  refine sSw0 H rfl (by kernel_rfl) (by rfl) (by rfl) ?_;clear H;intro w _ H
  refine ⟨_,_,H.b0.ld,?_⟩
  refine call_j (c167 (by omega)) ?_
  rintro _ w ⟨rfl,g⟩
  replace H:=H.grow g;clear g
  refine ⟨_,rfl,?_⟩
  refine ⟨m_6 - 1,by omega,j+1,?_,by omega,?_,H.sub (List.sublist_cons_self _ _) (fun r hr=>mt hr)⟩
  ·rw [wi64_of (by omega) (by omega)];simp
  ·rw [wi64_of (by omega) (by omega),htk,itLen_snoc];omega
 ·rw [decide_eq_false_iff_not] at hc
  obtain rfl:j=l.length:=by omega
  rw [List.take_length]
  rw [wi64_of (n:=((4+itLen l:Nat):Int)+1) (by omega) (by omega)]
  refine call_j (pad_any (n:=4+itLen l+1) (by omega)) ?_
  rintro _ w ⟨rfl,g⟩
  replace H:=H.grow g;clear g
  refine ⟨_,rfl,?_⟩
  have hu:4+itLen l+1<=up4 (4+itLen l+1)/\up4 (4+itLen l+1)<=4+itLen l+4:=by unfold up4;omega
  refine ⟨?_,H.d1⟩
  rw [wi64_of (by omega) (by omega)]
  congr 2
  omega
theorem zeros_up {ys:List Int} {i j:Nat} (h:zeros ys 3 i=some j):j=up4 i:=by
 have key:∀(f i j:Nat),zeros ys f i=some j->j % 4=0/\i<=j/\(∀t,i<=t->t < j->t % 4≠0):=by
  intro f
  induction f with
  | zero=>
   intro i j h
   unfold zeros at h
   split at h
   ·cases h;exact ⟨by assumption,Nat.le_refl _,fun t h1 h2=>by omega⟩
   ·cases h
  | succ f ih=>
   intro i j h
   unfold zeros at h
   split at h
   ·cases h;exact ⟨by assumption,Nat.le_refl _,fun t h1 h2=>by omega⟩
   ·rename_i hi
    split at h
    ·cases h
    ·split at h
     ·obtain ⟨a1,a2,a3⟩:=ih _ _ h
      refine ⟨a1,by omega,fun t h1 h2=>?_⟩
      rcases Nat.eq_or_lt_of_le h1 with rfl | h1
      ·exact hi
      ·exact a3 t (by omega) h2
     ·cases h
 obtain ⟨a1,a2,a3⟩:=key _ _ _ h
 have hu:up4 i % 4=0/\i<=up4 i/\up4 i<=i+3:=by unfold up4;omega
 rcases Nat.lt_trichotomy j (up4 i) with h1 | h1 | h1
 ·unfold up4 at h1;omega
 ·exact h1
 ·exact absurd hu.1 (a3 _ hu.2.1 h1)
theorem c161 {F:Fr} {w:World} {ex:List Ex} {ro:List Ro} {xs:List Int} {a:Option Addr} {n c:Nat} {b:Nat} {T:TypeId} (H:Sat F w (.blk b T [.slice none 0 0]::ex) ro)
  (hx:Ro.B xs a n c∈ro) (hb:By xs) (hE:ErrC (gd xs=none) ro) (hd:Hd xs 202 (hC xs)) (hn:n<=1000000):Calls pg 161 #[.pointer (some ⟨b,0,none⟩),.slice a n c] w (UPost F b T 1 ex ro (gd xs)):=by
 apply of161
 have hlen:=H.lenB hx
 have hk:kindOf (hT xs) (hC xs)=3:=by rw [hd.typ];rfl
 have hU:rdBody xs=(chks (hC xs).toNat (xs.drop 4)).map (fun l=>{ kind:=3,chunks:=l }):=by
  unfold rdBody;simp only [hk];rw [if_neg (by decide),if_neg (by decide),if_pos trivial]
 have hLn:=hd.len
 rw [hlen] at hLn
 have h4:4<=xs.length:=by
  have:=hd.ok
  simp only [hdrOk,Bool.and_eq_true,decide_eq_true_eq] at this
  exact this.1
 have hCr:0<=hC xs/\hC xs < 32:=by unfold hC;omega
 obtain ⟨k,hk2⟩:∃k:Nat,hC xs=(k:Int):=⟨(hC xs).toNat,by omega⟩
 rw [hk2,Int.toNat_natCast] at hU
 refine sNew H ?_;clear H;intro b1 w _ H
 refine call_j (c55 H hx hb hd.ok) ?_
 rintro _ w ⟨rfl,H⟩
 refine ⟨_,rfl,by simp [isIf],fun h=>absurd h (by decide),fun _=>?_⟩
 refine ⟨_,(H.b0.at0 rfl),?_⟩
 rw [hd.typ]
 refine fF ?_
 rw [hk2] at H
 refine ⟨fun i13 m_9 w=>∃(i:Nat) (L:List Chk) (o:Option Addr) (oc:Nat) (r:Option Nat),i13=(i:Int)/\i+m_9=n/\i % 4=0/\L.length<=i/\(∀Lf,chks k (xs.drop 4)=some Lf->L.length<=k/\∃Lr,chks (k - L.length) (xs.drop i)=some Lr/\Lf=L++Lr) /\
  Sat F w (.blk b1 109 [.bool (hP xs),.int .u8 (k:Int),.int .u8 (hT xs),.int .u16 (hL xs)]::.blk b T [.slice o L.length oc]::.own 255 2 o L.length oc r (L.flatMap Chk.dat)::ex) ro,
  ⟨n - 4,4,[],none,0,none,rfl,by omega,rfl,by simp,fun Lf h=>⟨Nat.zero_le _,Lf,h,rfl⟩,(H.nilOwn 255 2).u2⟩,?_⟩
 clear H;rintro dd8 i13 m_9 w ⟨i,L,o,oc,r,rfl,him,hi4,hLi,hch,H⟩
 refine ⟨fun h=>?_,fun h=>?_⟩
 ·rw [decide_eq_true_eq] at h
  refine sNew H ?_;clear H;intro b14 w _ H
  rw [Int.toNat_natCast]
  refine ⟨by omega,by omega,?_⟩
  have H1:=H.skipB hx i (by omega)
  have hyl:(xs.drop i).length=n - i:=by rw [List.length_drop,hlen]
  refine call_j (c165 H1 ms (hb.drop i) (hE.mono (fun r h=>mt h)) (by omega)) ?_
  clear H H1

  have hnext:∀Lf,chks k (xs.drop 4)=some Lf->∃q l i1 Lr,k - L.length=q+1/\items (xs.drop i) (n - i) 4=some (l,i1)/\8<=n - i/\Lf=L++((n32 (xs.drop i),l)::Lr)/\chks q ((xs.drop i).drop (up4 i1))=some Lr:=by
   intro Lf hLf
   obtain ⟨h1,Lr,h2,h3⟩:=hch Lf hLf
   cases hq:k - L.length with
   | zero=>
    rw [hq] at h2
    unfold chks at h2
    rw [if_neg (by omega)] at h2
    cases h2
   | succ q=>
    rw [hq] at h2
    unfold chks at h2
    split at h2
    ·cases h2
    rename_i h8
    rw [hyl] at h2 h8
    cases h5:items (xs.drop i) (n - i) 4 with
    | none=>rw [h5] at h2;cases h2
    | some p=>
     obtain ⟨l,i1⟩:=p
     rw [h5] at h2
     simp only at h2
     cases h6:zeros (xs.drop i) 3 i1 with
     | none=>rw [h6] at h2;cases h2
     | some j=>
      rw [h6] at h2
      simp only at h2
      obtain rfl:=zeros_up h6
      cases h7:chks q ((xs.drop i).drop (up4 i1)) with
      | none=>rw [h7] at h2;cases h2
      | some Lr2=>
       rw [h7] at h2
       simp only [Option.map_some,Option.some.injEq] at h2
       exact ⟨q,l,i1,Lr2,rfl,rfl,by omega,by rw [h3,<-h2],h7⟩
  rintro en w (⟨hbad,e,cells,rfl,he1,he2,H⟩ | ⟨l,ol,olc,hit,hil,rfl,H⟩)
  ·refine ⟨_,rfl,he1,fun _=>?_,fun h=>by rw [he2] at h;cases h⟩
   refine ⟨e,[.slice o L.length oc],ro,rfl,he1,fun _ h=>h,rfl,H.sub (by exact List.Sublist.cons _ (List.Sublist.cons _ (List.Sublist.cons_cons _ (List.sublist_cons_self _ _)))) (fun r hr=>mt hr),?_⟩
   intro p hp
   obtain ⟨_,hp⟩:=gd_some hp
   rw [hU] at hp
   cases h9:chks k (xs.drop 4) with
   | none=>rw [h9] at hp;cases hp
   | some Lf=>
    obtain ⟨q,l,i1,Lr,_,h5,h8,_,_⟩:=hnext Lf h9
    rcases hbad with h | h
    ·omega
    ·rw [h] at h5;cases h5
  refine ⟨_,rfl,by simp [isIf],fun h=>absurd h (by decide),fun _=>?_⟩
  have hll:=itLen_le l
  refine ⟨r,?_⟩;replace H:=H.drew;generalize w.drew=wd1 at H ⊢;have K:=grew_refl wd1 (r)
  refine ⟨_,rfl,?_⟩
  refine ⟨(H.ne (mt (mt ms)) (mt (mt (mt ms)))),?_⟩
  refine ⟨H.b2.row,?_⟩
  refine ⟨_,_,_,(H.b2.at0 rfl),?_⟩
  refine ⟨(H.ne ms (mt (mt (mt ms)))),?_⟩
  refine ⟨H.b0.row,?_⟩
  refine ⟨_,_,_,_,H.b0.ld,?_⟩
  refine ⟨rfl,?_⟩
  refine sNew H ?_;clear H;intro b23 w g H;replace K:=gtr K (grew_none _ g);clear g
  refine ⟨K,?_⟩
  refine sApp4 H (bytes:=32) (by kernel_rfl) [.int .u32 (n32 (xs.drop i)),.slice ol l.length olc] (Chk.dat (n32 (xs.drop i),l)) (by rfl) (fun j u hu=>by rw [add_flat,Nat.zero_add];exact H.b0.cell hu) (fun G h=>dc (.one _) (dc (h (.deep [_] [_]) ms).head dn)) (by simp [Value.oneCell']) (by unfold maxLen;omega) (by omega) ?_
  clear H;intro x25 x25l x25c x25r w ex25 g H
  replace K:=gtr K g;clear g;replace H:=H.d1
  refine ⟨K,?_⟩
  refine ⟨_,rfl,?_⟩
  refine sSt2 H (by exact add_flat _ _ _) (by kernel_rfl) (by rfl) (by rfl) ?_;clear H;intro w _ H
  refine ⟨_,_,_,_,H.b0.ld,?_⟩
  refine call_j (c164 H ms (by omega)) ?_
  clear H
  rintro _ w ⟨rfl,H⟩
  refine ⟨_,rfl,?_⟩
  subst ex25
  have hu:8<=up4 (4+itLen l+1)/\up4 (4+itLen l+1) % 4=0/\up4 (4+itLen l+1)<=n - i:=by unfold up4;omega
  generalize hup:up4 (4+itLen l+1)=u at hu
  refine ⟨m_9 - u,by omega,i+u,L++[(n32 (xs.drop i),l)],x25,x25c,x25r,?_,by omega,by omega,by simp;omega,?_,?_⟩
  ·rw [wi64_of (by omega) (by omega)];omega
  ·intro Lf hLf
   obtain ⟨q,l2,i1,Lr,hq,h5,_,h6,h7⟩:=hnext Lf hLf
   rw [hit] at h5
   cases h5
   rw [hup,List.drop_drop] at h7
   refine ⟨by simp;omega,Lr,?_,by rw [h6];simp⟩
   rw [List.length_append,List.length_singleton,show k - (L.length+1)=q by omega]
   exact h7
  ·rw [List.flatMap_append,List.length_append]
   simp only [List.flatMap_cons,List.flatMap_nil,List.append_nil]
   exact H.sub (List.sublist_cons_self _ _) (fun r hr=>by simp [hr])
 ·rw [decide_eq_false_iff_not] at h
  obtain rfl:i=n:=by omega
  refine ⟨_,rfl,?_⟩
  replace H:=H.drew;generalize w.drew=w at H ⊢
  refine ⟨_,_,_,(H.b1.at0 rfl),?_⟩
  refine ⟨_,(H.b0.at0 rfl),?_⟩
  rw [wi64_of (n:=(k:Int)) (by omega) (by omega)]
  have hend:∀Lf,chks k (xs.drop 4)=some Lf->L.length=k/\Lf=L:=by
   intro Lf hLf
   obtain ⟨h1,Lr,h2,h3⟩:=hch Lf hLf
   rw [List.drop_of_length_le (by omega)] at h2
   cases hq:k - L.length with
   | zero=>
    rw [hq] at h2
    unfold chks at h2
    rw [if_pos List.length_nil] at h2
    cases h2
    exact ⟨by omega,by rw [h3];simp⟩
   | succ q=>
    rw [hq] at h2
    unfold chks at h2
    rw [if_pos (by decide)] at h2
    cases h2
  refine ⟨fun h2=>?_,fun h2=>?_⟩
  ·have hne:¬((L.length:Nat):Int)=(k:Int):=by simpa using h2
   refine uErr (cells:=[.slice o L.length oc]) H (by exact List.Sublist.cons _ (List.Sublist.cons_cons _ (List.sublist_cons_self _ _))) (fun _ h=>h) hE rfl (gd_none ?_) (by decide)
   rw [hU]
   cases h9:chks k (xs.drop 4) with
   | none=>rfl
   | some Lf=>exact absurd (by rw [(hend Lf h9).1]) hne
  ·replace H:=H.r2.freeze
   refine uOk (cells:=[.slice o L.length oc]) H (List.sublist_cons_self _ _) (fun r hr=>by simp [hr]) rfl ?_
   intro p hp
   obtain ⟨_,hp⟩:=gd_some hp
   rw [hU] at hp
   cases h9:chks k (xs.drop 4) with
   | none=>rw [h9] at hp;cases hp
   | some Lf=>
    rw [h9] at hp
    cases hp
    rw [(hend Lf h9).2]
    exact fun G h=>dc (h (.deep [_] [_]) ms).head dn
theorem sMkS {F:Fr} {w:World} {ex:List Ex} {ro:List Ro} (H:Sat F w ex ro) {P:Program} {t e:TypeId} {kl kc:IntKind} {n bytes size:Nat} (hap:apT P t e size bytes=true) (hn:n<=maxLen) (hb:bytes*n<=281474976710656)
  {ln cp:Int} (hln:ln=(n:Int)) (hcp:cp=(n:Int)) {K:Option Addr->Nat->Nat->World->Prop} (hK:∀b w' cells,cells.length=n*size->w.grownBy w' none->Sat F w' (.blk b e cells::ex) ro->K (some ⟨b,0,none⟩) n n w') :
  ∃a l c,∃w',(Instr.makeSlice t (.int kl ln) (.int kc cp)).run P w=.ok (.slice a l c) w'/\K a l c w':=by
 subst hln;subst hcp
 obtain ⟨ht,i,z',hi,hz',hs,hbb,hzs,h0⟩:=apT_spec hap
 obtain ⟨w',hr,ho,hg⟩:=run_make_full (P:=P) w w.heap.size t e i z' size ht hi hz' hs kl kc n (by rw [hbb];exact hb) hn (Nat.le_refl _)
 refine ⟨_,_,_,w',hr,?_⟩
 rcases ho.2 with ⟨hv,_⟩ | ⟨g,cap,cur,hv,hbg,hgg,hc,hm,hsz,htk⟩
 ·cases hv
 ·simp only [Value.slice.injEq,Option.some.injEq,Addr.mk.injEq] at hv
  obtain ⟨⟨rfl,_⟩,_,rfl⟩:=hv
  refine hK _ w' cur.toList (by rw [Array.length_toList];exact hsz) hg ?_
  refine Sat.step (used:=[]) (used':=[.blk w.heap.size e cur.toList]) (rest:=ex) H ((Gr.of hg).mono (fun k _ h=>by cases h)) (by simp [foots,Ex.foot]) (fun q hq=>?_) (fun e' he _=>?_)
  ·simp only [foots,Ex.foot,List.flatMap_cons,List.flatMap_nil,List.append_nil,List.mem_singleton] at hq
   subst hq
   exact ⟨(Array.getElem?_eq_some_iff.1 hgg).1,.inr (Nat.le_refl _)⟩
  ·simp only [List.mem_singleton] at he
   subst he
   exact (⟨hgg⟩:Blk w' w.heap.size e cur.toList)
theorem sStS {F:Fr} {w:World} {g:Nat} {t:TypeId} {A vs R:List Value} {ex:List Ex} {ro:List Ro} (H:Sat F w (.blk g t (A++R)::ex) ro) {ty:TypeId} {a:Addr} {K:World->Prop} (ha:a=⟨g,A.length,none⟩) (ht:sizeB pg ty vs.length=true) (hR:vs.length<=R.length) (h1:vs.all Value.oneCell'=true)
  (h:∀w',w.grownBy w' (some g)->Sat F w' (.blk g t (A++vs++R.drop vs.length)::ex) ro->K w'):∃w',StV pg ty a (.agg vs.toArray) w w'/\K w':=by
 refine sSt0 H (i:=A.length) ha ht ?_ h1 ?_
 ·exact Nat.ble_eq_true_of_le (by rw [List.length_append];show A.length+vs.length<=_;omega)
 ·intro w' hg H1
  refine h w' hg ?_
  have e:putL (A++R) A.length (Value.agg vs.toArray).cells.toList=A++vs++R.drop vs.length:=by
   show putL (A++R) A.length vs=_
   rw [putL_eq _ _ _ (by rw [List.length_append];omega),List.take_left' rfl,<-List.drop_drop,List.drop_left' rfl]
  rw [e] at H1
  exact H1
def met2 (v:Int):Met:=if v / 32768=1 then met1 v else (false,0,0)
def metV (m:Met):List Value:=[.bool m.1,.int .u8 m.2.1,.int .u16 m.2.2]
theorem metV_dat (m:Met):(metV m).map .one=Met.dat m:=rfl
theorem byte128 {x:Int} (h:0<=x/\x < 256):(iand .u8 x (128:Int) != (0:Int))=(x / 128 == 1)/\iand .u8 (ishr .u8 x (5:Int)) (3:Int)=x / 32 % 4:=by
 refine byte_cases (fun x=>(iand .u8 x (128:Int) != (0:Int))=(x / 128 == 1)/\iand .u8 (ishr .u8 x (5:Int)) (3:Int)=x / 32 % 4) ?_ h.1 h.2
 decide +kernel
theorem c198 {F:Fr} {w:World} {ex:List Ex} {ro:List Ro} {ys:List Int} {a:Option Addr} {n c:Nat} {b:Nat} {T:TypeId} {c0 c1 c2:Value} (H:Sat F w (.blk b T [c0,c1,c2]::ex) ro)
  (hx:Ro.B ys a n c∈ro) (hb:By ys) (hn:n=2):Calls pg 198 #[.pointer (some ⟨b,0,none⟩),.slice a n c] w fun en w'=>en=.returned .nilIface/\Sat F w' (.blk b T (metV (met2 (n16 ys)))::ex) ro:=by
 apply of198
 subst hn
 have h0:=hb.getD 0
 have h1:=hb.getD 1
 have hv:n16 ys=ys.getD 0 0*256+ys.getD 1 0:=rfl
 obtain ⟨f1,f2⟩:=byte128 h0
 refine fF ?_
 obtain ⟨p_2,ep_2,hp_2,_,_⟩:=H.at_ (a:=a) hx (by omega)
 refine ⟨p_2,ep_2,by omega,by omega,?_⟩
 refine ⟨_,hp_2 0 (by omega),?_⟩
 clear hp_2
 rw [f1]
 refine ⟨_,rfl,?_⟩
 refine sSt0 H (by exact add_flat _ _ _) (by kernel_rfl) (by rfl) (by rfl) ?_;clear H;intro w _ H
 refine ⟨_,rfl,?_⟩
 refine ⟨_,(H.b0.at0 rfl),?_⟩
 refine ⟨fun hc=>?_,fun hc=>?_⟩
 ·have hc':¬ys.getD 0 0 / 128=1:=by simpa using hc
  refine ⟨_,rfl,?_⟩
  refine sSt0 H (by exact add_flat _ _ _) (by kernel_rfl) (by rfl) (by rfl) ?_;clear H;intro w _ H
  refine ⟨_,rfl,?_⟩
  refine sSt0 H (by exact add_flat _ _ _) (by kernel_rfl) (by rfl) (by rfl) ?_;clear H;intro w _ H
  refine ⟨rfl,?_⟩
  have e:met2 (n16 ys)=(false,0,0):=by unfold met2;rw [if_neg (by omega)]
  rw [e]
  have e2:(ys.getD 0 0 / 128 == 1)=false:=by rw [beq_eq_false_iff_ne];exact hc'
  rw [e2] at H
  exact H
 ·have hc':ys.getD 0 0 / 128=1:=by simpa using hc
  obtain ⟨p_12,ep_12,hp_12,_,_⟩:=H.at_ (a:=a) hx (by omega)
  refine ⟨p_12,ep_12,by omega,by omega,?_⟩
  refine ⟨_,hp_12 0 (by omega),?_⟩
  clear hp_12
  rw [f2]
  refine ⟨_,rfl,?_⟩
  refine sSt0 H (by exact add_flat _ _ _) (by kernel_rfl) (by rfl) (by rfl) ?_;clear H;intro w _ H
  refine call_j (c90 (Sat.rd H hx) hb (by omega)) ?_
  rintro _ w ⟨rfl,g⟩
  replace H:=H.grow g;clear g
  refine ⟨_,rfl,?_⟩
  refine ⟨_,rfl,?_⟩
  have e3:iand .u16 (n16 ys) (8191:Int)=n16 ys % 8192:=iand_low (k:=.u16) (by rfl) 13 (n16_lt hb).1 (by have:=n16_lt hb;simp only [IntKind.bits];omega) (by omega) (by decide)
  rw [e3]
  refine sSt0 H (by exact add_flat _ _ _) (by kernel_rfl) (by rfl) (by rfl) ?_;clear H;intro w _ H
  refine ⟨rfl,?_⟩
  have e:met2 (n16 ys)=(true,ys.getD 0 0 / 32 % 4,n16 ys % 8192):=by
   unfold met2 met1
   rw [if_pos (by omega)]
   have e4:(n16 ys / 32768 == 1)=true:=by rw [beq_iff_eq];omega
   rw [e4,show n16 ys / 8192 % 4=ys.getD 0 0 / 32 % 4 by omega]
  rw [e]
  have e2:(ys.getD 0 0 / 128 == 1)=true:=by rw [beq_iff_eq];exact hc'
  rw [e2] at H
  exact H
def metsU:Nat->List Int->List Met
 | 0,_=>[]
 | n+1,xs=>met2 (n16 xs)::metsU n (xs.drop 2)
theorem metsU_snoc:∀(i:Nat) (xs:List Int),metsU (i+1) xs=metsU i xs++[met2 (n16 (xs.drop (2*i)))]
 | 0,xs=>by simp [metsU]
 | i+1,xs=>by
  rw [metsU,metsU_snoc i,metsU]
  simp only [List.cons_append,List.drop_drop]
  rw [show 2+2*i=2*(i+1) by omega]
theorem metsU_len:∀(k:Nat) (xs:List Int),(metsU k xs).length=k
 | 0,_=>rfl
 | k+1,xs=>by simp [metsU,metsU_len k]
theorem metsL_U:∀(k:Nat) (xs:List Int) (l:List Met),metsL k xs=some l->l=metsU k xs
 | 0,xs,l,h=>by cases h;rfl
 | k+1,xs,l,h=>by
  unfold metsL at h
  simp only at h
  split at h
  ·cases h
  ·rename_i hv
   cases h2:metsL k (xs.drop 2) with
   | none=>rw [h2] at h;cases h
   | some q=>
    rw [h2] at h
    simp only [Option.map_some,Option.some.injEq] at h
    subst h
    rw [metsL_U k _ _ h2,metsU]
    congr 1
    unfold met2
    split
    ·rfl
    ·rename_i hv2
     have h0:n16 xs=0:=by
      by_cases h0:n16 xs=0
      ·exact h0
      ·exact absurd ⟨hv2,h0⟩ hv
     rw [h0];rfl
def mV (l:List Met):List Value:=l.flatMap metV
theorem mV_len (l:List Met):(mV l).length=3*l.length:=by
 induction l with
 | nil=>rfl
 | cons m r ih=>simp only [mV,List.flatMap_cons,List.length_append] at ih ⊢;rw [ih];simp [metV];omega
theorem mV_dat (l:List Met):l.flatMap Met.dat=(mV l).map .one:=by
 induction l with
 | nil=>rfl
 | cons m r ih=>simp only [mV,List.flatMap_cons,List.map_append] at ih ⊢;rw [ih,metV_dat]
theorem mV_snoc (l:List Met) (m:Met):mV (l++[m])=mV l++metV m:=by simp [mV]
theorem c196 {F:Fr} {w:World} {ex:List Ex} {ro:List Ro} {ys:List Int} {a:Option Addr} {n c:Nat} {b:Nat} {T:TypeId} (H:Sat F w (.blk b T [.int .u32 0,.int .u16 0,.slice none 0 0]::ex) ro)
  (hx:Ro.B ys a n c∈ro) (hb:By ys) (hE:ErrC (n < 8+2*(n16 (ys.drop 6)).toNat) ro) (hn:n<=1000000):Calls pg 196 #[.pointer (some ⟨b,0,none⟩),.slice a n c] w fun en w'=>
   ∃e m bg o k oc ro',en=.returned e/\isIf e/\(∀r∈ro,r∈ro')/\k<=65535/\Sat F w' (.blk b T [.int .u32 m,.int .u16 bg,.slice o k oc]::ex) ro' /\
    (8+2*(n16 (ys.drop 6)).toNat<=n->e=.nilIface/\m=n32 ys/\bg=n16 (ys.drop 4)/\k=(n16 (ys.drop 6)).toNat/\Ro.deep [.row 3 ((metsU k (ys.drop 8)).flatMap Met.dat)] [.slice o k oc]∈ro'):=by
 apply of196
 have hlen:=H.lenB hx
 have hnc:n<=c:=(H.deep1 hx).len.2.1
 refine ⟨fun hc=>?_,fun hc=>?_⟩
 ·rw [decide_eq_true_eq] at hc
  obtain ⟨v,h1,h2⟩:=hE.rest (by omega) 22 (by decide)
  exact ⟨v,H.cell h1 rfl,v,0,0,none,0,0,ro,rfl,h2,fun _ h=>h,by omega,H,fun h=>by omega⟩
 rw [decide_eq_false_iff_not] at hc
 refine ⟨by omega,by omega,?_⟩
 have H4:=H.cutB hx 0 4 (by omega) (by omega)
 refine call_j (c150 (Sat.rd H4 ms) ((hb.drop 0).take _) (by omega)) ?_
 clear H4
 rintro _ w ⟨rfl,g⟩
 replace H:=H.grow g;clear g
 rw [n32_takem (by decide),List.drop_zero]
 refine ⟨_,rfl,?_⟩
 refine ⟨_,rfl,?_⟩
 refine sSt0 H (by exact add_flat _ _ _) (by kernel_rfl) (by rfl) (by rfl) ?_;clear H;intro w _ H
 refine ⟨by omega,by omega,?_⟩
 refine ⟨by omega,by omega,?_⟩
 have H4:=H.cutB hx 4 6 (by omega) (by omega)
 refine call_j (c90 (Sat.rd H4 ms) ((hb.drop 4).take _) (by omega)) ?_
 clear H4
 rintro _ w ⟨rfl,g⟩
 replace H:=H.grow g;clear g
 rw [show (6:Nat) - 4=2 by rfl,n16_take]
 refine ⟨_,rfl,?_⟩
 refine ⟨_,rfl,?_⟩
 refine sSt0 H (by exact add_flat _ _ _) (by kernel_rfl) (by rfl) (by rfl) ?_;clear H;intro w _ H
 refine ⟨by omega,by omega,?_⟩
 refine call_j (c90 (Rd.skip (Sat.rd H hx) _ (by omega)) (hb.drop 6) (by omega)) ?_
 rintro _ w ⟨rfl,g⟩
 replace H:=H.grow g;clear g
 refine ⟨_,rfl,?_⟩
 have hnum:=n16_lt (hb.drop 6)
 generalize hN:n16 (ys.drop 6)=N at hnum ⊢
 obtain ⟨k,rfl⟩:=Int.eq_ofNat_of_zero_le hnum.1
 rw [wi64_of (n:=(k:Int)) (by omega) (by omega),Int.toNat_natCast]
 refine ⟨fun h0=>?_,fun h0=>?_⟩
 ·have h0:(k:Int)=0:=by simpa using h0
  obtain rfl:k=0:=by omega
  exact ⟨_,n32 ys,n16 (ys.drop 4),none,0,0,_,rfl,trivial,fun r h=>mt h,by omega,H.addRo (r:=.deep [.row 3 ((metsU 0 (ys.drop 8)).flatMap Met.dat)] [.slice none 0 0]) (dc (.emp _ _) dn),fun _=>⟨rfl,rfl,rfl,rfl,ms⟩⟩
 refine ⟨fun h=>by rw [decide_eq_true_eq] at h;omega,fun _=>?_⟩
 rw [wi64_of (n:=(k:Int)*2) (by omega) (by omega),wi64_of (n:=8+(k:Int)*2) (by omega) (by omega)]
 refine ⟨fun h=>?_,fun h=>?_⟩
 ·rw [decide_eq_true_eq] at h
  obtain ⟨v,h1,h2⟩:=hE.rest (by rw [hN];omega) 23 (by decide)
  exact ⟨v,H.cell h1 rfl,v,_,_,none,0,0,ro,rfl,h2,fun _ h=>h,by omega,H,fun h=>by omega⟩
 rw [decide_eq_false_iff_not] at h
 refine sMkS H (bytes:=4) (size:=3) (e:=281) (by kernel_rfl) (by unfold maxLen;omega) (by omega) (n:=k) rfl rfl ?_
 clear H;intro g w cells hcl _ H
 refine ⟨_,rfl,?_⟩
 refine sSt1 H (by exact add_flat _ _ _) (by kernel_rfl) (by rfl) (by rfl) ?_;clear H;intro w _ H
 refine ⟨fun x24 m_20 w=>∃(i:Nat) (R:List Value),x24=(i:Int)/\i+m_20=k/\R.length=3*(k - i) /\
  Sat F w (.blk g 281 (mV (metsU i (ys.drop 8))++R)::.blk b T [.int .u32 (n32 ys),.int .u16 (n16 (ys.drop 4)),.slice (some ⟨g,0,none⟩) k k]::ex) ro,⟨k,0,cells,rfl,by omega,by omega,H⟩,?_⟩
 clear H;rintro dd19 x24 m_20 w ⟨i,R,rfl,him,hRl,H⟩
 refine ⟨fun h2=>?_,fun h2=>?_⟩
 ·rw [decide_eq_true_eq] at h2
  refine sNew H ?_;clear H;intro b25 w _ H
  have e8:IntKind.i64.wrap ((8:Int)+(IntKind.i64.wrap ((2:Int)*(i:Int))))=((8+2*i:Nat):Int):=by rw [wi64_of (n:=2*(i:Int)) (by omega) (by omega),wi64_of (by omega) (by omega)];omega
  rw [e8,wi64_of (n:=((8+2*i:Nat):Int)+2) (by omega) (by omega),show (((8+2*i:Nat):Int)+2).toNat=10+2*i by omega,Int.toNat_natCast,show 10+2*i - (8+2*i)=2 by omega]
  refine ⟨by omega,by omega,?_⟩
  refine ⟨by omega,by omega,?_⟩
  have H1:=H.cutB hx (8+2*i) (10+2*i) (by omega) (by omega)
  rw [show 10+2*i - (8+2*i)=2 by omega] at H1
  refine call_j (c198 H1 ms ((hb.drop _).take _) rfl) ?_
  clear H H1
  rintro _ w ⟨rfl,H⟩
  rw [n16_take] at H
  refine ⟨_,rfl,by simp [isIf],fun h=>absurd h (by decide),fun _=>?_⟩
  refine ⟨_,rfl,?_⟩
  replace H:=H.drew;generalize w.drew=w at H ⊢
  refine ⟨_,_,_,(H.b2.at0 rfl),?_⟩
  refine ⟨_,_,_,Ld0 rfl H.b0 (by kernel_rfl),?_⟩
  refine ⟨_,rfl,by omega,by omega,?_⟩
  have hml:(mV (metsU i (ys.drop 8))).length=3*i:=by rw [mV_len,metsU_len]
  refine sStS H.r1 (vs:=metV (met2 (n16 (ys.drop (8+2*i))))) (by rw [add_flat,show (i:Int).toNat*3=3*i by omega,Nat.zero_add,hml]) (by kernel_rfl) (by show 3<=R.length;omega) (by rfl) ?_
  clear H;intro w _ H
  refine ⟨m_20 - 1,by omega,i+1,R.drop 3,?_,by omega,by rw [List.length_drop];omega,?_⟩
  ·rw [wi64_of (by omega) (by omega)];simp
  ·rw [metsU_snoc,mV_snoc,List.drop_drop]
   exact H.sub (List.Sublist.cons_cons _ (List.sublist_cons_self _ _)) (fun r hr=>mt hr)
 ·rw [decide_eq_false_iff_not] at h2
  obtain rfl:i=k:=by omega
  have hR0:R=[]:=List.eq_nil_of_length_eq_zero (by omega)
  subst hR0
  rw [List.append_nil] at H
  have H1:=H.blkRow 3 i ((metsU i (ys.drop 8)).flatMap Met.dat) (by rw [mV_len,metsU_len];omega) (by unfold maxLen;omega) (fun G h=>by rw [mV_dat];exact DeepL.ones _)
  exact ⟨_,_,_,_,i,i,_,rfl,trivial,fun r h=>mt h,by omega,H1,fun _=>⟨rfl,rfl,rfl,rfl,ms⟩⟩
theorem c195 {F:Fr} {w:World} {ex:List Ex} {ro:List Ro} {b k oc:Nat} {T:TypeId} {m bg:Value} {o:Option Addr} (H:Sat F w (.blk b T [m,bg,.slice o k oc]::ex) ro) (hk:k<=65535) :
  Calls pg 195 #[.pointer (some ⟨b,0,none⟩)] w fun en w'=>en=.returned (.int .i64 ((8+2*(k+k % 2):Nat):Int))/\Sat F w' (.blk b T [m,bg,.slice o k oc]::ex) ro:=by
 apply of195
 refine ⟨_,rfl,?_⟩
 refine ⟨_,_,_,(H.b0.at0 rfl),?_⟩
 refine ⟨by decide,?_⟩
 have ht:((k:Nat):Int).tmod 2=((k % 2:Nat):Int):=by rw [Int.tmod_eq_emod_of_nonneg (by omega)];omega
 rw [ht]
 refine ⟨fun h=>?_,fun h=>?_⟩
 ·have h0:¬((k % 2:Nat):Int)=0:=by simpa using h
  refine ⟨?_,H⟩
  rw [wi64_of (n:=(k:Int)+1) (by omega) (by omega),wi64_of (n:=2*((k:Int)+1)) (by omega) (by omega),wi64_of (by omega) (by omega)]
  congr 2
  omega
 ·have h0:((k % 2:Nat):Int)=0:=by simpa using h
  refine ⟨?_,H⟩
  rw [wi64_of (n:=2*(k:Int)) (by omega) (by omega),wi64_of (by omega) (by omega)]
  congr 2
  omega
theorem c192 {F:Fr} {w:World} {ex:List Ex} {ro:List Ro} {xs:List Int} {a:Option Addr} {n c:Nat} {b:Nat} {T:TypeId} {c0 c1 c2:Value} (H:Sat F w (.blk b T [c0,c1,c2]::ex) ro)
  (hx:Ro.B xs a n c∈ro) (hb:By xs) (hE:ErrC (gd xs=none) ro) (hd:Hd xs 205 11) (hn:n<=1000000):Calls pg 192 #[.pointer (some ⟨b,0,none⟩),.slice a n c] w (UPost F b T 3 ex ro (gd xs)):=by
 apply of192
 have hlen:=H.lenB hx
 have hk:kindOf (hT xs) (hC xs)=8:=by rw [hd.typ,hd.cnt];rfl
 have hU:=rdBody_fb hk (by decide)
 rw [List.length_drop] at hU
 have hU2:¬xs.length - 4 < 8->rdBody xs=rdCc (n32 (xs.drop 4)) (xs.drop 8):=by
  intro h
  rw [hU,if_neg h]
  unfold rdFb
  simp only
  rw [if_neg (by decide),if_neg (by decide),if_neg (by decide),if_neg (by decide),if_neg (by decide),if_pos trivial,List.drop_drop]
 refine ⟨fun hc=>?_,fun hc=>?_⟩
 ·rw [decide_eq_true_eq] at hc
  exact uErr H (List.Sublist.refl _) (fun _ h=>h) hE rfl (gd_none (by rw [hU,if_pos (by omega)])) (by decide)
 rw [decide_eq_false_iff_not] at hc
 refine sNew H ?_;clear H;intro b2 w _ H
 refine call_j (c55 H hx hb hd.ok) ?_
 rintro _ w ⟨rfl,H⟩
 refine ⟨_,rfl,by simp [isIf],fun h=>absurd h (by decide),fun _=>?_⟩
 refine ⟨_,(H.b0.at0 rfl),?_⟩
 rw [hd.typ]
 refine fF ?_
 refine ⟨by omega,by omega,?_⟩
 refine call_j (c150 (Rd.skip (Sat.rd H hx) _ (by omega)) (hb.drop 4) (by omega)) ?_
 rintro _ w ⟨rfl,g⟩
 replace H:=H.grow g;clear g
 refine ⟨_,rfl,?_⟩
 refine ⟨_,rfl,?_⟩
 refine sSt1 H (by exact add_flat _ _ _) (by kernel_rfl) (by rfl) (by rfl) ?_;clear H;intro w _ H
 have e4:IntKind.i64.wrap (((n:Nat):Int) - (4:Int))=((n - 4:Nat):Int):=by rw [wi64_of (by omega) (by omega)];omega
 rw [e4,Int.toNat_natCast]
 refine ⟨by omega,by omega,?_⟩
 refine call_j (c150 (Rd.skip (Sat.rd H hx) _ (by omega)) (hb.drop (n - 4)) (by omega)) ?_
 rintro _ w ⟨rfl,g⟩
 replace H:=H.grow g;clear g
 refine ⟨_,rfl,?_⟩
 refine ⟨_,rfl,?_⟩
 refine sSt1 H (by exact add_flat _ _ _) (by kernel_rfl) (by rfl) (by rfl) ?_;clear H;intro w _ H
 refine sNew H ?_;clear H;intro b16 w _ H
 refine ⟨_,rfl,?_⟩
 refine sSt2 H (by exact add_flat _ _ _) (by kernel_rfl) (by rfl) (by rfl) ?_;clear H;intro w _ H
 have H0:=(H.toOwn 3 0 [] (by rfl) (by decide) (fun G h=>DeepL.nil _ _)).u2
 clear H
 have H:=H0
 clear H0
 refine ⟨fun off m_22 w=>∃(i t:Nat) (ds:List Dat) (o:Option Addr) (oc:Nat) (r:Option Nat),off=(i:Int)/\m_22=n - i/\t<=i/\i<=n+131080/\8<=i /\
  (∀lf yf,blocksL (xs.drop 8).length (xs.drop 8)=some (lf,yf)->∃L f lr,ds=L.flatMap Blo.dat/\L.length=t/\blocksL f (xs.drop i)=some (lr,yf)/\lf=L++lr) /\
  Sat F w (.blk b2 109 [.bool (hP xs),.int .u8 (hC xs),.int .u8 (hT xs),.int .u16 (hL xs)]::.blk b T [.int .u32 (n32 (xs.drop 4)),.slice o t oc,.int .u32 (n32 (xs.drop (n - 4)))]::.own 278 3 o t oc r ds::ex) ro,
  ⟨n - 8,8,0,[],_,0,_,rfl,rfl,by omega,by omega,by omega,fun lf yf h=>⟨[],_,lf,rfl,rfl,h,rfl⟩,H⟩,?_⟩
 clear H;rintro dd21 off m_22 w ⟨i,t,ds,o,oc,r,rfl,rfl,hti,hin,hi8,hch,H⟩
 refine ⟨fun h=>?_,fun h=>?_⟩
 ·rw [decide_eq_true_eq] at h
  refine sNew H ?_;clear H;intro b27 w _ H
  rw [Int.toNat_natCast]
  refine ⟨by omega,by omega,?_⟩
  have H1:=H.skipB hx i (by omega)
  have hyl:(xs.drop i).length=n - i:=by rw [List.length_drop,hlen]

  have hnext:∀lf yf,blocksL (xs.drop 8).length (xs.drop 8)=some (lf,yf)->∃L f lr l,ds=L.flatMap Blo.dat/\L.length=t/\8+2*((n16 ((xs.drop i).drop 6)).toNat+(n16 ((xs.drop i).drop 6)).toNat % 2)+4<=n - i/\metsL (n16 ((xs.drop i).drop 6)).toNat ((xs.drop i).drop 8)=some l /\
    blocksL f ((xs.drop i).drop (8+2*((n16 ((xs.drop i).drop 6)).toNat+(n16 ((xs.drop i).drop 6)).toNat % 2)))=some (lr,yf)/\lf=L++((n32 (xs.drop i),n16 ((xs.drop i).drop 4),l)::lr):=by
   intro lf yf hlf
   obtain ⟨L,f,lr,h1,h2,h3,h4⟩:=hch lf yf hlf
   cases f with
   | zero=>cases h3
   | succ f=>
    unfold blocksL at h3
    rw [hyl,if_neg (by omega)] at h3
    split at h3
    ·cases h3
    simp only at h3
    split at h3
    ·cases h3
    rename_i hs
    cases h5:metsL (n16 ((xs.drop i).drop 6)).toNat ((xs.drop i).drop 8) with
    | none=>rw [h5] at h3;cases h3
    | some l=>
     rw [h5] at h3
     simp only at h3
     split at h3
     ·cases h3
     cases h6:blocksL f ((xs.drop i).drop (8+2*((n16 ((xs.drop i).drop 6)).toNat+(n16 ((xs.drop i).drop 6)).toNat % 2))) with
     | none=>rw [h6] at h3;cases h3
     | some p=>
      obtain ⟨lr2,yf2⟩:=p
      rw [h6] at h3
      simp only [Option.map_some,Option.some.injEq,Prod.mk.injEq] at h3
      obtain ⟨h7,rfl⟩:=h3
      exact ⟨L,f,lr2,l,h1,h2,by omega,rfl,h6,by rw [h4,<-h7]⟩
  have hgood:∀p,gd xs=some p->8+2*(n16 ((xs.drop i).drop 6)).toNat<=n - i:=by
   intro p hp
   obtain ⟨_,hp⟩:=gd_some hp
   rw [hU2 (by omega)] at hp
   unfold rdCc at hp
   cases h9:blocksL (xs.drop 8).length (xs.drop 8) with
   | none=>rw [h9] at hp;cases hp
   | some q=>
    obtain ⟨lf,yf⟩:=q
    obtain ⟨_,_,_,_,_,_,h10,_⟩:=hnext lf yf h9
    omega
  refine call_j (c196 H1 ms (hb.drop i) ((hE.mono (fun r h=>mt h)).imp (fun hlt=>by
   cases hg:gd xs with
   | none=>rfl
   | some p=>have:=hgood p hg;omega)) (by omega)) ?_
  clear H H1
  rintro en w ⟨e,m,bg,bo,k,boc,ro',rfl,he1,hr',hk',H,hg⟩
  refine ⟨_,rfl,he1,fun he2=>?_,fun he2=>?_⟩
  ·refine ⟨e,[.int .u32 (n32 (xs.drop 4)),.slice o t oc,.int .u32 (n32 (xs.drop (n - 4)))],ro,rfl,he1,fun _ h=>h,rfl,H.sub (by exact List.Sublist.cons _ (List.Sublist.cons _ (List.Sublist.cons_cons _ (List.sublist_cons_self _ _)))) (fun r hr=>hr' r (mt hr)),?_⟩
   intro p hp
   rw [(hg (hgood p hp)).1] at he2
   cases he2
  obtain ⟨nds,hnl,hnd,hng⟩:∃nds:List Dat,nds.length=3/\(∀(w:World) (G:Nat->Prop),(∀r∈ro',Ro.holds w G r)->DeepL w G nds [.int .u32 m,.int .u16 bg,.slice bo k boc])/\(8+2*(n16 ((xs.drop i).drop 6)).toNat<=n - i->nds=Blo.dat (n32 (xs.drop i),n16 ((xs.drop i).drop 4),metsU (n16 ((xs.drop i).drop 6)).toNat ((xs.drop i).drop 8))):=by
   by_cases h9:8+2*(n16 ((xs.drop i).drop 6)).toNat<=n - i
   ·obtain ⟨_,rfl,rfl,rfl,hmem⟩:=hg h9
    exact ⟨_,rfl,fun w G hh=>dc (.one _) (dc (.one _) (dc (hh _ hmem).head dn)),fun _=>rfl⟩
   ·exact ⟨[.one (.int .u32 m),.one (.int .u16 bg),.one (.slice bo k boc)],rfl,fun w G hh=>DeepL.ones [_,_,_],fun h=>absurd h h9⟩
  have hkk:8+2*(n16 ((xs.drop i).drop 6)).toNat<=n - i->k=(n16 ((xs.drop i).drop 6)).toNat:=fun h9=>(hg h9).2.2.2.1
  refine ⟨r,?_⟩;replace H:=H.drew;generalize w.drew=wd1 at H ⊢;have K:=grew_refl wd1 (r)
  refine ⟨_,rfl,?_⟩
  refine ⟨(H.ne (mt (mt ms)) (mt (mt (mt ms)))),?_⟩
  refine ⟨H.b2.row,?_⟩
  refine ⟨_,_,_,(H.b2.at0 rfl),?_⟩
  refine ⟨(H.ne ms (mt (mt (mt ms)))),?_⟩
  refine ⟨H.b0.row,?_⟩
  refine ⟨_,_,_,_,_,H.b0.ld,?_⟩
  refine ⟨rfl,?_⟩
  refine sNew H ?_;clear H;intro b37 w g H;replace K:=gtr K (grew_none _ g);clear g
  refine ⟨K,?_⟩
  refine sApp4 H (bytes:=32) (by kernel_rfl) [.int .u32 m,.int .u16 bg,.slice bo k boc] nds (by rfl) (fun j u hu=>by rw [add_flat,Nat.zero_add];exact H.b0.cell hu) (fun G h=>hnd _ G h) (by simp [Value.oneCell']) (by unfold maxLen;omega) (by omega) ?_
  clear H;intro x39 x39l x39c x39r w ex39 g H
  replace K:=gtr K g;clear g;replace H:=H.d1
  refine ⟨K,?_⟩
  refine ⟨_,rfl,?_⟩
  refine sSt2 H (by exact add_flat _ _ _) (by kernel_rfl) (by rfl) (by rfl) ?_;clear H;intro w _ H
  refine call_j (c195 H hk') ?_
  clear H
  rintro _ w ⟨rfl,H⟩
  refine ⟨_,rfl,?_⟩
  subst ex39
  refine ⟨n - (i+(8+2*(k+k % 2))),by omega,i+(8+2*(k+k % 2)),t+1,ds++nds,x39,x39c,x39r,?_,rfl,by omega,by omega,by omega,?_,H.sub (List.sublist_cons_self _ _) (fun r hr=>hr' r (mt hr))⟩
  ·rw [wi64_of (by omega) (by omega)];omega
  ·intro lf yf hlf
   obtain ⟨L,f,lr,l,h1,h2,h3,h4,h5,h6⟩:=hnext lf yf hlf
   have h9:8+2*(n16 ((xs.drop i).drop 6)).toNat<=n - i:=by omega
   refine ⟨L++[(n32 (xs.drop i),n16 ((xs.drop i).drop 4),l)],f,lr,?_,by simp [h2],?_,by rw [h6];simp⟩
   ·rw [List.flatMap_append,h1,hng h9,metsL_U _ _ _ h4];simp
   ·rw [hkk h9,<-List.drop_drop];exact h5
 ·rw [decide_eq_false_iff_not] at h
  replace H:=H.r2.freeze
  refine uOk (cells:=[.int .u32 (n32 (xs.drop 4)),.slice o t oc,.int .u32 (n32 (xs.drop (n - 4)))]) H (List.sublist_cons_self _ _) (fun r hr=>by simp [hr]) rfl ?_
  intro p hp
  obtain ⟨_,hp⟩:=gd_some hp
  rw [hU2 (by omega)] at hp
  unfold rdCc at hp
  cases h9:blocksL (xs.drop 8).length (xs.drop 8) with
  | none=>rw [h9] at hp;cases hp
  | some q=>
   obtain ⟨lf,yf⟩:=q
   obtain ⟨L,f,lr,h1,h2,h3,h4⟩:=hch lf yf h9
   rw [h9] at hp
   simp only at hp
   split at hp
   ·rename_i hyl
    cases hp
    cases f with
    | zero=>cases h3
    | succ f=>
     unfold blocksL at h3
     rw [if_pos (by rw [List.length_drop];omega)] at h3
     cases h3
     have hi:i=n - 4:=by have:=hyl.1;rw [List.length_drop] at this;omega
     rw [List.append_nil] at h4
     subst h4
     rw [hi]
     subst h1
     exact fun G h=>dc (.one _) (dc (h (.deep [_] [_]) ms).head (dc (.one _) dn))
   ·cases hp
theorem run_f32from {w:World} {b:Int} (h:0<=b/\b < 4294967296):(callFunc 100 #[.int .u32 b]).run pg w=.ok (.value (.float .f32 b.toNat)) w:=by
 rw [run_callFunc_extern (fn:=Tryz.f100) (e:=Extern.MathFloatBits.float32frombits) Tryz.func100 (by kernel_rfl) (by kernel_rfl) (by kernel_rfl) (by kernel_rfl)]
 rfl
theorem c219 {F:Fr} {w:World} {ex:List Ex} {ro:List Ro} {xs ys:List Int} {a a':Option Addr} {n c n' c':Nat} (H:Sat F w ex ro) (hx:Ro.B xs a n c∈ro) (hy:Ro.B ys a' n' c'∈ro) (hbx:By xs) (hby:By ys) :
  Calls pg 219 #[.slice a n c,.slice a' n' c'] w fun en w'=>en=.returned (.bool (decide (xs=ys)))/\w'=w:=by
 apply of219
 refine ⟨_,_,sStr H hx uSl uU8 uStr,?_⟩
 refine ⟨_,_,sStr H hy uSl uU8 uStr,?_⟩
 refine ⟨?_,rfl⟩
 congr 2
 rw [Bool.eq_iff_iff,beq_iff_eq,str_eq hbx hby,decide_eq_true_eq]
theorem sgl_word {m i:Nat} (h0:0 < m) (h1:m < 262144) (hi:i<=63):(i+127+m.log2)*8388608+m*2 ^ (23 - m.log2) % 8388608=sgl m i/\m*2 ^ (23 - m.log2) / 8388608=1/\m.log2<=17:=by
 obtain ⟨hl,h2,h3⟩:=norm_range h0 h1 (k:=23) (by decide)
 have e1:(2:Nat) ^ 23=8388608:=rfl
 have e2:(2:Nat) ^ (23+1)=16777216:=rfl
 rw [e1] at h2
 rw [e2] at h3
 unfold sgl
 generalize m*2 ^ (23 - m.log2)=M at h2 h3 ⊢
 omega
theorem iand_bit23 {M:Nat} (h1:M < 16777216):iand .u32 (M:Int) (8388608:Int)=if M < 8388608 then 0 else 8388608:=by
 have e:=iand_nat (k:=.u32) (by rfl) (a:=M) (b:=8388608) (by simp only [IntKind.bits];omega) (by decide)
 rw [show ((8388608:Nat):Int)=8388608 from rfl] at e
 have key:M &&& 2 ^ 23=if M < 8388608 then 0 else 8388608:=by
  apply Nat.eq_of_testBit_eq
  intro i
  rw [Nat.testBit_and,Nat.testBit_two_pow]
  by_cases h:M < 8388608
  ·rw [if_pos h,Nat.zero_testBit]
   by_cases hi:23=i
   ·subst hi
    rw [Nat.testBit_lt_two_pow h];rfl
   ·simp [hi]
  ·rw [if_neg h,show (8388608:Nat)=2 ^ 23 from rfl,Nat.testBit_two_pow]
   by_cases hi:23=i
   ·subst hi
    rw [Nat.testBit_eq_decide_div_mod_eq]
    have:M / 2 ^ 23=1:=by
     rw [show (2:Nat) ^ 23=8388608 from rfl];omega
    rw [this];rfl
   ·simp [hi]
 rw [e,show (8388608:Nat)=2 ^ 23 from rfl,key]
 by_cases h:M < 8388608
 ·rw [if_pos h,if_pos h];rfl
 ·rw [if_neg h,if_neg h];rfl
theorem byteR {x:Int} (h:0<=x/\x < 256):ishr .u8 x (6:Int)=x / 64/\iand .u8 (ishr .u8 x (5:Int)) (1:Int)=x / 32 % 2/\iand .u8 x (31:Int)=x % 32/\ishr .u8 x (2:Int)=x / 4/\iand .u8 x (3:Int)=x % 4:=by
 refine byte_cases (fun x=>ishr .u8 x (6:Int)=x / 64/\iand .u8 (ishr .u8 x (5:Int)) (1:Int)=x / 32 % 2/\iand .u8 x (31:Int)=x % 32/\ishr .u8 x (2:Int)=x / 4/\iand .u8 x (3:Int)=x % 4) ?_ h.1 h.2
 decide +kernel
theorem mant_word {x y z:Int} (hx:0<=x/\x < 256) (hy:0<=y/\y < 256) (hz:0<=z/\z < 256) :
  ior .u32 (ior .u32 (ishl .u32 (IntKind.u32.wrap (x % 4)) (16:Int)) (ishl .u32 (IntKind.u32.wrap y) (8:Int))) (IntKind.u32.wrap z)=(x % 4)*65536+y*256+z:=by
 rw [ishl_of (b:=(16:Int)) 16 (by rfl) (by decide),ishl_of (b:=(8:Int)) 8 (by rfl) (by decide),wu32,wu32,wu32,wu32,wu32]
 rw [show z % 4294967296=z by omega,show y % 4294967296*2 ^ 8 % 4294967296=y*256 by omega,show x % 4 % 4294967296*2 ^ 16 % 4294967296=x % 4*65536 by omega]
 rw [ior_add (k:=.u32) (by rfl) 16 (x % 4) (a:=x % 4*65536) (b:=y*256) (by omega) (by omega) (by omega) (by omega) (by simp only [IntKind.bits];omega)]
 rw [ior_add (k:=.u32) (by rfl) 8 (x % 4*256+y) (a:=x % 4*65536+y*256) (b:=z) (by omega) (by omega) hz.1 (by omega) (by simp only [IntKind.bits];omega)]
theorem bits_word {e M:Int} (he:0<=e/\e < 256) (hM:0<=M/\M < 4294967296):ior .u32 (ishl .u32 (IntKind.u32.wrap e) (23:Int)) (iand .u32 M (8388607:Int))=e*8388608+M % 8388608:=by
 rw [ishl_of (b:=(23:Int)) 23 (by rfl) (by decide),wu32,wu32,iand_low (k:=.u32) (by rfl) 23 hM.1 (by simp only [IntKind.bits];omega) (by rfl) (by decide)]
 rw [show e % 4294967296*2 ^ 23 % 4294967296=e*8388608 by omega,show M % 2 ^ 23=M % 8388608 by rfl]
 exact ior_add (k:=.u32) (by rfl) 23 e (by rfl) he.1 (by omega) (by omega) (by simp only [IntKind.bits];omega)
theorem c217 {F:Fr} {w:World} {ex:List Ex} {ro:List Ro} {xs:List Int} {a:Option Addr} {n c:Nat} {b:Nat} {T:TypeId} {c0 c1:Value} (H:Sat F w (.blk b T [c0,c1,.slice none 0 0]::ex) ro)
  (hx:Ro.B xs a n c∈ro) (hb:By xs) (hE:ErrC (gd xs=none) ro) (hd:Hd xs 206 15) (hn:n<=1000000):Calls pg 217 #[.pointer (some ⟨b,0,none⟩),.slice a n c] w (UPost F b T 3 ex ro (gd xs)):=by
 apply of217
 have hlen:=H.lenB hx
 have hnc:n<=c:=(H.deep1 hx).len.2.1
 have hk:kindOf (hT xs) (hC xs)=12:=by rw [hd.typ,hd.cnt];rfl
 have hU0:=rdBody_fb hk (by decide)
 rw [List.length_drop] at hU0
 have hU:rdBody xs=if xs.length - 4 < 8 then none else rdRemb (n32 (xs.drop 4)) (n32 (xs.drop 8)) (xs.drop 12):=by
  rw [hU0]
  by_cases h:xs.length - 4 < 8
  ·rw [if_pos h,if_pos h]
  ·rw [if_neg h,if_neg h]
   unfold rdFb
   simp only
   rw [if_neg (by decide),if_neg (by decide),if_neg (by decide),if_neg (by decide),if_pos trivial,List.drop_drop,List.drop_drop]
 clear hU0
 have hbl:(xs.drop 12).length=n - 12:=by rw [List.length_drop,hlen]
 have hLn:=hd.len
 rw [hlen] at hLn
 have hok:=hd.ok
 simp only [hdrOk,Bool.and_eq_true,decide_eq_true_eq,beq_iff_eq] at hok
 have h0:=hb.getD 0
 obtain ⟨f1,f2,f3,_,_⟩:=byteR h0
 have hcnt:xs.getD 0 0 % 32=15:=hd.cnt
 have htyp:xs.getD 1 0=206:=hd.typ
 refine ⟨fun hc=>?_,fun hc=>?_⟩
 ·rw [decide_eq_true_eq] at hc
  refine uErr H (List.Sublist.refl _) (fun _ h=>h) hE rfl (gd_none ?_) (by decide)
  rw [hU]
  split
  ·rfl
  ·unfold rdRemb;rw [if_pos (by omega)]
 rw [decide_eq_false_iff_not] at hc
 have hU2:rdBody xs=rdRemb (n32 (xs.drop 4)) (n32 (xs.drop 8)) (xs.drop 12):=by rw [hU,if_neg (by omega)]
 clear hU
 unfold rdRemb at hU2
 rw [if_neg (by omega)] at hU2
 obtain ⟨p,ep,hp,_,_⟩:=H.at_ (a:=a) hx (by omega)
 refine ⟨p,ep,by omega,by omega,?_⟩
 refine ⟨_,hp 0 (by omega),?_⟩
 rw [f1,hok.2]
 refine fF ?_
 refine ⟨p,ep,by omega,by omega,?_⟩
 refine ⟨_,hp 0 (by omega),?_⟩
 rw [f2]
 refine ⟨fun h=>?_,fun h=>?_⟩
 ·have h':¬xs.getD 0 0 / 32 % 2=0:=by simpa using h
  refine uErr H (List.Sublist.refl _) (fun _ h=>h) hE rfl ?_ (by decide)
  have hpp:hP xs=true:=by unfold hP;rw [beq_iff_eq];omega
  unfold gd
  rw [hpp];rfl
 refine ⟨p,ep,by omega,by omega,?_⟩
 refine ⟨_,hp 0 (by omega),?_⟩
 rw [f3,hcnt]
 refine fF ?_
 refine ⟨p,ep,by omega,by omega,?_⟩
 refine ⟨_,hp 1 (by omega),?_⟩
 rw [htyp]
 refine fF ?_
 clear hp ep
 refine ⟨by omega,by omega,?_⟩
 refine ⟨by omega,by omega,?_⟩
 have H1:=H.cutB hx 2 4 (by omega) (by omega)
 refine call_j (c90 (Sat.rd H1 ms) ((hb.drop 2).take _) (by omega)) ?_
 clear H1
 rintro _ w ⟨rfl,g⟩
 replace H:=H.grow g;clear g
 rw [show (4:Nat) - 2=2 by rfl,n16_take]
 refine ⟨_,rfl,?_⟩
 have hLL:n16 (xs.drop 2)=hL xs:=rfl
 have eZ:IntKind.i64.wrap (IntKind.u16.wrap ((IntKind.u16.wrap (n16 (xs.drop 2)+(1:Int)))*(4:Int)))=((n % 65536:Nat):Int):=by
  rw [hLL,wu16,wu16,wi64_of (by omega) (by omega)];omega
 rw [eZ]
 refine ⟨fun h=>?_,fun h=>?_⟩
 ·rw [decide_eq_true_eq] at h
  refine uErr H (List.Sublist.refl _) (fun _ h=>h) hE rfl (gd_none ?_) (by decide)
  rw [hU2]
  split
  ·rfl
  split
  ·rfl
  rw [if_pos (by have:=(hb.drop 12).getD 4;omega)]
 rw [decide_eq_false_iff_not] at h
 refine ⟨fun h2=>by rw [decide_eq_true_eq] at h2;omega,fun _=>?_⟩
 refine ⟨by omega,by omega,?_⟩
 refine ⟨by omega,by omega,?_⟩
 have H1:=H.cutB hx 4 8 (by omega) (by omega)
 refine call_j (c150 (Sat.rd H1 ms) ((hb.drop 4).take _) (by omega)) ?_
 clear H1
 rintro _ w ⟨rfl,g⟩
 replace H:=H.grow g;clear g
 rw [n32_takem (by decide)]
 refine ⟨_,rfl,?_⟩
 refine ⟨_,rfl,?_⟩
 refine sSt0 H (by exact add_flat _ _ _) (by kernel_rfl) (by rfl) (by rfl) ?_;clear H;intro w _ H
 refine ⟨by omega,by omega,?_⟩
 refine ⟨by omega,by omega,?_⟩
 have H1:=H.cutB hx 8 12 (by omega) (by omega)
 refine call_j (c150 (Sat.rd H1 ms) ((hb.drop 8).take _) (by omega)) ?_
 clear H1
 rintro _ w ⟨rfl,g⟩
 replace H:=H.grow g;clear g
 rw [n32_takem (by decide)]
 refine ⟨_,rfl,?_⟩
 refine ⟨fun h2=>?_,fun h2=>?_⟩
 ·have h3:n32 (xs.drop 8)≠0:=by simpa using h2
  exact uErr (cells:=[.int .u32 (n32 (xs.drop 4)),c1,.slice none 0 0]) H (List.Sublist.refl _) (fun _ h=>h) hE rfl (gd_none (by rw [hU2,if_pos h3])) (by decide)
 have h3:¬n32 (xs.drop 8)≠0:=by simpa using h2
 rw [if_neg h3] at hU2
 refine ⟨by omega,by omega,?_⟩
 refine ⟨by omega,by omega,?_⟩
 refine sNew H ?_;clear H;intro b25 w _ H
 have H1:=(H.blkRow 1 4 (ob [82,69,77,66]) (by rfl) (by decide) (fun G h=>DeepL.ones [_,_,_,_]))
 have H2:=H1.cutB (mt hx) 12 16 (by omega) (by omega)
 refine call_j (c219 (xs:=(xs.drop 12).take (16 - 12)) (ys:=[82,69,77,66]) H2 ms (mt ms) ((hb.drop 12).take _) (by intro x hx;simp at hx;omega)) ?_
 clear H2
 rintro _ w' ⟨rfl,rfl⟩
 replace H:=H1.sub (List.Sublist.refl _) (fun r h=>mt h)
 clear H1
 refine ⟨_,rfl,?_⟩
 refine ⟨fun h4=>?_,fun h4=>?_⟩
 ·have h5:(xs.drop 12).take 4≠[82,69,77,66]:=by simpa using h4
  exact uErr (cells:=[.int .u32 (n32 (xs.drop 4)),c1,.slice none 0 0]) H (List.Sublist.refl _) (fun _ h=>h) hE rfl (gd_none (by rw [hU2,if_pos h5])) (by decide)
 have h5:¬(xs.drop 12).take 4≠[82,69,77,66]:=by simpa using h4
 rw [if_neg h5] at hU2
 obtain ⟨p,ep,hp,_,_⟩:=H.at_ (a:=a) hx (by omega)
 refine ⟨p,ep,by omega,by omega,?_⟩
 refine ⟨_,hp 16 (by omega),?_⟩
 have hgd:(xs.drop 12).getD 4 0=xs.getD 16 0:=getD_drop _ _ _
 have h16:=hb.getD 16
 rw [hgd] at hU2
 generalize xs.getD 16 0=y at h16 hU2 ⊢
 obtain ⟨num,rfl⟩:=Int.eq_ofNat_of_zero_le h16.1
 rw [Int.toNat_natCast] at hU2
 rw [wi64_of (n:=(num:Int)) (by omega) (by omega),wi64_of (n:=4*(num:Int)) (by omega) (by omega),wi64_of (n:=20+4*(num:Int)) (by omega) (by omega)]
 refine ⟨fun h6=>?_,fun h6=>?_⟩
 ·have h7:¬((n % 65536:Nat):Int)=20+4*(num:Int):=by simpa using h6
  exact uErr (cells:=[.int .u32 (n32 (xs.drop 4)),c1,.slice none 0 0]) H (List.Sublist.refl _) (fun _ h=>h) hE rfl (gd_none (by rw [hU2,if_pos (by omega)])) (by decide)
 have h7:((n % 65536:Nat):Int)=20+4*(num:Int):=by simpa using h6
 refine ⟨p,ep,by omega,by omega,?_⟩
 refine ⟨_,hp 17 (by omega),?_⟩
 refine ⟨p,ep,by omega,by omega,?_⟩
 clear hp
 replace H:=H.drew;generalize w.drew=w at H ⊢
 obtain ⟨p',ep',hp,_,_⟩:=H.at_ (a:=a) hx (by omega)
 rw [ep] at ep'
 cases ep'
 refine ⟨_,hp 17 (by omega),?_⟩
 refine ⟨p,ep,by omega,by omega,?_⟩
 refine ⟨_,hp 18 (by omega),?_⟩
 refine ⟨p,ep,by omega,by omega,?_⟩
 refine ⟨_,hp 19 (by omega),?_⟩
 clear hp ep
 have h17:=hb.getD 17
 have h18:=hb.getD 18
 have h19:=hb.getD 19
 obtain ⟨_,_,_,g4,g5⟩:=byteR h17
 have eexp:IntKind.u8.wrap ((IntKind.u8.wrap ((ishr .u8 (xs.getD 17 0) (2:Int))+(127:Int)))+(23:Int))=xs.getD 17 0 / 4+150:=by rw [g4,wu8,wu8];omega
 rw [eexp,g5,mant_word h17 h18 h19]
 have hn24:n24 ((xs.drop 12).drop 5)=xs.getD 17 0*65536+xs.getD 18 0*256+xs.getD 19 0:=by
  rw [List.drop_drop];unfold n24;rw [getD_drop,getD_drop,getD_drop]
 rw [hn24] at hU2
 have hmq:(xs.getD 17 0*65536+xs.getD 18 0*256+xs.getD 19 0) % 262144=xs.getD 17 0 % 4*65536+xs.getD 18 0*256+xs.getD 19 0/\(xs.getD 17 0*65536+xs.getD 18 0*256+xs.getD 19 0) / 262144=xs.getD 17 0 / 4:=by omega
 rw [hmq.1,hmq.2] at hU2
 clear hn24 hmq eexp g4 g5
 have hm:0<=xs.getD 17 0 % 4*65536+xs.getD 18 0*256+xs.getD 19 0/\xs.getD 17 0 % 4*65536+xs.getD 18 0*256+xs.getD 19 0 < 262144:=by omega
 have he:0<=xs.getD 17 0 / 4/\xs.getD 17 0 / 4<=63:=by omega
 generalize xs.getD 17 0 % 4*65536+xs.getD 18 0*256+xs.getD 19 0=mm at hm hU2 ⊢
 generalize xs.getD 17 0 / 4=ee at he hU2 ⊢
 obtain ⟨m,rfl⟩:=Int.eq_ofNat_of_zero_le hm.1
 obtain ⟨e,rfl⟩:=Int.eq_ofNat_of_zero_le he.1
 rw [Int.toNat_natCast,Int.toNat_natCast] at hU2
 refine ⟨fun h8=>?_,fun h8=>?_⟩
 ·have hm0:0 < m:=by
   have:¬(m:Int)=0:=by simpa using h8
   omega
  obtain ⟨w1,w2,w3⟩:=sgl_word (i:=e) hm0 (by omega) (by omega)
  refine ⟨fun exp47 mant48 m_43 w=>∃j:Nat,exp47=(e:Int)+150 - (j:Int)/\mant48=((m*2 ^ j:Nat):Int)/\j+m_43=23 - m.log2/\Sat F w (.blk b T [.int .u32 (n32 (xs.drop 4)),c1,.slice none 0 0]::ex) ro,⟨23 - m.log2,0,by omega,by simp,by omega,H⟩,?_⟩
  clear H;rintro dd42 exp47 mant48 m_43 w ⟨j,rfl,rfl,hjm,H⟩
  have hpj:m*2 ^ j<=m*2 ^ (23 - m.log2):=Nat.mul_le_mul_left _ (Nat.pow_le_pow_right (by decide) (by omega))
  have hM:m*2 ^ j < 16777216:=by omega
  have hpos:1<=m*2 ^ j:=Nat.mul_pos hm0 (Nat.two_pow_pos _)
  rw [iand_bit23 hM]
  refine ⟨fun h9=>?_,fun h9=>?_⟩
  ·have hlt:m*2 ^ j < 8388608:=by
    by_cases hq:m*2 ^ j < 8388608
    ·exact hq
    ·rw [if_neg hq] at h9;exact absurd h9 (by decide)
   have hj:j≠23 - m.log2:=by
    intro hj;rw [hj] at hlt;omega
   refine ⟨m_43 - 1,by omega,j+1,?_,?_,by omega,H⟩
   ·rw [wu8];omega
   ·rw [wu32,Nat.pow_succ,<-Nat.mul_assoc];omega
  ·have hge:8388608<=m*2 ^ j:=by
    by_cases hq:m*2 ^ j < 8388608
    ·rw [if_pos hq] at h9;exact absurd h9 (by decide)
    ·omega
   have hj:j=23 - m.log2:=by
    by_cases hj:j=23 - m.log2
    ·exact hj
    ·exfalso
     have h10:m*2 ^ (j+1)<=m*2 ^ (23 - m.log2):=Nat.mul_le_mul_left _ (Nat.pow_le_pow_right (by decide) (by omega))
     rw [Nat.pow_succ,<-Nat.mul_assoc] at h10
     omega
   subst hj
   have hw:ior .u32 (ishl .u32 (IntKind.u32.wrap ((e:Int)+150 - ((23 - m.log2:Nat):Int))) (23:Int)) (iand .u32 ((m*2 ^ (23 - m.log2):Nat):Int) (8388607:Int))=((sgl m e:Nat):Int):=by
    rw [bits_word (by omega) (by omega)]
    omega
   rw [hw]
   have hsl:sgl m e < 4294967296:=by omega
   refine ⟨_,_,run_f32from (by omega),?_⟩
   rw [Int.toNat_natCast]
   refine ⟨_,rfl,?_⟩
   refine sSt0 H (by exact add_flat _ _ _) (by kernel_rfl) (by rfl) (by rfl) ?_;clear H;intro w _ H
   refine ⟨_,rfl,?_⟩
   refine sSt0 H (by exact add_flat _ _ _) (by kernel_rfl) (by rfl) (by rfl) ?_;clear H;intro w _ H
   refine ⟨fun n61 m_57 w=>∃(i:Nat) (o:Option Addr) (oc:Nat) (r:Option Nat),n61=((20+4*i:Nat):Int)/\i+m_57=num /\
    Sat F w (.blk b T [.int .u32 (n32 (xs.drop 4)),.float .f32 (sgl m e),.slice o i oc]::.own 51 1 o i oc r (oi .u32 (words i (xs.drop 20)))::ex) ro,⟨num,0,none,0,none,rfl,by omega,(H.nilOwn 51 1).u1⟩,?_⟩
   clear H;rintro dd56 n61 m_57 w ⟨i,o,oc,r,rfl,him,H⟩
   refine ⟨fun h=>?_,fun h=>?_⟩
   ·rw [decide_eq_true_eq] at h
    rw [wi64_of (n:=((20+4*i:Nat):Int)+4) (by omega) (by omega),show (((20+4*i:Nat):Int)+4).toNat=24+4*i by omega,Int.toNat_natCast]
    refine ⟨by omega,by omega,?_⟩
    refine ⟨by omega,by omega,?_⟩
    have H1:=H.cutB hx (20+4*i) (24+4*i) (by omega) (by omega)
    refine call_j (c150 (Sat.rd H1 ms) ((hb.drop _).take _) (by omega)) ?_
    clear H1
    rintro _ w ⟨rfl,g⟩
    replace H:=H.grow g;clear g
    rw [n32_takem (by omega)]
    refine ⟨_,rfl,?_⟩
    refine ⟨_,rfl,?_⟩
    refine ⟨_,_,_,(H.b0.at0 rfl),?_⟩
    refine ⟨rfl,?_⟩
    refine sPush1 H (bytes:=4) (by kernel_rfl) [.one (.int .u32 (n32 (xs.drop (20+4*i))))] (by rfl) (fun G h=>by repeat (exact DeepL.ones _)) (by rfl) (by unfold maxLen;omega) (by omega) ?_
    clear H;intro x68 x68l x68c x68r w ex68 _ H
    refine ⟨_,rfl,?_⟩
    refine sSt0 H (by exact add_flat _ _ _) (by kernel_rfl) (by rfl) (by rfl) ?_;clear H;intro w _ H
    subst ex68
    refine ⟨m_57 - 1,by omega,i+1,x68,x68c,x68r,?_,by omega,?_⟩
    ·omega
    ·rw [words_snoc,oi_snoc,List.drop_drop]
     exact H
   ·rw [decide_eq_false_iff_not] at h
    obtain rfl:i=num:=by omega
    replace H:=H.r1.freeze
    refine uOk (cells:=[.int .u32 (n32 (xs.drop 4)),.float .f32 (sgl m e),.slice o i oc]) H (List.Sublist.refl _) (fun r hr=>by simp [hr]) rfl ?_
    intro p hp
    obtain ⟨_,hp⟩:=gd_some hp
    rw [hU2] at hp
    split at hp
    ·cases hp
    split at hp
    ·cases hp
    cases hp
    rw [List.drop_drop]
    exact fun G h=>dc (.one _) (dc (by rw [Int.toNat_natCast];exact .one _) (dc (h (.deep [_] [_]) ms).head dn))
 ·have hm0:m=0:=by
   have:(m:Int)=0:=by simpa using h8
   omega
  subst hm0
  have hw:ior .u32 (ishl .u32 (IntKind.u32.wrap ((e:Int)+150)) (23:Int)) (iand .u32 ((0:Nat):Int) (8388607:Int))=(((e+150)*8388608:Nat):Int):=by
   rw [bits_word (by omega) (by omega)]
   omega
  rw [hw]
  refine ⟨_,_,run_f32from (by omega),?_⟩
  rw [Int.toNat_natCast]
  refine ⟨_,rfl,?_⟩
  refine sSt0 H (by exact add_flat _ _ _) (by kernel_rfl) (by rfl) (by rfl) ?_;clear H;intro w _ H
  refine ⟨_,rfl,?_⟩
  refine sSt0 H (by exact add_flat _ _ _) (by kernel_rfl) (by rfl) (by rfl) ?_;clear H;intro w _ H
  refine ⟨fun n61 m_57 w=>∃(i:Nat) (o:Option Addr) (oc:Nat) (r:Option Nat),n61=((20+4*i:Nat):Int)/\i+m_57=num /\
   Sat F w (.blk b T [.int .u32 (n32 (xs.drop 4)),.float .f32 ((e+150)*8388608),.slice o i oc]::.own 51 1 o i oc r (oi .u32 (words i (xs.drop 20)))::ex) ro,⟨num,0,none,0,none,rfl,by omega,(H.nilOwn 51 1).u1⟩,?_⟩
  clear H;rintro dd56 n61 m_57 w ⟨i,o,oc,r,rfl,him,H⟩
  refine ⟨fun h=>?_,fun h=>?_⟩
  ·rw [decide_eq_true_eq] at h
   rw [wi64_of (n:=((20+4*i:Nat):Int)+4) (by omega) (by omega),show (((20+4*i:Nat):Int)+4).toNat=24+4*i by omega,Int.toNat_natCast]
   refine ⟨by omega,by omega,?_⟩
   refine ⟨by omega,by omega,?_⟩
   have H1:=H.cutB hx (20+4*i) (24+4*i) (by omega) (by omega)
   refine call_j (c150 (Sat.rd H1 ms) ((hb.drop _).take _) (by omega)) ?_
   clear H1
   rintro _ w ⟨rfl,g⟩
   replace H:=H.grow g;clear g
   rw [n32_takem (by omega)]
   refine ⟨_,rfl,?_⟩
   refine ⟨_,rfl,?_⟩
   refine ⟨_,_,_,(H.b0.at0 rfl),?_⟩
   refine ⟨rfl,?_⟩
   refine sPush1 H (bytes:=4) (by kernel_rfl) [.one (.int .u32 (n32 (xs.drop (20+4*i))))] (by rfl) (fun G h=>by repeat (exact DeepL.ones _)) (by rfl) (by unfold maxLen;omega) (by omega) ?_
   clear H;intro x68 x68l x68c x68r w ex68 _ H
   refine ⟨_,rfl,?_⟩
   refine sSt0 H (by exact add_flat _ _ _) (by kernel_rfl) (by rfl) (by rfl) ?_;clear H;intro w _ H
   subst ex68
   refine ⟨m_57 - 1,by omega,i+1,x68,x68c,x68r,?_,by omega,?_⟩
   ·omega
   ·rw [words_snoc,oi_snoc,List.drop_drop]
    exact H
  ·rw [decide_eq_false_iff_not] at h
   obtain rfl:i=num:=by omega
   replace H:=H.r1.freeze
   refine uOk (cells:=[.int .u32 (n32 (xs.drop 4)),.float .f32 ((e+150)*8388608),.slice o i oc]) H (List.Sublist.refl _) (fun r hr=>by simp [hr]) rfl ?_
   intro p hp
   obtain ⟨_,hp⟩:=gd_some hp
   rw [hU2] at hp
   split at hp
   ·cases hp
   rw [if_pos (by simp)] at hp
   cases hp
def go (xs:List Int):Option Pk:=if (rdOne xs).1=0 then some (rdOne xs).2 else none
theorem go_gd {xs:List Int} {t c:Int} (hd:Hd xs t c) (hk:kindOf t c≠0):go xs=gd xs:=by
 have h1:¬hdrOk xs=false:=by rw [hd.ok];decide
 have hU:rdOne xs=if hP xs then (2,{}) else oneOf (rdBody xs):=by
  unfold rdOne
  rw [if_neg h1,if_neg (by have:=hd.len;omega),hd.typ,hd.cnt,if_neg hk]
 unfold go gd
 rw [hU]
 by_cases hp:hP xs=true
 ·rw [if_pos hp,if_pos hp];rfl
 ·rw [if_neg hp,if_neg hp]
  cases rdBody xs<;>rfl
theorem go_raw {xs:List Int} {t c:Int} (hd:Hd xs t c) (hk:kindOf t c=0):go xs=if t=207 then none else some { data:=xs }:=by
 have h1:¬hdrOk xs=false:=by rw [hd.ok];decide
 have hU:rdOne xs=if hT xs=207 then (2,{}) else (0,{ data:=xs }):=by
  unfold rdOne
  rw [if_neg h1,if_neg (by have:=hd.len;omega)]
  have:kindOf (hT xs) (hC xs)=0:=by rw [hd.typ,hd.cnt];exact hk
  rw [if_pos this]
 unfold go
 rw [hU,hd.typ]
 split<;>rfl
theorem hdr_bad {P:Prop} {F:Fr} {w:World} {ex:List Ex} {ro:List Ro} {xs:List Int} {a:Option Addr} {n c:Nat} {b:Nat} {t:TypeId} {cells:List Value} (H:Sat F w (.blk b t cells::ex) ro)
  (hx:Ro.B xs a n c∈ro) (hb:By xs) (hE:ErrC P ro) (hok:hdrOk xs=false):Calls pg 55 #[.pointer (some ⟨b,0,none⟩),.slice a n c] w fun en w'=>∃e,en=.returned e/\isIf e/\isNilI e=false/\Sat F w' (.blk b t cells::ex) ro:=by
 apply of55
 have hlen:=H.lenB hx
 obtain ⟨e1,_,_⟩:=hdr_bits (hb.getD 0)
 refine ⟨fun hc=>?_,fun hc=>?_⟩
 ·obtain ⟨v,h1,h2,h3⟩:=hE.laid 1 (by decide)
  exact ⟨v,H.cell h1 rfl,v,rfl,h2,h3 (by decide),H⟩
 rw [decide_eq_false_iff_not] at hc
 obtain ⟨p,rfl,hp,kp,fp⟩:=H.at_ (a:=a) hx (by omega)
 refine ⟨p,rfl,by omega,by omega,?_⟩
 refine ⟨_,hp 0 (by omega),?_⟩
 rw [e1]
 refine ⟨fun _=>?_,fun hc2=>?_⟩
 ·obtain ⟨v,h1,h2,h3⟩:=hE.laid 2 (by decide)
  exact ⟨v,H.cell h1 rfl,v,rfl,h2,h3 (by decide),H⟩
 ·have h2:xs.getD 0 0 / 64=2:=by simpa using hc2
  have:hdrOk xs=true:=by
   simp only [hdrOk,Bool.and_eq_true,decide_eq_true_eq,beq_iff_eq]
   exact ⟨by omega,h2⟩
  rw [this] at hok
  cases hok
def tyK (k:Int):TypeId:=
 if k=1 then 190 else if k=2 then 195 else if k=3 then 198 else if k=4 then 200 else if k=5 then 204 else
 if k=6 then 207 else if k=7 then 214 else if k=8 then 217 else if k=9 then 222 else if k=10 then 224 else
 if k=11 then 229 else if k=12 then 235 else if k=13 then 240 else 242
def pkI (p:Pk):Dat:=.ifc (tyK p.kind) (.ptr (rtcpD p))
theorem gd_kind {xs:List Int} {t c:Int} (hd:Hd xs t c) (hk:kindOf t c≠0) {p:Pk} (h:gd xs=some p):p.kind=kindOf t c:=by
 obtain ⟨_,hp⟩:=gd_some h
 have hkk:kindOf (hT xs) (hC xs)=kindOf t c:=by rw [hd.typ,hd.cnt]
 unfold rdBody at hp
 simp only [hkk] at hp
 have hkr:kindOf t c=0\/kindOf t c=1\/kindOf t c=2\/kindOf t c=3\/kindOf t c=4\/kindOf t c=5\/kindOf t c=6\/kindOf t c=7\/kindOf t c=8\/kindOf t c=9\/kindOf t c=10\/kindOf t c=11\/kindOf t c=12\/kindOf t c=13:=by
  unfold kindOf
  repeat' (omega)
 generalize kindOf t c=k at hp hkr hk ⊢
 rcases hkr with rfl | rfl | rfl | rfl | rfl | rfl | rfl | rfl | rfl | rfl | rfl | rfl | rfl | rfl
 ·exact absurd rfl hk
 all_goals simp only [rdFb,Int.reduceEq,if_true,if_false,or_true,true_or,or_self] at hp
 all_goals (try unfold rdBye at hp)
 all_goals (try unfold rdRemb at hp)
 all_goals (try unfold rdCc at hp)
 all_goals (try unfold rdT at hp)
 all_goals (try simp only at hp)
 all_goals (repeat' (first | (cases hp;done) | (cases hp;rfl) | (simp only [Option.map_eq_some_iff] at hp;obtain ⟨_,_,rfl⟩:=hp;rfl) | split at hp))
end Go.Proofs.YtkdialecadjedaaGreatDoor
