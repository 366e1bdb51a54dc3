/- laws.FnBack: what is written reads back, where it is of bounded bulk: the row's statement and the tied card (conditions: those of the given statement alone). -/
import Derived.Test.YtkdialecadjedaaGreatDoorB6
import Derived.Test.YtkdialecadjedaaGreatDoorCards
import Derived.Test.YtkdialecadjedaaGreatDoorTie
import Derived.Test.YtkdialecadjedaaGreatDoorBF0
namespace Go.Proofs.YtkdialecadjedaaGreatDoor
set_option linter.unusedVariables false
set_option linter.unusedSimpArgs false
set_option linter.unusedSectionVars false
set_option maxRecDepth 100000
set_option maxHeartbeats 8000000
open Go
open Go.ChangeShapes Go.WideShapes Go.ChangeAt Go.WideMaps Go.WideElems Go.RowKit Go.Joins
theorem laidOut':laidOutB Tryz.prog=true:=by kernel_rfl
theorem sum_le {α:Type} (f:α->Nat):∀(l:List α) (x:α),x∈l->f x<=(l.map f).sum
 | [],x,h=>by cases h
 | y::r,x,h=>by
  simp only [List.map_cons,List.sum_cons]
  rcases List.mem_cons.1 h with rfl | h
  ·omega
  ·have:=sum_le f r x h
   omega
theorem same_grown {W W':World} (h:W.grownBy W' none) {q:MemPlace} (hb:q.block < W.heap.size):W.sameAt W' q:=by
 have hh:=h.block q.block hb (by simp)
 cases q with
 | cell b off=>
  show W'.cell? _=W.cell? _
  have hh':W'.heap[b]?=W.heap[b]?:=hh
  simp only [World.cell?,hh']
 | map b=>exact hh
theorem bk_lifted (os:Os) (started:os.Started) (H:Type) (enc:TypeId×Value->H) (F:Stop.Interp) :
  ReturnsInHanded {} Tryz.checked os 4 .any (fun w args=>((Rows.OpenSpec.upto Rows.fnBackSpec).pre enc Tryz.prog Tryz.f4 [] false w args/\laidMetH Tryz.prog laid3 w)/\sizedMet enc Tryz.prog Tryz.f4 (Rows.OpenSpec.upto Rows.fnBackSpec) false w args)
   (((Rows.OpenSpec.upto Rows.fnBackSpec).at F).post enc Tryz.prog Tryz.f4 false true false false):=by
 refine ret_cond_and (C:=Tryz.checked) (k:=Rows.uptoSmall) rfl (X:=fun w _=>laidMetH Tryz.prog laid3 w) (fun _ _ _ hh h=>h.of_heap hh) own started (by kernel_rfl) Tryz.func4
  (wit_cond (enc:=enc) (C:=Tryz.checked) (os:=os) (k:=Rows.uptoSmall) rfl (X:=fun w _=>laidMetH Tryz.prog laid3 w) false (World.doorLaid Tryz.prog 20000 os) #[.slice none 0 0] 8 rfl (World.shaped_of_RefB (by kernel_rfl) (by kernel_rfl)) (by kernel_rfl) (x:=([.nil],[],[])) (by kernel_rfl) (by kernel_rfl) (by kernel_rfl) (by kernel_rfl) (door_met os _)) ?_
 intro W base args ds gs before hval0 hW hk hL
 have hW':=hW
 obtain ⟨p,q,hA0,hV,rfl,hfz,hnd⟩:=hW
 have hA:DataW.TrodAll enc Tryz.prog W 0 (fun _=>true) true Tryz.f4.params.toList args.toList ds p:=hA0
 rw [Tryz.params4] at hA
 obtain ⟨v0,d0,rfl,rfl,h0⟩:=trodAll_one hA
 obtain ⟨rfl,rfl⟩:=trodVars_none hV
 obtain ⟨a0,l0,c0,rfl⟩:=okWide_slice Tryz.underlying23 (hval0 0 23 v0 (by rw [Tryz.params4];rfl) rfl)
 have hk0:decide (Rows.uptoBulkAll [d0]<=1048576)=true:=hk
 have hb:Rows.uptoBulk d0<=1048576:=by
  have:=of_decide_eq_true hk0
  simp only [Rows.uptoBulkAll] at this
  omega
 obtain ⟨fuel,hf⟩:=h0
 obtain ⟨L,a,c,hv,hD,hQ,hS,hN⟩:=open_pks hf
 replace hS:(L.map Pk.size).sum<=Rows.uptoBulk d0:=hS
 replace hN:2*L.length<=Rows.uptoBulk d0:=hN
 obtain ⟨rfl,rfl,rfl⟩:a0=a/\l0=L.length/\c0=c:=by
  have hv':[Value.slice a0 l0 c0]=[.slice a L.length c]:=hv
  simp only [List.cons.injEq,Value.slice.injEq,and_true] at hv'
  exact hv'
 obtain ⟨e0,e1,e2,hE,he0,he1,he2⟩:=errC_laid (r:=Ro.deep [.row 30 (L.flatMap Pk.dat)] [.slice a0 L.length c0]) (errs_of_laid hL)
 have HS:Sat ⟨W,fun _=>False⟩ W [] [Ro.deep [.row 30 (L.flatMap Pk.dat)] [.slice a0 L.length c0],.cell 0 0 e0,.cell 1 0 e1,.cell 2 0 e2]:=Sat.start (by simp [foots]) (by simp [foots]) (by simp) (by
  intro r hr
  simp only [List.mem_cons,List.not_mem_nil,or_false] at hr
  rcases hr with rfl | rfl | rfl | rfl
  ·exact dc (hD.keep (Gr.refl W (fun _=>False)) (fun b _ _=>⟨id,by simp [foots]⟩)) dn
  ·exact ⟨he0,by simp [foots]⟩
  ·exact ⟨he1,by simp [foots]⟩
  ·exact ⟨he2,by simp [foots]⟩)
 have hsz:∀p∈L,p.size<=1048576:=fun p hp=>Nat.le_trans (sum_le Pk.size L p hp) (by omega)
 refine (c4 HS ms (by omega) (fun p hp=>Nat.le_trans (hsz p hp) (by decide)) (fun p hp lo hi=>(hQ p hp).fo (Nat.le_trans (hsz p hp) (by decide)) lo hi) (fun p hp=>(hQ p hp).by_) hE).mono ?_
 rintro e W' ⟨rfl,hg⟩
 have hrd:DataW.Trod enc Tryz.prog W' 0 (fun b=>decide (b < W.heap.size)) true 23 (.slice a0 L.length c0) d0 p:=
  Trod_stays (P:=Tryz.prog) laidOut' (by kernel_rfl) (of_decide_eq_true (by kernel_rfl)) ⟨fuel,hf⟩ (fun q hq=>same_grown hg (hW'.lt q (by simp [hq]))) (fun q hq=>by simpa using hW'.lt q (by simp [hq]))
 have e1:((Rows.OpenSpec.upto Rows.fnBackSpec).at F).fn H ([d0]++[])={ results:=[.lit (.bool true)],args:=[d0] }:=by rfl
 refine ⟨_,rfl,_,_,_,[],p,[],hW',?_,?_,?_,kept_grown _ hg,fun h=>by cases h⟩
 ·rw [e1];exact trodAll_mk1 (shut_bool Tryz.underlying4 true)
 ·rw [e1];exact trodAll_mk1 hrd
 ·rw [e1];rfl
theorem fnBackUpto_holds:Rows.FnBackUptoSaid:=
 OpenClaim.holds_of_cond 4 Tryz.f4 rfl rfl rfl rfl rfl rfl rfl ⟨rfl,rfl,rfl,rfl,rfl⟩ rfl rfl rfl rfl rfl (by kernel_rfl) Tryz.func4 bkFacts
  (of_decide_eq_true (by kernel_rfl)) bkWrap
  (fun os started H enc _ F=>bk_lifted os started H enc F)
theorem fnBackUpto_card:Rows.FnBackUptoCardSaid:=
 Claim7.holds_tied_plain_at .later [] [.sentinel,.sentinel,.sentinel] true (true, "b7ee73da011cb5a243ebb3ac6df3fcd27854d427de63dfd11919d9d779e961cf") true
  fnBackUpto_holds (fun _ h=>by cases h) (by kernel_rfl) (fun _ h=>by cases h) fnBackUpto_row_tie rfl ⟨rfl,rfl⟩ (by kernel_rfl) rfl
  (fun f fn hf hfn=>by
   obtain rfl:f=4:=Option.some.inj ((show Tryz.prog.funcNamed "rtcppackets/laws.FnBack" = some 4 by kernel_rfl).symm.trans hf) |>.symm
   obtain rfl:fn=Tryz.f4:=(Option.some.inj (Tryz.func4.symm.trans hfn)).symm
   exact ⟨by kernel_rfl,fun j t ht=>by
    rw [Tryz.params4] at ht
    have hm:t∈[23]:=by simpa using Array.mem_of_getElem? ht
    have hall:([23].all fun u=>!Tryz.prog.wantsStandIn u)=true:=by kernel_rfl
    exact (show Tryz.prog.wantsStandIn t=false by simpa using List.all_eq_true.1 hall t hm)⟩)
  (by kernel_rfl)
#print axioms fnBackUpto_card
end Go.Proofs.YtkdialecadjedaaGreatDoor
