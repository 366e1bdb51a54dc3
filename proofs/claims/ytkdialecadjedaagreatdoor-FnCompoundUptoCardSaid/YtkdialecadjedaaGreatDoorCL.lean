/- laws.FnCompound: packets are a compound packet if the document says so, and its CNAME is the one of its description, where they are of bounded bulk: the row's statement and the tied card (conditions: those of the given statement alone). -/
import Derived.Test.YtkdialecadjedaaGreatDoorC5
import Derived.Test.YtkdialecadjedaaGreatDoorCards
import Derived.Test.YtkdialecadjedaaGreatDoorTie
import Derived.Test.YtkdialecadjedaaGreatDoorCF0
namespace Go.Proofs.YtkdialecadjedaaGreatDoor
set_option linter.unusedVariables false
set_option linter.unusedSimpArgs false
set_option linter.unusedSectionVars false
set_option maxRecDepth 100000
set_option maxHeartbeats 8000000
open Go IntKind
variable {P:Program} {w w' W:World} {n c b k m i j o g M sz bytes p1 p3:Nat} {t ty T e:TypeId} {a l:Option Addr} {v c0 c1:Value} {xs ys A:List Int} {cells vs:List Value} {r:Option Nat} {f:FuncId} {s x:Int} {G:Nat->Prop} {K:Option Addr->Nat->Nat->World->Prop} {Q:Value->Prop} {R:Ending->World->Prop} {F:Fr} {ex exs:List Ex} {ro ro':List Ro} {e0 e1 e2:Ex} {ds:List Dat} {d:Dat} {p:Pk} {L:List Pk}
open Go.ChangeShapes Go.WideShapes Go.ChangeAt Go.WideMaps Go.WideElems Go.RowKit Go.Joins
theorem laidOut':laidOutB Tryz.prog=true:=by kernel_rfl
theorem sum_le {α:Type} (f:α->Nat):∀(l:List α) (x:α),x∈l->f x<=(l.map f).sum
 | [],x,h=>by cases h
 | y::r,x,h=>by
  simp only [aX,bP]
  rcases aI.1 h with rfl | h
  ·omega
  ·have:=sum_le f r x h
   omega
theorem same_grown {W':World} (h:W.grownBy W' none) {q:MemPlace} (hb:q.block < W.heap.size):W.sameAt W' q:=by
 have hh:=h.block q.block hb (by simp)
 cases q with
 | cell b off=>
  show W'.cell? _=W.cell? _
  have hh':W'.heap[b]?=W.heap[b]?:=hh
  simp only [World.cell?,hh']
 | map b=>exact hh
theorem co_lifted (os:Os) (started:os.Started) (H:Type) (enc:TypeId×Value->H) (F:Stop.Interp) :
  ReturnsInHanded {} Tryz.checked os 10 .any (fun w args=>((Rows.OpenSpec.upto Rows.fnCompoundSpec).pre enc Tryz.prog Tryz.f10 [] false w args/\laidMetH Tryz.prog laid7 w)/\sizedMet enc Tryz.prog Tryz.f10 (Rows.OpenSpec.upto Rows.fnCompoundSpec) false w args)
   (((Rows.OpenSpec.upto Rows.fnCompoundSpec).at F).post enc Tryz.prog Tryz.f10 false true false false):=by
 refine ret_cond_and (C:=Tryz.checked) (k:=Rows.uptoSmall) rfl (X:=fun w _=>laidMetH Tryz.prog laid7 w) (fun _ _ _ hh h=>h.of_heap hh) own started (by kernel_rfl) Tryz.func10
  (wit_cond (enc:=enc) (C:=Tryz.checked) (os:=os) (k:=Rows.uptoSmall) rfl (X:=fun w _=>laidMetH Tryz.prog laid7 w) false (World.doorLaid Tryz.prog 20000 os) #[.slice none 0 0] 8 rfl (World.shaped_of_RefB (by kernel_rfl) (by kernel_rfl)) (by kernel_rfl) (x:=([.nil],[],[])) (by kernel_rfl) (by kernel_rfl) (by kernel_rfl) (by kernel_rfl) (door_met7 os _)) ?_
 intro W base args ds gs before hval0 hW hk hL
 have hW':=hW
 obtain ⟨p,q,hA0,hV,rfl,hfz,hnd⟩:=hW
 have hA:DataW.TrodAll enc Tryz.prog W 0 (fun _=>true) true Tryz.f10.params.toList args.toList ds p:=hA0
 rw [Tryz.params10] at hA
 obtain ⟨v0,d0,rfl,rfl,h0⟩:=trodAll_one hA
 obtain ⟨rfl,rfl⟩:=trodVars_none hV
 obtain ⟨a0,l0,c0,rfl⟩:=okWide_slice Tryz.underlying23 (hval0 0 23 v0 (by rw [Tryz.params10];rfl) rfl)
 have hk0:decide (Rows.uptoBulkAll [d0]<=1048576)=true:=hk
 have hb:Rows.uptoBulk d0<=1048576:=by
  have:=aO hk0
  simp only [Rows.uptoBulkAll] at this
  omega
 obtain ⟨fuel,hf⟩:=h0
 obtain ⟨L,a,c,hv,hD,hQ,hS,hN⟩:=open_pks hf
 replace hS:(L.map Pk.size).sum<=Rows.uptoBulk d0:=hS
 replace hN:2*L.length<=Rows.uptoBulk d0:=hN
 obtain ⟨rfl,rfl,rfl⟩:a0=a/\l0=L.length/\c0=c:=by
  have hv':[Value.slice a0 l0 c0]=[.slice a L.length c]:=hv
  simp only [List.cons.injEq,bN,and_true] at hv'
  exact hv'
 obtain ⟨C,hE,hC,hcells⟩:=err7 (Ro.deep [.row 30 (L.flatMap Pk.dat)] [.slice a0 L.length c0]) hL
 have HS:Sat ⟨W,fun _=>False⟩ W [] (Ro.deep [.row 30 (L.flatMap Pk.dat)] [.slice a0 L.length c0]::C):=Sat.start (by simp [foots]) (by simp [foots]) (by simp) (by
  intro r hr
  rcases aI.1 hr with rfl | hr
  ·exact dc (hD.keep (Gr.refl W (fun _=>False)) (fun b _ _=>⟨id,by simp [foots]⟩)) dn
  ·obtain ⟨i,v,rfl,hv⟩:=hcells r hr
   exact ⟨hv,by simp [foots]⟩)
 have hsz:∀p∈L,p.size<=1048576:=fun p hp=>Nat.le_trans (sum_le Pk.size L p hp) (by omega)
 refine (c10 HS ms (by omega) (fun p hp=>Nat.le_trans (hsz p hp) (by decide)) (fun p hp lo hi=>(hQ p hp).fo (Nat.le_trans (hsz p hp) (by decide)) lo hi) (fun p hp=>(hQ p hp).by_) hE hC).mono ?_
 rintro e W' ⟨rfl,hg⟩
 have hrd:DataW.Trod enc Tryz.prog W' 0 (fun b=>decide (b < W.heap.size)) true 23 (.slice a0 L.length c0) d0 p:=
  Trod_stays (P:=Tryz.prog) laidOut' (by kernel_rfl) (aO (by kernel_rfl)) ⟨fuel,hf⟩ (fun q hq=>same_grown hg (hW'.lt q (by simp [hq]))) (fun q hq=>by simpa using hW'.lt q (by simp [hq]))
 have e1:((Rows.OpenSpec.upto Rows.fnCompoundSpec).at F).fn H ([d0]++[])={ results:=[.lit (.bool true)],args:=[d0] }:=by rfl
 refine ⟨_,rfl,_,_,_,[],p,[],hW',?_,?_,?_,kept_grown _ hg,fun h=>by cases h⟩
 ·rw [e1];exact trodAll_mk1 (shut_bool Tryz.underlying4 true)
 ·rw [e1];exact trodAll_mk1 hrd
 ·rw [e1];rfl
theorem fnCompoundUpto_holds:Rows.FnCompoundUptoSaid:=
 OpenClaim.holds_of_cond 10 Tryz.f10 rfl rfl rfl rfl rfl rfl rfl ⟨rfl,rfl,rfl,rfl,rfl⟩ rfl rfl rfl rfl rfl (by kernel_rfl) Tryz.func10 coFacts
  (aO (by kernel_rfl)) coWrap
  (fun os started H enc _ F=>co_lifted os started H enc F)
theorem fnCompoundUpto_card:Rows.FnCompoundUptoCardSaid:=
 Claim7.holds_tied_plain_at .later [] [.sentinel,.sentinel,.sentinel,.sentinel,.sentinel,.sentinel,.sentinel] true (true, "b7ee73da011cb5a243ebb3ac6df3fcd27854d427de63dfd11919d9d779e961cf") true
  fnCompoundUpto_holds (fun _ h=>by cases h) (by kernel_rfl) (fun _ h=>by cases h) fnCompoundUpto_row_tie rfl ⟨rfl,rfl⟩ (by kernel_rfl) rfl
  (fun f fn hf hfn=>by
   obtain rfl:f=10:=Option.some.inj ((show Tryz.prog.funcNamed "rtcppackets/laws.FnCompound" = some 10 by kernel_rfl).symm.trans hf) |>.symm
   obtain rfl:fn=Tryz.f10:=(Option.some.inj (Tryz.func10.symm.trans hfn)).symm
   exact ⟨by kernel_rfl,fun j t ht=>by
    rw [Tryz.params10] at ht
    have hm:t∈[23]:=by simpa using Array.mem_of_getElem? ht
    have hall:([23].all fun u=>!Tryz.prog.wantsStandIn u)=true:=by kernel_rfl
    exact (show Tryz.prog.wantsStandIn t=false by simpa using ch.1 hall t hm)⟩)
  (by kernel_rfl)
#print axioms fnCompoundUpto_card
end Go.Proofs.YtkdialecadjedaaGreatDoor
