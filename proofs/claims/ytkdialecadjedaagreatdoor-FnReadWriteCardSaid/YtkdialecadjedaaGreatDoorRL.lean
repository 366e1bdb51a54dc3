/- laws.FnReadWrite: a datagram in the form in which it would be written is the same bytes when it is read and written: the row's statement and the tied card (conditions: those of the given statement alone). -/
import Derived.Test.YtkdialecadjedaaGreatDoorR5
import Derived.Test.YtkdialecadjedaaGreatDoorRows
import Derived.Test.YtkdialecadjedaaGreatDoorCards
import Derived.Test.YtkdialecadjedaaGreatDoorTie
import Derived.SevenTiedAt
import Derived.ChangeSlices
import Derived.ProofKit
import Derived.LaidMore
import Derived.OpenShut
import Derived.Stop.Joined
import Derived.Stop.LaidErr
import Derived.Lib.SmallJoins
import Derived.Test.YtkdialecadjedaaGreatDoorRF0
namespace Go.Proofs.YtkdialecadjedaaGreatDoor
set_option linter.unusedVariables false
set_option linter.unusedSimpArgs false
set_option linter.unusedSectionVars false
set_option maxRecDepth 100000
set_option maxHeartbeats 8000000
open Go
open Go.ChangeShapes Go.WideShapes Go.ChangeAt Go.WideMaps Go.WideElems Go.RowKit Go.Joins
theorem own:ownKnob Tryz.prog.godebug=none:=by kernel_rfl
def laid3:List (String×DataW Unit):=[("rtcppackets/pub/rtcp.errInvalidHeader",Rows.laid_rtcppackets_pub_rtcp_errInvalidHeader),("rtcppackets/pub/rtcp.errPacketTooShort",Rows.laid_rtcppackets_pub_rtcp_errPacketTooShort),("rtcppackets/pub/rtcp.errBadVersion",Rows.laid_rtcppackets_pub_rtcp_errBadVersion)]
theorem gE0:Tryz.prog.globalNamed "rtcppackets/pub/rtcp.errInvalidHeader" = some 0:=by kernel_rfl
theorem gE1:Tryz.prog.globalNamed "rtcppackets/pub/rtcp.errPacketTooShort" = some 1:=by kernel_rfl
theorem gE2:Tryz.prog.globalNamed "rtcppackets/pub/rtcp.errBadVersion" = some 2:=by kernel_rfl
theorem tE0:(Tryz.prog.globals[0]?).map (·.type)=some 90:=by kernel_rfl
theorem tE1:(Tryz.prog.globals[1]?).map (·.type)=some 90:=by kernel_rfl
theorem tE2:(Tryz.prog.globals[2]?).map (·.type)=some 90:=by kernel_rfl
theorem star : "*" ++ "errors.errorString" = "*errors.errorString" := by decide
theorem row296 (u:TypeId) (h:Tryz.prog.typeName? 3 u=some "*errors.errorString"):u=296:=
 typeName_ptr_named (nm := "errors.errorString") (by rw [star];kernel_rfl) (by kernel_rfl) (by decide) u (by rw [star];exact h)
theorem errs_of_laid {W:World} (h:laidMetH Tryz.prog laid3 W):Errs W:=by
 rw [MakeChecks.laidMetH_plain _ _ _ (by kernel_rfl)] at h
 obtain ⟨a0,_,h0,_,_,_⟩:=laid_sentinel h gE0 tE0 Tryz.underlying90 row296 Tryz.underlying296 Tryz.underlying342 rfl rfl Tryz.underlying9 (by kernel_rfl) (by kernel_rfl)
 obtain ⟨a1,_,h1,_,_,_⟩:=laid_sentinel h.tail gE1 tE1 Tryz.underlying90 row296 Tryz.underlying296 Tryz.underlying342 rfl rfl Tryz.underlying9 (by kernel_rfl) (by kernel_rfl)
 obtain ⟨a2,_,h2,_,_,_⟩:=laid_sentinel h.tail.tail gE2 tE2 Tryz.underlying90 row296 Tryz.underlying296 Tryz.underlying342 rfl rfl Tryz.underlying9 (by kernel_rfl) (by kernel_rfl)
 exact ⟨⟨_,_,by simpa using World.var?_cell gE0 h0 0⟩,⟨_,_,by simpa using World.var?_cell gE1 h1 0⟩,⟨_,_,by simpa using World.var?_cell gE2 h2 0⟩⟩
theorem door_met (os:Os) (args:Array Value):laidMetH Tryz.prog laid3 ((World.doorLaid Tryz.prog 20000 os).forCall (fun _ _=>0) ⟨#[],args,[]⟩).memory:=
 laidMetH_of_parts3 (fuel:=8) (laidMet_of_run' 8 (by kernel_rfl) (by kernel_rfl)) (by kernel_rfl) (by kernel_rfl)
theorem kept_grown {W W':World} (may:MemPlace->Prop) (h:W.grownBy W' none):W.keptBut W' may:=by
 refine ⟨h.os,h.output,fun i hi=>?_⟩
 rw [h.block i hi (by simp)]
 cases W.heap[i]? with
 | none=>rfl
 | some o=>cases o<;>first
  | exact ⟨rfl,rfl,rfl,fun _ _=>rfl⟩
  | exact .inr ⟨rfl,rfl⟩
  | rfl
theorem wf_nat {k:IntKind} {n:Int} (hk:k.signed=false) (h:(Lit.int k n).wf=true):0<=n/\n < 2 ^ k.bits:=by
 simp only [Lit.wf,Bool.and_eq_true,decide_eq_true_eq,IntKind.min,IntKind.max,hk,Bool.false_eq_true,if_false] at h
 omega
theorem spot_none {w:World} {a:Addr} {v:Value} (h:w.cell? a=some v):a=⟨a.block,a.off,none⟩:=by
 obtain ⟨b,o,s⟩:=a
 cases s with
 | none=>rfl
 | some s=>
  exfalso
  simp only [World.cell?] at h
  split at h<;>simp_all
theorem read_data {H:Type} {enc:TypeId×Value->H} (W':World) (sp:Nat->Bool) (a:Addr) (len cap:Nat) (z:List Int) (hl:len<=cap) (hm:cap<=maxLen) (hz:z.length=cap) (hcell:∀i,i < z.length->W'.cell? (a.add i)=some (.int .u8 (z.getD i 0))) (hwz:∀n∈z,(Lit.int .u8 n).wf=true) (hsp':∀p∈MemPlace.row a z.length,sp p.block=true) :
  DataW.Trod enc Tryz.prog W' 0 sp true 22 (.slice (some a) len cap) (.slice (lits .u8 (z.take len)) (lits .u8 (z.drop len))) (MemPlace.row a z.length):=by
 have hc5:Tryz.prog.cellsOf 5=1:=by kernel_rfl
 by_cases hz0:z.length=0
 ·have hc0:cap=0:=by omega
  have hl0:len=0:=by omega
  subst hc0;subst hl0
  have t0:=shut_ints (enc:=enc) (w:=W') (base:=0) (spare:=sp) (held:=true) (a:=a) (len:=0) (cap:=0) (zs:=z) 0 Tryz.underlying22 Tryz.underlying5 hc5 (Nat.zero_le _) (Nat.le_refl _) hm (by simp [hz0]) hcell hwz
  exact ⟨2,by simpa [Value.cells] using t0⟩
 ·have hspb:sp a.block=true:=hsp' (.cell a.block a.off) (MemPlace.mem_row.2 ⟨0,by omega,by simp⟩)
  have t0:=shut_ints (enc:=enc) (w:=W') (base:=0) (spare:=sp) (held:=true) (a:=a) (len:=len) (cap:=cap) (zs:=z) 0 Tryz.underlying22 Tryz.underlying5 hc5 (Nat.zero_le _) hl hm (by simp [hspb,hz]) hcell hwz
  exact ⟨2,by simpa [Value.cells] using t0⟩
theorem deep_bytes {W:World} {a:Addr} {l c:Nat} {zs:List Int} (hl:l<=c) (hm:c<=maxLen) (hz:zs.length=c) (hcell:∀i,i < zs.length->W.cell? (a.add i)=some (.int .u8 (zs.getD i 0))):Deep W (fun _=>True) (.row 1 (ob (zs.take l))) (.slice (some a) l c):=by
 rcases Nat.eq_zero_or_pos c with h0 | h0
 ·have:l=0:=by omega
  subst this;subst h0
  rw [List.take_zero]
  exact .emp _ _
 ·have h1:=hcell 0 (by omega)
  rw [show a.add 0=a from rfl] at h1
  have h2:=spot_none h1
  rw [h2] at hcell h1 ⊢
  have hlt:=World.block_lt_of_cell? _ _ h1
  rw [ob_ones]
  refine .row 1 a.block a.off l c _ ((zs.take l).map (Value.int .u8)) hl hm hlt trivial (by simp;omega) (by simp) (fun i v hi=>?_) (DeepL.ones _).2
  rw [List.getElem?_map,List.getElem?_take] at hi
  split at hi
  ·rename_i hil
   have:=hcell i (by omega)
   rw [add_flat] at this
   rw [this]
   rw [List.getElem?_eq_getElem (show i < zs.length by omega)] at hi
   cases hi
   simp [List.getD,List.getElem?_eq_getElem (show i < zs.length by omega)]
  ·cases hi
theorem open_data {H:Type} {enc:TypeId×Value->H} {W:World} {base:Nat} {v0:Value} {d0:DataW H} {p:List MemPlace} (hv:Value.okWide Tryz.prog W .any base 22 v0) (h0:DataW.Trod enc Tryz.prog W 0 (fun _=>true) true 22 v0 d0 p) :
  ∃a l c xs,v0=.slice a l c/\By xs/\Deep W (fun _=>True) (.row 1 (ob xs)) (.slice a l c)/\∃pa,∀W':World,W.grownBy W' none->∀sp:Nat->Bool,(∀q∈p,sp q.block=true)->DataW.Trod enc Tryz.prog W' 0 sp true 22 v0 d0 pa:=by
 obtain ⟨a,l,c,rfl⟩:=okWide_slice Tryz.underlying22 hv
 obtain ⟨fuel,hf⟩:=h0
 have hc5:Tryz.prog.cellsOf 5=1:=by kernel_rfl
 rcases open_ints Tryz.underlying22 Tryz.underlying5 hc5 hf with ⟨hcs,hx⟩ | ⟨a',l',c',zs,hcs,hb,hlc,hcm,hzl,hx,hcell,hwf⟩
 ·simp [Value.cells] at hcs
  obtain ⟨rfl,rfl,rfl⟩:=hcs
  simp only [Prod.mk.injEq] at hx
  obtain ⟨rfl,rfl⟩:=hx
  exact ⟨none,0,0,[],rfl,(fun x hx=>by cases hx),.emp _ _,[],fun W' hg sp hsp=>shut_slice_nil Tryz.underlying22⟩
 ·simp [Value.cells] at hcs
  obtain ⟨rfl,rfl,rfl⟩:=hcs
  simp only [Prod.mk.injEq] at hx
  obtain ⟨rfl,rfl⟩:=hx
  simp only [if_true] at hzl
  have hbyte:∀x∈zs.take l,0<=x/\x < 256:=fun x hx=>wf_nat (by rfl) (hwf x (List.mem_of_mem_take hx))
  exact ⟨some a',l,c,zs.take l,rfl,hbyte,deep_bytes hlc hcm hzl hcell,MemPlace.row a' zs.length,fun W' hg sp hsp=>read_data W' sp a' l c zs hlc hcm hzl (fun i hi=>hg.cell (hcell i hi) (by simp)) hwf hsp⟩
theorem errC_laid {W:World} {r:Ro} (h:Errs W):∃v0 v1 v2,ErrC False [r,.cell 0 0 v0,.cell 1 0 v1,.cell 2 0 v2]/\W.cell? ⟨0,0,none⟩=some v0/\W.cell? ⟨1,0,none⟩=some v1/\W.cell? ⟨2,0,none⟩=some v2:=by
 obtain ⟨⟨t0,v0,h0⟩,⟨t1,v1,h1⟩,⟨t2,v2,h2⟩⟩:=h
 refine ⟨_,_,_,⟨fun i hi=>?_,fun hp=>hp.elim⟩,h0,h1,h2⟩
 have hi:i=0\/i=1\/i=2:=by
  have:=List.elem_iff.1 (show List.elem i laidIds=true from hi)
  simp [laidIds] at this
  omega
 rcases hi with rfl | rfl | rfl
 ·exact ⟨.iface t0 v0,by simp,by simp [isIf],fun _=>by simp [isNilI]⟩
 ·exact ⟨.iface t1 v1,by simp,by simp [isIf],fun _=>by simp [isNilI]⟩
 ·exact ⟨.iface t2 v2,by simp,by simp [isIf],fun _=>by simp [isNilI]⟩
theorem rw_lifted (os:Os) (started:os.Started) (H:Type) (enc:TypeId×Value->H) :
  ReturnsInHanded {} Tryz.checked os 5 .any (fun w args=>(Rows.fnReadWriteSpec.pre enc Tryz.prog Tryz.f5 [] false w args/\laidMetH Tryz.prog laid3 w)/\sizedMet enc Tryz.prog Tryz.f5 (OpenSpec.ofChange Rows.fnReadWriteSpec) false w args)
   (Rows.fnReadWriteSpec.post enc Tryz.prog Tryz.f5 false true false false):=by
 refine returnsInHanded_of_change_and (C:=Tryz.checked) (X:=fun w _=>laidMetH Tryz.prog laid3 w) (fun _ _ _ hh h=>h.of_heap hh) own started (by kernel_rfl) Tryz.func5
  (ChangeSpec.witness_shaped (enc:=enc) (C:=Tryz.checked) (os:=os) (X:=fun w _=>laidMetH Tryz.prog laid3 w) false (World.doorLaid Tryz.prog 20000 os) #[.slice none 0 0] 8 rfl (World.shaped_of_RefB (by kernel_rfl) (by kernel_rfl)) (by kernel_rfl) (by kernel_rfl) (by kernel_rfl) (door_met os _)) ?_
 intro W base args ds gs before hval0 hW _ _ hL _
 have hval:∀(j:Nat) t v,Tryz.f5.params[j]?=some t->args[j]?=some v->Value.okWide Tryz.prog W .any base t v:=hval0
 have hW':=hW
 obtain ⟨p,q,hA0,hV,rfl,hfz,hnd⟩:=hW
 have hA:DataW.TrodAll enc Tryz.prog W 0 (fun _=>true) true Tryz.f5.params.toList args.toList ds p:=hA0
 rw [Tryz.params5] at hA hval
 obtain ⟨v0,d0,rfl,rfl,h0⟩:=trodAll_one hA
 obtain ⟨rfl,rfl⟩:=trodVars_none hV
 obtain ⟨a,l,c,xs,rfl,hB,hD,pa,hrd⟩:=open_data (hval 0 22 v0 rfl rfl) h0
 obtain ⟨e0,e1,e2,hE,he0,he1,he2⟩:=errC_laid (r:=Ro.B xs a l c) (errs_of_laid hL)
 have HS:Sat ⟨W,fun _=>False⟩ W [] [Ro.B xs a l c,.cell 0 0 e0,.cell 1 0 e1,.cell 2 0 e2]:=Sat.start (by simp [foots]) (by simp [foots]) (by simp) (by
  intro r hr
  simp only [List.mem_cons,List.not_mem_nil,or_false] at hr
  rcases hr with rfl | rfl | rfl | rfl
  ·exact dc (hD.keep (Gr.refl W (fun _=>False)) (fun b _ _=>⟨id,by simp [foots]⟩)) dn
  ·exact ⟨he0,by simp [foots]⟩
  ·exact ⟨he1,by simp [foots]⟩
  ·exact ⟨he2,by simp [foots]⟩)
 refine (c5 HS ms hB hE).mono ?_
 rintro e W' ⟨rfl,hg⟩
 have e1:Rows.fnReadWriteSpec.fn H ([d0]++[])={ results:=[.lit (.bool true)],args:=[d0] }:=by simp [Rows.fnReadWriteSpec]
 refine ⟨_,rfl,_,_,_,[],pa,[],hW',?_,?_,?_,kept_grown _ hg,fun h=>by cases h⟩
 ·rw [e1];exact trodAll_mk1 (shut_bool Tryz.underlying4 true)
 ·rw [e1];exact trodAll_mk1 (hrd W' hg _ (fun q hq=>by simpa using hW'.lt q (by simp [hq])))
 ·rw [e1];rfl
theorem fnReadWrite_holds:Rows.FnReadWriteSaid:=
 OpenClaim.holds_of_wide 5 Tryz.f5 rfl rfl rfl rfl rfl rfl rfl ⟨rfl,rfl,rfl,rfl,rfl⟩ rfl rfl rfl rfl rfl (by kernel_rfl) Tryz.func5 rwFacts
  (of_decide_eq_true (by kernel_rfl)) rwWrap
  (fun os started H enc _=>rw_lifted os started H enc)
theorem fnReadWrite_card:Rows.FnReadWriteCardSaid:=
 Claim7.holds_tied_plain_at .later [] [.sentinel,.sentinel,.sentinel] true (true, "b7ee73da011cb5a243ebb3ac6df3fcd27854d427de63dfd11919d9d779e961cf") true
  fnReadWrite_holds (fun _ h=>by cases h) (by kernel_rfl) (fun _ h=>by cases h) fnReadWrite_row_tie rfl ⟨rfl,rfl⟩ (by kernel_rfl) rfl
  (fun f fn hf hfn=>by
   obtain rfl:f=5:=Option.some.inj ((show Tryz.prog.funcNamed "rtcppackets/laws.FnReadWrite" = some 5 by kernel_rfl).symm.trans hf) |>.symm
   obtain rfl:fn=Tryz.f5:=(Option.some.inj (Tryz.func5.symm.trans hfn)).symm
   exact ⟨by kernel_rfl,fun j t ht=>by
    rw [Tryz.params5] at ht
    have hm:t∈[22]:=by simpa using Array.mem_of_getElem? ht
    have hall:([22].all fun u=>!Tryz.prog.wantsStandIn u)=true:=by kernel_rfl
    exact (show Tryz.prog.wantsStandIn t=false by simpa using List.all_eq_true.1 hall t hm)⟩)
  (by kernel_rfl)
#print axioms fnReadWrite_card
end Go.Proofs.YtkdialecadjedaaGreatDoor
