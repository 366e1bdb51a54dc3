/- A part of a proof, joined by a program out of smaller texts (conditions: those that each theorem names). -/
import Derived.Test.YtkdialecadjedaaGreatDoorR4
namespace Go.Proofs.YtkdialecadjedaaGreatDoor
set_option linter.unusedVariables false
set_option linter.unusedSimpArgs false
set_option linter.unusedSectionVars false
set_option maxRecDepth 100000
set_option maxHeartbeats 8000000
open Go
theorem im1 {F:Fr} {w:World} {ex:List Ex} {ro:List Ro} {p:Pk} {v:Value} (H:Sat F w ex ro) (hk:p.kind=1) (hp:Ro.deep [.ptr (rtcpD p)] [v]∈ro) (hW:WrOk p):Invk (.iface 190 v) "Marshal" #[] w (MPost F ex ro (wrOne p)):=by
 have hD:rtcpD p=[.one (.int .u32 p.sender),.one (.int .u64 p.ntp),.one (.int .u32 p.rtp),.one (.int .u32 p.packets),.one (.int .u32 p.octets),.row 7 (p.reports.flatMap Rep.dat),.row 1 (ob p.ext)]:=by unfold rtcpD;simp [hk]
 have hw:wrOne p=wrSR p.sender p.ntp p.rtp p.packets p.octets p.reports p.ext:=by unfold wrOne;simp [hk]
 rw [hD] at hp
 rw [hw]
 obtain ⟨h0,h1,h2,h3,h4,h5,h6,h7,h8⟩:=hW.k1 hk
 obtain ⟨b,vs,ro1,rfl,D0,hm,hd,hr,H⟩:=H.ptrC hp
 obtain ⟨us0,rfl,D1⟩:=D0.i1
 obtain ⟨us1,rfl,D2⟩:=D1.i1
 obtain ⟨us2,rfl,D3⟩:=D2.i1
 obtain ⟨us3,rfl,D4⟩:=D3.i1
 obtain ⟨us4,rfl,D5⟩:=D4.i1
 obtain ⟨v5,us5,rfl,d5,D6⟩:=D5.consInv
 obtain ⟨a5,n5,c5,rfl,e5⟩:=d5.rowInv
 rw [flat_len Rep.dat_len'] at e5
 obtain rfl:n5=p.reports.length:=by omega
 obtain ⟨v6,us6,rfl,d6,D7⟩:=D6.consInv
 obtain ⟨a6,n6,c6,rfl,e6⟩:=d6.rowInv
 rw [ob_length] at e6
 obtain rfl:n6=p.ext.length:=by omega
 obtain rfl:=D7.nilInv
 refine inv_val (f:=141) (e:=194) (by kernel_rfl) (by kernel_rfl) (by kernel_rfl) (LdC [.int .u32 p.sender,.int .u64 p.ntp,.int .u32 p.rtp,.int .u32 p.packets,.int .u32 p.octets,.slice a5 p.reports.length c5,.slice a6 p.ext.length c6] (by kernel_rfl) (fun i u hu=>by rw [add_flat,Nat.zero_add];exact H.cell (hm i u hu) rfl)) (call_j (c141 H h0 h1 h2 h3 h4 (hd 5 _ _ rfl rfl) (hd 6 _ _ rfl rfl) h5 h6 h7 h8) ?_)
 exact fun _ _ h=>h.sub hr
theorem im2 {F:Fr} {w:World} {ex:List Ex} {ro:List Ro} {p:Pk} {v:Value} (H:Sat F w ex ro) (hk:p.kind=2) (hp:Ro.deep [.ptr (rtcpD p)] [v]∈ro) (hW:WrOk p):Invk (.iface 195 v) "Marshal" #[] w (MPost F ex ro (wrOne p)):=by
 have hD:rtcpD p=[.one (.int .u32 p.sender),.row 7 (p.reports.flatMap Rep.dat),.row 1 (ob p.ext)]:=by unfold rtcpD;simp [hk]
 have hw:wrOne p=wrRR p.sender p.reports p.ext:=by unfold wrOne;simp [hk]
 rw [hD] at hp
 rw [hw]
 obtain ⟨h0,h5,h6,h7,h8⟩:=hW.k2 hk
 obtain ⟨b,vs,ro1,rfl,D0,hm,hd,hr,H⟩:=H.ptrC hp
 obtain ⟨us0,rfl,D1⟩:=D0.i1
 obtain ⟨v1,us1,rfl,d1,D2⟩:=D1.consInv
 obtain ⟨a1,n1,c1,rfl,e1⟩:=d1.rowInv
 rw [flat_len Rep.dat_len'] at e1
 obtain rfl:n1=p.reports.length:=by omega
 obtain ⟨v2,us2,rfl,d2,D3⟩:=D2.consInv
 obtain ⟨a2,n2,c2,rfl,e2⟩:=d2.rowInv
 rw [ob_length] at e2
 obtain rfl:n2=p.ext.length:=by omega
 obtain rfl:=D3.nilInv
 refine inv_val (f:=154) (e:=197) (by kernel_rfl) (by kernel_rfl) (by kernel_rfl) (LdC [.int .u32 p.sender,.slice a1 p.reports.length c1,.slice a2 p.ext.length c2] (by kernel_rfl) (fun i u hu=>by rw [add_flat,Nat.zero_add];exact H.cell (hm i u hu) rfl)) (call_j (c154 H h0 (hd 1 _ _ rfl rfl) (hd 2 _ _ rfl rfl) h5 h6 h7 h8) ?_)
 exact fun _ _ h=>h.sub hr
theorem im3 {F:Fr} {w:World} {ex:List Ex} {ro:List Ro} {p:Pk} {v:Value} (H:Sat F w ex ro) (hk:p.kind=3) (hp:Ro.deep [.ptr (rtcpD p)] [v]∈ro) (hW:WrOk p):Invk (.iface 198 v) "Marshal" #[] w (MPost F ex ro (wrOne p)):=by
 have hD:rtcpD p=[.row 2 (p.chunks.flatMap Chk.dat)]:=by unfold rtcpD;simp [hk]
 have hw:wrOne p=wrSD p.chunks:=by unfold wrOne;simp [hk]
 rw [hD] at hp
 rw [hw]
 obtain ⟨h0,h1,h2⟩:=hW.k3 hk
 obtain ⟨b,vs,ro1,rfl,D0,hm,hd,hr,H⟩:=H.ptrC hp
 obtain ⟨v0,us0,rfl,d0,D1⟩:=D0.consInv
 obtain ⟨a0,n0,c0,rfl,e0⟩:=d0.rowInv
 rw [flat_len Chk.dat_len'] at e0
 obtain rfl:n0=p.chunks.length:=by omega
 obtain rfl:=D1.nilInv
 refine inv_val (f:=159) (e:=252) (by kernel_rfl) (by kernel_rfl) (by kernel_rfl) (LdC [.slice a0 p.chunks.length c0] (by kernel_rfl) (fun i u hu=>by rw [add_flat,Nat.zero_add];exact H.cell (hm i u hu) rfl)) (call_j (c159 H (hd 0 _ _ rfl rfl) h0 h1 h2) ?_)
 exact fun _ _ h=>h.sub hr
theorem im4 {F:Fr} {w:World} {ex:List Ex} {ro:List Ro} {p:Pk} {v:Value} (H:Sat F w ex ro) (hk:p.kind=4) (hp:Ro.deep [.ptr (rtcpD p)] [v]∈ro) (hW:WrOk p):Invk (.iface 200 v) "Marshal" #[] w (MPost F ex ro (wrOne p)):=by
 have hD:rtcpD p=[.row 1 (oi .u32 p.sources),.one (.string p.text)]:=by unfold rtcpD;simp [hk]
 have hw:wrOne p=wrBye p.sources p.text:=by unfold wrOne;simp [hk]
 rw [hD] at hp
 rw [hw]
 obtain ⟨h0,h1,h2⟩:=hW.k4 hk
 obtain ⟨b,vs,ro1,rfl,D0,hm,hd,hr,H⟩:=H.ptrC hp
 obtain ⟨v0,us0,rfl,d0,D1⟩:=D0.consInv
 obtain ⟨a0,n0,c0,rfl,e0⟩:=d0.rowInv
 rw [oi_length] at e0
 obtain rfl:n0=p.sources.length:=by omega
 obtain ⟨us1,rfl,D2⟩:=D1.i1
 obtain rfl:=D2.nilInv
 refine inv_val (f:=170) (e:=203) (by kernel_rfl) (by kernel_rfl) (by kernel_rfl) (LdC [.slice a0 p.sources.length c0,.string p.text] (by kernel_rfl) (fun i u hu=>by rw [add_flat,Nat.zero_add];exact H.cell (hm i u hu) rfl)) (call_j (c170 H (hd 0 _ _ rfl rfl) h0 h1 h2) ?_)
 exact fun _ _ h=>h.sub hr
theorem im5 {F:Fr} {w:World} {ex:List Ex} {ro:List Ro} {p:Pk} {v:Value} (H:Sat F w ex ro) (hk:p.kind=5) (hp:Ro.deep [.ptr (rtcpD p)] [v]∈ro) (hW:WrOk p):Invk (.iface 204 v) "Marshal" #[] w (MPost F ex ro (wrOne p)):=by
 have hD:rtcpD p=[.one (.int .u8 p.sub),.one (.int .u32 p.sender),.one (.string p.text),.row 1 (ob p.data)]:=by unfold rtcpD;simp [hk]
 have hw:wrOne p=wrApp p.sub p.sender p.text p.data:=by unfold wrOne;simp [hk]
 rw [hD] at hp
 rw [hw]
 obtain ⟨h0,h1,h2,h3,h4⟩:=hW.k5 hk
 obtain ⟨b,vs,ro1,rfl,D0,hm,hd,hr,H⟩:=H.ptrC hp
 obtain ⟨us0,rfl,D1⟩:=D0.i1
 obtain ⟨us1,rfl,D2⟩:=D1.i1
 obtain ⟨us2,rfl,D3⟩:=D2.i1
 obtain ⟨v3,us3,rfl,d3,D4⟩:=D3.consInv
 obtain ⟨a3,n3,c3,rfl,e3⟩:=d3.rowInv
 rw [ob_length] at e3
 obtain rfl:n3=p.data.length:=by omega
 obtain rfl:=D4.nilInv
 refine inv_val (f:=175) (e:=206) (by kernel_rfl) (by kernel_rfl) (by kernel_rfl) (LdC [.int .u8 p.sub,.int .u32 p.sender,.string p.text,.slice a3 p.data.length c3] (by kernel_rfl) (fun i u hu=>by rw [add_flat,Nat.zero_add];exact H.cell (hm i u hu) rfl)) (call_j (c175 H (hd 3 _ _ rfl rfl) h0 h1 h2 h3 h4) ?_)
 exact fun _ _ h=>h.sub hr
theorem im6 {F:Fr} {w:World} {ex:List Ex} {ro:List Ro} {p:Pk} {v:Value} (H:Sat F w ex ro) (hk:p.kind=6) (hp:Ro.deep [.ptr (rtcpD p)] [v]∈ro) (hW:WrOk p):Invk (.iface 207 v) "Marshal" #[] w (MPost F ex ro (wrOne p)):=by
 have hD:rtcpD p=[.one (.int .u32 p.sender),.one (.int .u32 p.media),.row 2 (p.pairs.flatMap Par.dat)]:=by unfold rtcpD;simp [hk]
 have hw:wrOne p=wrFb 1 205 ((2+1*p.pairs.length:Nat):Int) p.sender p.media (p.pairs.flatMap wPar):=by unfold wrOne;simp [hk]
 rw [hD] at hp
 rw [hw]
 obtain ⟨h0,h1,h2,h3⟩:=hW.k6 hk
 obtain ⟨b,vs,ro1,rfl,D0,hm,hd,hr,H⟩:=H.ptrC hp
 obtain ⟨us0,rfl,D1⟩:=D0.i1
 obtain ⟨us1,rfl,D2⟩:=D1.i1
 obtain ⟨v2,us2,rfl,d2,D3⟩:=D2.consInv
 obtain ⟨a2,n2,c2,rfl,e2⟩:=d2.rowInv
 rw [flat_len Par.dat_lenK] at e2
 obtain rfl:n2=p.pairs.length:=by omega
 obtain rfl:=D3.nilInv
 refine inv_val (f:=179) (e:=210) (by kernel_rfl) (by kernel_rfl) (by kernel_rfl) (LdC [.int .u32 p.sender,.int .u32 p.media,.slice a2 p.pairs.length c2] (by kernel_rfl) (fun i u hu=>by rw [add_flat,Nat.zero_add];exact H.cell (hm i u hu) rfl)) (call_j (c179 H h0 h1 (hd 2 _ _ rfl rfl) h2 h3) ?_)
 exact fun _ _ h=>h.sub hr
theorem im7 {F:Fr} {w:World} {ex:List Ex} {ro:List Ro} {p:Pk} {v:Value} (H:Sat F w ex ro) (hk:p.kind=7) (hp:Ro.deep [.ptr (rtcpD p)] [v]∈ro) (hW:WrOk p):Invk (.iface 214 v) "Marshal" #[] w (MPost F ex ro (wrOne p)):=by
 have hD:rtcpD p=[.one (.int .u32 p.sender),.one (.int .u32 p.media)]:=by unfold rtcpD;simp [hk]
 have hw:wrOne p=wrTwo 5 205 p.sender p.media:=by unfold wrOne;simp [hk]
 rw [hD] at hp
 rw [hw]
 obtain ⟨h0,h1⟩:=hW.k7 hk
 obtain ⟨b,vs,ro1,rfl,D0,hm,hd,hr,H⟩:=H.ptrC hp
 obtain ⟨us0,rfl,D1⟩:=D0.i1
 obtain ⟨us1,rfl,D2⟩:=D1.i1
 obtain rfl:=D2.nilInv
 refine inv_val (f:=184) (e:=216) (by kernel_rfl) (by kernel_rfl) (by kernel_rfl) (LdC [.int .u32 p.sender,.int .u32 p.media] (by kernel_rfl) (fun i u hu=>by rw [add_flat,Nat.zero_add];exact H.cell (hm i u hu) rfl)) (call_j (c184 H h0 h1) ?_)
 exact fun _ _ h=>h.sub hr
theorem im8 {F:Fr} {w:World} {ex:List Ex} {ro:List Ro} {p:Pk} {v:Value} (H:Sat F w ex ro) (hk:p.kind=8) (hp:Ro.deep [.ptr (rtcpD p)] [v]∈ro) (hW:WrOk p):Invk (.iface 217 v) "Marshal" #[] w (MPost F ex ro (wrOne p)):=by
 have hD:rtcpD p=[.one (.int .u32 p.sender),.row 3 (p.blocks.flatMap Blo.dat),.one (.int .u32 p.time)]:=by unfold rtcpD;simp [hk]
 have hw:wrOne p=wrCc p.sender p.blocks p.time:=by unfold wrOne;simp [hk]
 rw [hD] at hp
 rw [hw]
 obtain ⟨h0,h1,h2,h3,h4⟩:=hW.k8 hk
 obtain ⟨b,vs,ro1,rfl,D0,hm,hd,hr,H⟩:=H.ptrC hp
 obtain ⟨us0,rfl,D1⟩:=D0.i1
 obtain ⟨v1,us1,rfl,d1,D2⟩:=D1.consInv
 obtain ⟨a1,n1,c1,rfl,e1⟩:=d1.rowInv
 rw [flat_len Blo.dat_len'] at e1
 obtain rfl:n1=p.blocks.length:=by omega
 obtain ⟨us2,rfl,D3⟩:=D2.i1
 obtain rfl:=D3.nilInv
 refine inv_val (f:=190) (e:=221) (by kernel_rfl) (by kernel_rfl) (by kernel_rfl) (LdC [.int .u32 p.sender,.slice a1 p.blocks.length c1,.int .u32 p.time] (by kernel_rfl) (fun i u hu=>by rw [add_flat,Nat.zero_add];exact H.cell (hm i u hu) rfl)) (call_j (c190 H h0 h1 (hd 1 _ _ rfl rfl) h2 h3 h4) ?_)
 exact fun _ _ h=>h.sub hr
theorem im9 {F:Fr} {w:World} {ex:List Ex} {ro:List Ro} {p:Pk} {v:Value} (H:Sat F w ex ro) (hk:p.kind=9) (hp:Ro.deep [.ptr (rtcpD p)] [v]∈ro) (hW:WrOk p):Invk (.iface 222 v) "Marshal" #[] w (MPost F ex ro (wrOne p)):=by
 have hD:rtcpD p=[.one (.int .u32 p.sender),.one (.int .u32 p.media)]:=by unfold rtcpD;simp [hk]
 have hw:wrOne p=wrTwo 1 206 p.sender p.media:=by unfold wrOne;simp [hk]
 rw [hD] at hp
 rw [hw]
 obtain ⟨h0,h1⟩:=hW.k9 hk
 obtain ⟨b,vs,ro1,rfl,D0,hm,hd,hr,H⟩:=H.ptrC hp
 obtain ⟨us0,rfl,D1⟩:=D0.i1
 obtain ⟨us1,rfl,D2⟩:=D1.i1
 obtain rfl:=D2.nilInv
 refine inv_val (f:=201) (e:=223) (by kernel_rfl) (by kernel_rfl) (by kernel_rfl) (LdC [.int .u32 p.sender,.int .u32 p.media] (by kernel_rfl) (fun i u hu=>by rw [add_flat,Nat.zero_add];exact H.cell (hm i u hu) rfl)) (call_j (c201 H h0 h1) ?_)
 exact fun _ _ h=>h.sub hr
theorem im10 {F:Fr} {w:World} {ex:List Ex} {ro:List Ro} {p:Pk} {v:Value} (H:Sat F w ex ro) (hk:p.kind=10) (hp:Ro.deep [.ptr (rtcpD p)] [v]∈ro) (hW:WrOk p):Invk (.iface 224 v) "Marshal" #[] w (MPost F ex ro (wrOne p)):=by
 have hD:rtcpD p=[.one (.int .u32 p.sender),.one (.int .u32 p.media),.row 3 (p.slices.flatMap Sli.dat)]:=by unfold rtcpD;simp [hk]
 have hw:wrOne p=wrFb 2 206 ((2+1*p.slices.length:Nat):Int) p.sender p.media (p.slices.flatMap wSli):=by unfold wrOne;simp [hk]
 rw [hD] at hp
 rw [hw]
 obtain ⟨h0,h1,h2,h3⟩:=hW.k10 hk
 obtain ⟨b,vs,ro1,rfl,D0,hm,hd,hr,H⟩:=H.ptrC hp
 obtain ⟨us0,rfl,D1⟩:=D0.i1
 obtain ⟨us1,rfl,D2⟩:=D1.i1
 obtain ⟨v2,us2,rfl,d2,D3⟩:=D2.consInv
 obtain ⟨a2,n2,c2,rfl,e2⟩:=d2.rowInv
 rw [flat_len Sli.dat_lenK] at e2
 obtain rfl:n2=p.slices.length:=by omega
 obtain rfl:=D3.nilInv
 refine inv_val (f:=205) (e:=227) (by kernel_rfl) (by kernel_rfl) (by kernel_rfl) (LdC [.int .u32 p.sender,.int .u32 p.media,.slice a2 p.slices.length c2] (by kernel_rfl) (fun i u hu=>by rw [add_flat,Nat.zero_add];exact H.cell (hm i u hu) rfl)) (call_j (c205 H h0 h1 (hd 2 _ _ rfl rfl) h2 h3) ?_)
 exact fun _ _ h=>h.sub hr
theorem im11 {F:Fr} {w:World} {ex:List Ex} {ro:List Ro} {p:Pk} {v:Value} (H:Sat F w ex ro) (hk:p.kind=11) (hp:Ro.deep [.ptr (rtcpD p)] [v]∈ro) (hW:WrOk p):Invk (.iface 229 v) "Marshal" #[] w (MPost F ex ro (wrOne p)):=by
 have hD:rtcpD p=[.one (.int .u32 p.sender),.one (.int .u32 p.media),.row 2 (p.entries.flatMap Ent.dat)]:=by unfold rtcpD;simp [hk]
 have hw:wrOne p=wrFb 4 206 ((2+2*p.entries.length:Nat):Int) p.sender p.media (p.entries.flatMap wEnt):=by unfold wrOne;simp [hk]
 rw [hD] at hp
 rw [hw]
 obtain ⟨h0,h1,h2,h3⟩:=hW.k11 hk
 obtain ⟨b,vs,ro1,rfl,D0,hm,hd,hr,H⟩:=H.ptrC hp
 obtain ⟨us0,rfl,D1⟩:=D0.i1
 obtain ⟨us1,rfl,D2⟩:=D1.i1
 obtain ⟨v2,us2,rfl,d2,D3⟩:=D2.consInv
 obtain ⟨a2,n2,c2,rfl,e2⟩:=d2.rowInv
 rw [flat_len Ent.dat_lenK] at e2
 obtain rfl:n2=p.entries.length:=by omega
 obtain rfl:=D3.nilInv
 refine inv_val (f:=210) (e:=232) (by kernel_rfl) (by kernel_rfl) (by kernel_rfl) (LdC [.int .u32 p.sender,.int .u32 p.media,.slice a2 p.entries.length c2] (by kernel_rfl) (fun i u hu=>by rw [add_flat,Nat.zero_add];exact H.cell (hm i u hu) rfl)) (call_j (c210 H h0 h1 (hd 2 _ _ rfl rfl) h2 h3) ?_)
 exact fun _ _ h=>h.sub hr
theorem im12 {F:Fr} {w:World} {ex:List Ex} {ro:List Ro} {p:Pk} {v:Value} (H:Sat F w ex ro) (hk:p.kind=12) (hp:Ro.deep [.ptr (rtcpD p)] [v]∈ro) (hW:WrOk p):Invk (.iface 235 v) "Marshal" #[] w (MPost F ex ro (wrOne p)):=by
 have hD:rtcpD p=[.one (.int .u32 p.sender),.one (.float .f32 p.bits.toNat),.row 1 (oi .u32 p.sources)]:=by unfold rtcpD;simp [hk]
 have hw:wrOne p=wrRemb p.sender p.bits p.sources:=by unfold wrOne;simp [hk]
 rw [hD] at hp
 rw [hw]
 obtain ⟨h0,h1,h2,m,i,h3,h4,h5,h6⟩:=hW.k12 hk
 obtain ⟨b,vs,ro1,rfl,D0,hm,hd,hr,H⟩:=H.ptrC hp
 obtain ⟨us0,rfl,D1⟩:=D0.i1
 obtain ⟨us1,rfl,D2⟩:=D1.i1
 obtain ⟨v2,us2,rfl,d2,D3⟩:=D2.consInv
 obtain ⟨a2,n2,c2,rfl,e2⟩:=d2.rowInv
 rw [oi_length] at e2
 obtain rfl:n2=p.sources.length:=by omega
 obtain rfl:=D3.nilInv
 have hb:p.bits.toNat=sgl m i:=by omega
 rw [hb] at hm
 rw [h6]
 refine inv_val (f:=215) (e:=239) (by kernel_rfl) (by kernel_rfl) (by kernel_rfl) (LdC [.int .u32 p.sender,.float .f32 (sgl m i),.slice a2 p.sources.length c2] (by kernel_rfl) (fun i u hu=>by rw [add_flat,Nat.zero_add];exact H.cell (hm i u hu) rfl)) (call_j (c215 H (hd 2 _ _ rfl rfl) h1 h0 h2 h3 h4 h5) ?_)
 exact fun _ _ h=>h.sub hr
theorem inv_j {v:Value} {nm:String} {args:Array Value} {w:World} {R R':Ending->World->Prop} (h:Invk v nm args w R) (hR:∀en w,R en w->R' en w):Invk v nm args w R':=by
 obtain ⟨t,u,f,r,h1,h2,h3,h4⟩:=h
 exact ⟨t,u,f,r,h1,h2,h3,h4.mono hR⟩
theorem inM {F:Fr} {w:World} {ex:List Ex} {ro:List Ro} {p:Pk} {v:Value} (H:Sat F w ex ro) (hp:Ro.deep [pkI p] [v]∈ro) (hW:WrOk p):Invk v "Marshal" #[] w (MPost F ex ro (wrOne p)):=by
 unfold pkI at hp
 obtain ⟨u,rfl,H⟩:=H.ifc hp
 have lo:=hW.lo;have hi:=hW.hi
 have hkk:p.kind=0\/p.kind=1\/p.kind=2\/p.kind=3\/p.kind=4\/p.kind=5\/p.kind=6\/p.kind=7\/p.kind=8\/p.kind=9\/p.kind=10\/p.kind=11\/p.kind=12:=by omega
 have hs:∀{en w},MPost F ex (.deep [.ptr (rtcpD p)] [u]::ro) (wrOne p) en w->MPost F ex ro (wrOne p) en w:=fun h=>h.sub (fun r h=>mt h)
 rcases hkk with h | h | h | h | h | h | h | h | h | h | h | h | h
 ·have e:tyK p.kind=242:=by rw [h];rfl
  rw [e]
  exact inv_j (im0 H h ms) (fun _ _ h=>hs h)
 ·have e:tyK p.kind=190:=by rw [h];rfl
  rw [e]
  exact inv_j (im1 H h ms hW) (fun _ _ h=>hs h)
 ·have e:tyK p.kind=195:=by rw [h];rfl
  rw [e]
  exact inv_j (im2 H h ms hW) (fun _ _ h=>hs h)
 ·have e:tyK p.kind=198:=by rw [h];rfl
  rw [e]
  exact inv_j (im3 H h ms hW) (fun _ _ h=>hs h)
 ·have e:tyK p.kind=200:=by rw [h];rfl
  rw [e]
  exact inv_j (im4 H h ms hW) (fun _ _ h=>hs h)
 ·have e:tyK p.kind=204:=by rw [h];rfl
  rw [e]
  exact inv_j (im5 H h ms hW) (fun _ _ h=>hs h)
 ·have e:tyK p.kind=207:=by rw [h];rfl
  rw [e]
  exact inv_j (im6 H h ms hW) (fun _ _ h=>hs h)
 ·have e:tyK p.kind=214:=by rw [h];rfl
  rw [e]
  exact inv_j (im7 H h ms hW) (fun _ _ h=>hs h)
 ·have e:tyK p.kind=217:=by rw [h];rfl
  rw [e]
  exact inv_j (im8 H h ms hW) (fun _ _ h=>hs h)
 ·have e:tyK p.kind=222:=by rw [h];rfl
  rw [e]
  exact inv_j (im9 H h ms hW) (fun _ _ h=>hs h)
 ·have e:tyK p.kind=224:=by rw [h];rfl
  rw [e]
  exact inv_j (im10 H h ms hW) (fun _ _ h=>hs h)
 ·have e:tyK p.kind=229:=by rw [h];rfl
  rw [e]
  exact inv_j (im11 H h ms hW) (fun _ _ h=>hs h)
 ·have e:tyK p.kind=235:=by rw [h];rfl
  rw [e]
  exact inv_j (im12 H h ms hW) (fun _ _ h=>hs h)
theorem pl0 {F:Fr} {w:World} {ex:List Ex} {ro:List Ro} {p:Pk} {v:Value} (H:Sat F w ex ro) (hk:p.kind=0) (hp:Ro.deep [.ptr (rtcpD p)] [v]∈ro) (hs:p.size<=500000):Calls pg 66 #[.iface 242 v] w (PlPost F ex ro p):=by
 have hD:rtcpD p=[.row 1 (ob p.data)]:=by unfold rtcpD;simp [hk]
 have hT:trim p={ data:=p.data }:=by unfold trim;simp [hk]
 rw [hD] at hp
 unfold Pk.size at hs
 obtain ⟨b,vs,ro1,rfl,D0,hm,hd,hr,H⟩:=H.ptrC hp
 obtain ⟨v0,us0,rfl,d0,D1⟩:=D0.consInv
 obtain ⟨a0,n0,c0,rfl,e0⟩:=d0.rowInv
 rw [ob_length] at e0
 obtain rfl:n0=p.data.length:=by omega
 obtain rfl:=D1.nilInv
 apply of66
 refine sNew H ?_;clear H;intro b1 w _ H
 refine tno ?_
 refine tno ?_
 refine tno ?_
 refine tno ?_
 refine tno ?_
 refine tno ?_
 refine tno ?_
 refine tno ?_
 refine tno ?_
 refine tno ?_
 refine tno ?_
 refine tno ?_
 refine tno ?_
 refine ⟨_,_,fun wx=>ta_yes (by kernel_rfl) wx,?_⟩
 refine fT ?_
 refine ⟨_,rfl,_,_,_,H.cell (hm 0 _ rfl) rfl,?_⟩
 refine call_j (c37 (xs:=p.data) H (hd 0 _ _ rfl rfl) (by omega)) ?_
 clear H;rintro _ w ⟨o0,q0,rfl,_,H⟩
 refine ⟨_,_,_,rfl,?_⟩
 refine sSw0 H rfl (by kernel_rfl) (by rfl) (by rfl) ?_;clear H;intro w _ H
 refine ⟨_,H.b0.ld,?_⟩
 refine PlPost.mk H (by repeat (first | exact List.Sublist.refl _ | apply List.Sublist.cons)) (fun r h=>mt (hr r h)) ?_
 rw [hT]
 exact fun G h=>(dc (.one _) (dc (.one _) (dc (.one _) (dc (.one _) (dc (.one _) (dc (.one _) (dc (.one _) (dc (.emp _ _) (dc (.emp _ _) (dc (.emp _ _) (dc (.emp _ _) (dc (.one _) (dc (.one _) (dc (h (.deep [_] [_]) (ms)).head (dc (.emp _ _) (dc (.emp _ _) (dc (.emp _ _) (dc (.one _) (dc (.emp _ _) (dc (.one _) (dc (.one _) (dc (.one _) (dc (.one _) (dc (.one _) (dc (.emp _ _) (dc (.emp _ _) (dc (.one _) (dc (.one _) (dc (.one _) (dc (.one _) dn))))))))))))))))))))))))))))))
theorem pl1 {F:Fr} {w:World} {ex:List Ex} {ro:List Ro} {p:Pk} {v:Value} (H:Sat F w ex ro) (hk:p.kind=1) (hp:Ro.deep [.ptr (rtcpD p)] [v]∈ro) (hs:p.size<=500000):Calls pg 66 #[.iface 190 v] w (PlPost F ex ro p):=by
 have hD:rtcpD p=[.one (.int .u32 p.sender),.one (.int .u64 p.ntp),.one (.int .u32 p.rtp),.one (.int .u32 p.packets),.one (.int .u32 p.octets),.row 7 (p.reports.flatMap Rep.dat),.row 1 (ob p.ext)]:=by unfold rtcpD;simp [hk]
 have hT:trim p={ kind:=1,sender:=p.sender,ntp:=p.ntp,rtp:=p.rtp,packets:=p.packets,octets:=p.octets,reports:=p.reports,ext:=p.ext }:=by unfold trim;simp [hk]
 rw [hD] at hp
 unfold Pk.size at hs
 obtain ⟨b,vs,ro1,rfl,D0,hm,hd,hr,H⟩:=H.ptrC hp
 obtain ⟨us0,rfl,D1⟩:=D0.i1
 obtain ⟨us1,rfl,D2⟩:=D1.i1
 obtain ⟨us2,rfl,D3⟩:=D2.i1
 obtain ⟨us3,rfl,D4⟩:=D3.i1
 obtain ⟨us4,rfl,D5⟩:=D4.i1
 obtain ⟨v5,us5,rfl,d5,D6⟩:=D5.consInv
 obtain ⟨a5,n5,c5,rfl,e5⟩:=d5.rowInv
 rw [flat_len Rep.dat_len'] at e5
 obtain rfl:n5=p.reports.length:=by omega
 obtain ⟨v6,us6,rfl,d6,D7⟩:=D6.consInv
 obtain ⟨a6,n6,c6,rfl,e6⟩:=d6.rowInv
 rw [ob_length] at e6
 obtain rfl:n6=p.ext.length:=by omega
 obtain rfl:=D7.nilInv
 apply of66
 refine sNew H ?_;clear H;intro b1 w _ H
 refine ⟨_,_,fun wx=>ta_yes (by kernel_rfl) wx,?_⟩
 refine fT ?_
 refine ⟨none,?_⟩;replace H:=H.drew;generalize w.drew=wd1 at H ⊢;have K:=grew_refl wd1 (none)
 refine ⟨_,rfl,Option.some_ne_none _,H.rowC (hm 0 _ rfl),_,H.cell (hm 0 _ rfl) rfl,?_⟩
 refine ⟨_,rfl,Option.some_ne_none _,H.rowC (hm 0 _ rfl),_,H.cell (hm 1 _ rfl) rfl,?_⟩
 refine ⟨_,rfl,Option.some_ne_none _,H.rowC (hm 0 _ rfl),_,H.cell (hm 2 _ rfl) rfl,?_⟩
 refine ⟨_,rfl,Option.some_ne_none _,H.rowC (hm 0 _ rfl),_,H.cell (hm 3 _ rfl) rfl,?_⟩
 refine ⟨_,rfl,Option.some_ne_none _,H.rowC (hm 0 _ rfl),_,H.cell (hm 4 _ rfl) rfl,?_⟩
 refine ⟨_,rfl,Option.some_ne_none _,H.rowC (hm 0 _ rfl),_,_,_,H.cell (hm 5 _ rfl) rfl,?_⟩
 refine ⟨_,rfl,Option.some_ne_none _,H.rowC (hm 0 _ rfl),_,_,_,H.cell (hm 6 _ rfl) rfl,?_⟩
 obtain ⟨ex2,S,back⟩:=H.still
 refine call_j (c102 S (hd 5 _ _ rfl rfl) (by omega)) ?_
 clear H;rintro _ w ⟨o5,q5,rfl,S⟩
 obtain ⟨g,H⟩:=back w _ S
 clear S back
 replace K:=gtr K g;clear g
 refine ⟨_,_,_,rfl,K,?_⟩
 refine call_j (c37 (xs:=p.ext) H (mt (hd 6 _ _ rfl rfl)) (by omega)) ?_
 clear H;rintro _ w ⟨o6,q6,rfl,g,H⟩
 replace K:=gtr K g;clear g
 refine ⟨_,_,_,rfl,K,?_⟩
 refine sSw0 H rfl (by kernel_rfl) (by rfl) (by rfl) ?_;clear H;intro w _ H
 refine ⟨_,H.b0.ld,?_⟩
 refine PlPost.mk H (by repeat (first | exact List.Sublist.refl _ | apply List.Sublist.cons)) (fun r h=>mt (mt (hr r h))) ?_
 rw [hT]
 exact fun G h=>(dc (.one _) (dc (.one _) (dc (.one _) (dc (.one _) (dc (.one _) (dc (.one _) (dc (.one _) (dc (h (.deep [_] [_]) (mt ms)).head (dc (h (.deep [_] [_]) (ms)).head (dc (.emp _ _) (dc (.emp _ _) (dc (.one _) (dc (.one _) (dc (.emp _ _) (dc (.emp _ _) (dc (.emp _ _) (dc (.emp _ _) (dc (.one _) (dc (.emp _ _) (dc (.one _) (dc (.one _) (dc (.one _) (dc (.one _) (dc (.one _) (dc (.emp _ _) (dc (.emp _ _) (dc (.one _) (dc (.one _) (dc (.one _) (dc (.one _) dn))))))))))))))))))))))))))))))
theorem pl2 {F:Fr} {w:World} {ex:List Ex} {ro:List Ro} {p:Pk} {v:Value} (H:Sat F w ex ro) (hk:p.kind=2) (hp:Ro.deep [.ptr (rtcpD p)] [v]∈ro) (hs:p.size<=500000):Calls pg 66 #[.iface 195 v] w (PlPost F ex ro p):=by
 have hD:rtcpD p=[.one (.int .u32 p.sender),.row 7 (p.reports.flatMap Rep.dat),.row 1 (ob p.ext)]:=by unfold rtcpD;simp [hk]
 have hT:trim p={ kind:=2,sender:=p.sender,reports:=p.reports,ext:=p.ext }:=by unfold trim;simp [hk]
 rw [hD] at hp
 unfold Pk.size at hs
 obtain ⟨b,vs,ro1,rfl,D0,hm,hd,hr,H⟩:=H.ptrC hp
 obtain ⟨us0,rfl,D1⟩:=D0.i1
 obtain ⟨v1,us1,rfl,d1,D2⟩:=D1.consInv
 obtain ⟨a1,n1,c1,rfl,e1⟩:=d1.rowInv
 rw [flat_len Rep.dat_len'] at e1
 obtain rfl:n1=p.reports.length:=by omega
 obtain ⟨v2,us2,rfl,d2,D3⟩:=D2.consInv
 obtain ⟨a2,n2,c2,rfl,e2⟩:=d2.rowInv
 rw [ob_length] at e2
 obtain rfl:n2=p.ext.length:=by omega
 obtain rfl:=D3.nilInv
 apply of66
 refine sNew H ?_;clear H;intro b1 w _ H
 refine tno ?_
 refine ⟨_,_,fun wx=>ta_yes (by kernel_rfl) wx,?_⟩
 refine fT ?_
 refine ⟨none,?_⟩;replace H:=H.drew;generalize w.drew=wd1 at H ⊢;have K:=grew_refl wd1 (none)
 refine ⟨_,rfl,Option.some_ne_none _,H.rowC (hm 0 _ rfl),_,H.cell (hm 0 _ rfl) rfl,?_⟩
 refine ⟨_,rfl,Option.some_ne_none _,H.rowC (hm 0 _ rfl),_,_,_,H.cell (hm 1 _ rfl) rfl,?_⟩
 refine ⟨_,rfl,Option.some_ne_none _,H.rowC (hm 0 _ rfl),_,_,_,H.cell (hm 2 _ rfl) rfl,?_⟩
 obtain ⟨ex2,S,back⟩:=H.still
 refine call_j (c102 S (hd 1 _ _ rfl rfl) (by omega)) ?_
 clear H;rintro _ w ⟨o1,q1,rfl,S⟩
 obtain ⟨g,H⟩:=back w _ S
 clear S back
 replace K:=gtr K g;clear g
 refine ⟨_,_,_,rfl,K,?_⟩
 refine call_j (c37 (xs:=p.ext) H (mt (hd 2 _ _ rfl rfl)) (by omega)) ?_
 clear H;rintro _ w ⟨o2,q2,rfl,g,H⟩
 replace K:=gtr K g;clear g
 refine ⟨_,_,_,rfl,K,?_⟩
 refine sSw0 H rfl (by kernel_rfl) (by rfl) (by rfl) ?_;clear H;intro w _ H
 refine ⟨_,H.b0.ld,?_⟩
 refine PlPost.mk H (by repeat (first | exact List.Sublist.refl _ | apply List.Sublist.cons)) (fun r h=>mt (mt (hr r h))) ?_
 rw [hT]
 exact fun G h=>(dc (.one _) (dc (.one _) (dc (.one _) (dc (.one _) (dc (.one _) (dc (.one _) (dc (.one _) (dc (h (.deep [_] [_]) (mt ms)).head (dc (h (.deep [_] [_]) (ms)).head (dc (.emp _ _) (dc (.emp _ _) (dc (.one _) (dc (.one _) (dc (.emp _ _) (dc (.emp _ _) (dc (.emp _ _) (dc (.emp _ _) (dc (.one _) (dc (.emp _ _) (dc (.one _) (dc (.one _) (dc (.one _) (dc (.one _) (dc (.one _) (dc (.emp _ _) (dc (.emp _ _) (dc (.one _) (dc (.one _) (dc (.one _) (dc (.one _) dn))))))))))))))))))))))))))))))
theorem pl3 {F:Fr} {w:World} {ex:List Ex} {ro:List Ro} {p:Pk} {v:Value} (H:Sat F w ex ro) (hk:p.kind=3) (hp:Ro.deep [.ptr (rtcpD p)] [v]∈ro) (hs:p.size<=500000):Calls pg 66 #[.iface 198 v] w (PlPost F ex ro p):=by
 have hD:rtcpD p=[.row 2 (p.chunks.flatMap Chk.dat)]:=by unfold rtcpD;simp [hk]
 have hT:trim p={ kind:=3,chunks:=p.chunks }:=by unfold trim;simp [hk]
 rw [hD] at hp
 unfold Pk.size at hs
 have hcl:=csz_len p.chunks
 have hcm:=csz_mem p.chunks
 obtain ⟨b,vs,ro1,rfl,D0,hm,hd,hr,H⟩:=H.ptrC hp
 have hp2:=hr _ hp
 obtain ⟨v0,us0,rfl,d0,D1⟩:=D0.consInv
 obtain ⟨a0,n0,c0,rfl,e0⟩:=d0.rowInv
 rw [flat_len Chk.dat_len'] at e0
 obtain rfl:n0=p.chunks.length:=by omega
 obtain rfl:=D1.nilInv
 apply of66
 refine sNew H ?_;clear H;intro b1 w _ H
 refine tno ?_
 refine tno ?_
 refine ⟨_,_,fun wx=>ta_yes (by kernel_rfl) wx,?_⟩
 refine fT ?_
 refine call_j (c103 H hp2 (by omega) (fun B hB=>by have:=hcm B hB;omega)) ?_
 clear H;rintro _ w ⟨o0,q0,rfl,H⟩
 refine ⟨_,_,_,rfl,?_⟩
 refine sSw0 H rfl (by kernel_rfl) (by rfl) (by rfl) ?_;clear H;intro w _ H
 refine ⟨_,H.b0.ld,?_⟩
 refine PlPost.mk H (by repeat (first | exact List.Sublist.refl _ | apply List.Sublist.cons)) (fun r h=>mt (hr r h)) ?_
 rw [hT]
 exact fun G h=>(dc (.one _) (dc (.one _) (dc (.one _) (dc (.one _) (dc (.one _) (dc (.one _) (dc (.one _) (dc (.emp _ _) (dc (.emp _ _) (dc (h (.deep [_] [_]) (ms)).head (dc (.emp _ _) (dc (.one _) (dc (.one _) (dc (.emp _ _) (dc (.emp _ _) (dc (.emp _ _) (dc (.emp _ _) (dc (.one _) (dc (.emp _ _) (dc (.one _) (dc (.one _) (dc (.one _) (dc (.one _) (dc (.one _) (dc (.emp _ _) (dc (.emp _ _) (dc (.one _) (dc (.one _) (dc (.one _) (dc (.one _) dn))))))))))))))))))))))))))))))
theorem pl4 {F:Fr} {w:World} {ex:List Ex} {ro:List Ro} {p:Pk} {v:Value} (H:Sat F w ex ro) (hk:p.kind=4) (hp:Ro.deep [.ptr (rtcpD p)] [v]∈ro) (hs:p.size<=500000):Calls pg 66 #[.iface 200 v] w (PlPost F ex ro p):=by
 have hD:rtcpD p=[.row 1 (oi .u32 p.sources),.one (.string p.text)]:=by unfold rtcpD;simp [hk]
 have hT:trim p={ kind:=4,sources:=p.sources,text:=p.text }:=by unfold trim;simp [hk]
 rw [hD] at hp
 unfold Pk.size at hs
 obtain ⟨b,vs,ro1,rfl,D0,hm,hd,hr,H⟩:=H.ptrC hp
 obtain ⟨v0,us0,rfl,d0,D1⟩:=D0.consInv
 obtain ⟨a0,n0,c0,rfl,e0⟩:=d0.rowInv
 rw [oi_length] at e0
 obtain rfl:n0=p.sources.length:=by omega
 obtain ⟨us1,rfl,D2⟩:=D1.i1
 obtain rfl:=D2.nilInv
 apply of66
 refine sNew H ?_;clear H;intro b1 w _ H
 refine tno ?_
 refine tno ?_
 refine tno ?_
 refine ⟨_,_,fun wx=>ta_yes (by kernel_rfl) wx,?_⟩
 refine fT ?_
 refine ⟨none,?_⟩;replace H:=H.drew;generalize w.drew=wd1 at H ⊢;have K:=grew_refl wd1 (none)
 refine ⟨_,rfl,Option.some_ne_none _,H.rowC (hm 0 _ rfl),_,_,_,H.cell (hm 0 _ rfl) rfl,?_⟩
 refine ⟨_,rfl,Option.some_ne_none _,H.rowC (hm 0 _ rfl),_,H.cell (hm 1 _ rfl) rfl,?_⟩
 refine call_j (c98 H (hd 0 _ _ rfl rfl) (by omega)) ?_
 clear H;rintro _ w ⟨o0,q0,rfl,g,H⟩
 replace K:=gtr K g;clear g
 refine ⟨_,_,_,rfl,K,?_⟩
 refine sSw0 H rfl (by kernel_rfl) (by rfl) (by rfl) ?_;clear H;intro w _ H
 refine ⟨_,H.b0.ld,?_⟩
 refine PlPost.mk H (by repeat (first | exact List.Sublist.refl _ | apply List.Sublist.cons)) (fun r h=>mt (hr r h)) ?_
 rw [hT]
 exact fun G h=>(dc (.one _) (dc (.one _) (dc (.one _) (dc (.one _) (dc (.one _) (dc (.one _) (dc (.one _) (dc (.emp _ _) (dc (.emp _ _) (dc (.emp _ _) (dc (h (.deep [_] [_]) (ms)).head (dc (.one _) (dc (.one _) (dc (.emp _ _) (dc (.emp _ _) (dc (.emp _ _) (dc (.emp _ _) (dc (.one _) (dc (.emp _ _) (dc (.one _) (dc (.one _) (dc (.one _) (dc (.one _) (dc (.one _) (dc (.emp _ _) (dc (.emp _ _) (dc (.one _) (dc (.one _) (dc (.one _) (dc (.one _) dn))))))))))))))))))))))))))))))
theorem pl5 {F:Fr} {w:World} {ex:List Ex} {ro:List Ro} {p:Pk} {v:Value} (H:Sat F w ex ro) (hk:p.kind=5) (hp:Ro.deep [.ptr (rtcpD p)] [v]∈ro) (hs:p.size<=500000):Calls pg 66 #[.iface 204 v] w (PlPost F ex ro p):=by
 have hD:rtcpD p=[.one (.int .u8 p.sub),.one (.int .u32 p.sender),.one (.string p.text),.row 1 (ob p.data)]:=by unfold rtcpD;simp [hk]
 have hT:trim p={ kind:=5,sub:=p.sub,sender:=p.sender,text:=p.text,data:=p.data }:=by unfold trim;simp [hk]
 rw [hD] at hp
 unfold Pk.size at hs
 obtain ⟨b,vs,ro1,rfl,D0,hm,hd,hr,H⟩:=H.ptrC hp
 obtain ⟨us0,rfl,D1⟩:=D0.i1
 obtain ⟨us1,rfl,D2⟩:=D1.i1
 obtain ⟨us2,rfl,D3⟩:=D2.i1
 obtain ⟨v3,us3,rfl,d3,D4⟩:=D3.consInv
 obtain ⟨a3,n3,c3,rfl,e3⟩:=d3.rowInv
 rw [ob_length] at e3
 obtain rfl:n3=p.data.length:=by omega
 obtain rfl:=D4.nilInv
 apply of66
 refine sNew H ?_;clear H;intro b1 w _ H
 refine tno ?_
 refine tno ?_
 refine tno ?_
 refine tno ?_
 refine ⟨_,_,fun wx=>ta_yes (by kernel_rfl) wx,?_⟩
 refine fT ?_
 refine ⟨none,?_⟩;replace H:=H.drew;generalize w.drew=wd1 at H ⊢;have K:=grew_refl wd1 (none)
 refine ⟨_,rfl,Option.some_ne_none _,H.rowC (hm 0 _ rfl),_,H.cell (hm 0 _ rfl) rfl,?_⟩
 refine ⟨_,rfl,Option.some_ne_none _,H.rowC (hm 0 _ rfl),_,H.cell (hm 1 _ rfl) rfl,?_⟩
 refine ⟨_,rfl,Option.some_ne_none _,H.rowC (hm 0 _ rfl),_,H.cell (hm 2 _ rfl) rfl,?_⟩
 refine ⟨_,rfl,Option.some_ne_none _,H.rowC (hm 0 _ rfl),_,_,_,H.cell (hm 3 _ rfl) rfl,?_⟩
 refine call_j (c37 (xs:=p.data) H (hd 3 _ _ rfl rfl) (by omega)) ?_
 clear H;rintro _ w ⟨o3,q3,rfl,g,H⟩
 replace K:=gtr K g;clear g
 refine ⟨_,_,_,rfl,K,?_⟩
 refine sSw0 H rfl (by kernel_rfl) (by rfl) (by rfl) ?_;clear H;intro w _ H
 refine ⟨_,H.b0.ld,?_⟩
 refine PlPost.mk H (by repeat (first | exact List.Sublist.refl _ | apply List.Sublist.cons)) (fun r h=>mt (hr r h)) ?_
 rw [hT]
 exact fun G h=>(dc (.one _) (dc (.one _) (dc (.one _) (dc (.one _) (dc (.one _) (dc (.one _) (dc (.one _) (dc (.emp _ _) (dc (.emp _ _) (dc (.emp _ _) (dc (.emp _ _) (dc (.one _) (dc (.one _) (dc (h (.deep [_] [_]) (ms)).head (dc (.emp _ _) (dc (.emp _ _) (dc (.emp _ _) (dc (.one _) (dc (.emp _ _) (dc (.one _) (dc (.one _) (dc (.one _) (dc (.one _) (dc (.one _) (dc (.emp _ _) (dc (.emp _ _) (dc (.one _) (dc (.one _) (dc (.one _) (dc (.one _) dn))))))))))))))))))))))))))))))
theorem pl6 {F:Fr} {w:World} {ex:List Ex} {ro:List Ro} {p:Pk} {v:Value} (H:Sat F w ex ro) (hk:p.kind=6) (hp:Ro.deep [.ptr (rtcpD p)] [v]∈ro) (hs:p.size<=500000):Calls pg 66 #[.iface 207 v] w (PlPost F ex ro p):=by
 have hD:rtcpD p=[.one (.int .u32 p.sender),.one (.int .u32 p.media),.row 2 (p.pairs.flatMap Par.dat)]:=by unfold rtcpD;simp [hk]
 have hT:trim p={ kind:=6,sender:=p.sender,media:=p.media,pairs:=p.pairs }:=by unfold trim;simp [hk]
 rw [hD] at hp
 unfold Pk.size at hs
 obtain ⟨b,vs,ro1,rfl,D0,hm,hd,hr,H⟩:=H.ptrC hp
 obtain ⟨us0,rfl,D1⟩:=D0.i1
 obtain ⟨us1,rfl,D2⟩:=D1.i1
 obtain ⟨v2,us2,rfl,d2,D3⟩:=D2.consInv
 obtain ⟨a2,n2,c2,rfl,e2⟩:=d2.rowInv
 rw [flat_len Par.dat_lenK] at e2
 obtain rfl:n2=p.pairs.length:=by omega
 obtain rfl:=D3.nilInv
 apply of66
 refine sNew H ?_;clear H;intro b1 w _ H
 refine tno ?_
 refine tno ?_
 refine tno ?_
 refine tno ?_
 refine tno ?_
 refine ⟨_,_,fun wx=>ta_yes (by kernel_rfl) wx,?_⟩
 refine fT ?_
 refine ⟨none,?_⟩;replace H:=H.drew;generalize w.drew=wd1 at H ⊢;have K:=grew_refl wd1 (none)
 refine ⟨_,rfl,Option.some_ne_none _,H.rowC (hm 0 _ rfl),_,H.cell (hm 0 _ rfl) rfl,?_⟩
 refine ⟨_,rfl,Option.some_ne_none _,H.rowC (hm 0 _ rfl),_,H.cell (hm 1 _ rfl) rfl,?_⟩
 refine sNew H ?_;clear H;intro b2 w g H;replace K:=gtr K (grew_none _ g);clear g
 refine ⟨K,?_⟩
 clear K
 refine sSw0 H rfl (by kernel_rfl) (by rfl) (by rfl) ?_;clear H;intro w _ H
 refine ⟨_,rfl,_,_,_,H.cell (hm 2 _ rfl) rfl,?_⟩
 refine ⟨fun x m w=>∃(j:Nat) (o:Option Addr) (oc:Nat) (r:Option Nat),x=(j:Int)/\j+m=p.pairs.length/\Sat F w (.blk b2 75 ((pk0 6 p.sender p.media false 0 0 0).set 14 (.slice o j oc))::.own 171 2 o j oc r ((p.pairs.take j).flatMap Par.dat)::.blk b1 75 (pk0 0 0 0 false 0 0 0)::ex) ro1,⟨p.pairs.length,0,none,0,none,rfl,by omega,(H.nilOwn 171 2).u1⟩,?_⟩
 clear H;rintro dd x m w ⟨j,o,oc,r,rfl,hjm,H⟩
 refine ⟨fun hc=>?_,fun hc=>?_⟩
 ·rw [decide_eq_true_eq] at hc
  have hjl:j < p.pairs.length:=by omega
  obtain ⟨q,us,e,hus,hcell,H1⟩:=H.eltF Par.dat_lenK (by decide) (hd 2 _ _ rfl rfl) (j:=j) hjl
  have htk:p.pairs.take (j+1)=p.pairs.take j++[p.pairs[j]]:=by rw [List.take_add_one,List.getElem?_eq_getElem hjl];rfl
  clear H
  generalize p.pairs[j]=E at H1 htk
  obtain ⟨e0,e1⟩:=E
  refine ⟨q,e,by omega,by omega,?_⟩
  obtain rfl:=H1.ones (us:=[.int .u16 e0,.int .u16 e1]) ms
  refine ⟨_,_,LdC [.int .u16 e0,.int .u16 e1] (by kernel_rfl) (by rw [show (j:Int).toNat*2=j*2 by omega];exact hcell),?_⟩
  have H:=H1
  clear H1 hcell
  refine sNew H ?_;clear H;intro b3 w _ H
  refine sSw0 H rfl (by kernel_rfl) (by rfl) (by rfl) ?_;clear H;intro w _ H
  refine ⟨_,_,_,(H.b1.at0 rfl),?_⟩
  refine ⟨_,(H.b0.at0 rfl),?_⟩
  refine ⟨_,(H.b0.at0 rfl),?_⟩
  refine ⟨rfl,?_⟩
  refine sPush2 H (bytes:=4) (by kernel_rfl) (Par.dat (e0,e1)) (by rfl) (fun G h=>DeepL.ones [_,_]) (by rfl) (by unfold maxLen;omega) (by omega) ?_
  clear H;intro o3 ol3 oc3 r3 w ex3 _ H
  refine sSt1 H (by exact add_flat _ _ _) (by kernel_rfl) (by rfl) (by rfl) ?_;clear H;intro w _ H
  subst ex3
  refine ⟨m - 1,by omega,j+1,o3,oc3,r3,?_,by omega,?_⟩
  ·rw [wi64_of (by omega) (by omega)];simp
  ·rw [htk,List.flatMap_append]
   simp only [List.flatMap_cons,List.flatMap_nil,List.append_nil]
   exact H.sub (List.sublist_cons_self _ _) (fun r h=>mt h)
 ·rw [decide_eq_false_iff_not] at hc
  obtain rfl:j=p.pairs.length:=by omega
  rw [List.take_length] at H
  replace H:=H.r1.freeze
  refine ⟨_,H.b0.ld,?_⟩
  refine sSw1 H rfl (by kernel_rfl) (by rfl) (by rfl) ?_;clear H;intro w _ H
  refine ⟨_,H.b1.ld,?_⟩
  refine PlPost.mk H (by repeat (first | exact List.Sublist.refl _ | apply List.Sublist.cons)) (fun r h=>mt (hr r h)) ?_
  rw [hT]
  exact fun G h=>(dc (.one _) (dc (.one _) (dc (.one _) (dc (.one _) (dc (.one _) (dc (.one _) (dc (.one _) (dc (.emp _ _) (dc (.emp _ _) (dc (.emp _ _) (dc (.emp _ _) (dc (.one _) (dc (.one _) (dc (.emp _ _) (dc (h (.deep [_] [_]) (ms)).head (dc (.emp _ _) (dc (.emp _ _) (dc (.one _) (dc (.emp _ _) (dc (.one _) (dc (.one _) (dc (.one _) (dc (.one _) (dc (.one _) (dc (.emp _ _) (dc (.emp _ _) (dc (.one _) (dc (.one _) (dc (.one _) (dc (.one _) dn))))))))))))))))))))))))))))))
theorem pl7 {F:Fr} {w:World} {ex:List Ex} {ro:List Ro} {p:Pk} {v:Value} (H:Sat F w ex ro) (hk:p.kind=7) (hp:Ro.deep [.ptr (rtcpD p)] [v]∈ro) (hs:p.size<=500000):Calls pg 66 #[.iface 214 v] w (PlPost F ex ro p):=by
 have hD:rtcpD p=[.one (.int .u32 p.sender),.one (.int .u32 p.media)]:=by unfold rtcpD;simp [hk]
 have hT:trim p={ kind:=7,sender:=p.sender,media:=p.media }:=by unfold trim;simp [hk]
 rw [hD] at hp
 unfold Pk.size at hs
 obtain ⟨b,vs,ro1,rfl,D0,hm,hd,hr,H⟩:=H.ptrC hp
 obtain ⟨us0,rfl,D1⟩:=D0.i1
 obtain ⟨us1,rfl,D2⟩:=D1.i1
 obtain rfl:=D2.nilInv
 apply of66
 refine sNew H ?_;clear H;intro b1 w _ H
 refine tno ?_
 refine tno ?_
 refine tno ?_
 refine tno ?_
 refine tno ?_
 refine tno ?_
 refine ⟨_,_,fun wx=>ta_yes (by kernel_rfl) wx,?_⟩
 refine fT ?_
 replace H:=H.drew;generalize w.drew=w at H ⊢
 refine ⟨_,rfl,_,H.cell (hm 0 _ rfl) rfl,?_⟩
 refine ⟨_,rfl,_,H.cell (hm 1 _ rfl) rfl,?_⟩
 refine sSw0 H rfl (by kernel_rfl) (by rfl) (by rfl) ?_;clear H;intro w _ H
 refine ⟨_,H.b0.ld,?_⟩
 refine PlPost.mk H (by repeat (first | exact List.Sublist.refl _ | apply List.Sublist.cons)) (fun r h=>hr r h) ?_
 rw [hT]
 exact fun G h=>(dc (.one _) (dc (.one _) (dc (.one _) (dc (.one _) (dc (.one _) (dc (.one _) (dc (.one _) (dc (.emp _ _) (dc (.emp _ _) (dc (.emp _ _) (dc (.emp _ _) (dc (.one _) (dc (.one _) (dc (.emp _ _) (dc (.emp _ _) (dc (.emp _ _) (dc (.emp _ _) (dc (.one _) (dc (.emp _ _) (dc (.one _) (dc (.one _) (dc (.one _) (dc (.one _) (dc (.one _) (dc (.emp _ _) (dc (.emp _ _) (dc (.one _) (dc (.one _) (dc (.one _) (dc (.one _) dn))))))))))))))))))))))))))))))
theorem pl8 {F:Fr} {w:World} {ex:List Ex} {ro:List Ro} {p:Pk} {v:Value} (H:Sat F w ex ro) (hk:p.kind=8) (hp:Ro.deep [.ptr (rtcpD p)] [v]∈ro) (hs:p.size<=500000):Calls pg 66 #[.iface 217 v] w (PlPost F ex ro p):=by
 have hD:rtcpD p=[.one (.int .u32 p.sender),.row 3 (p.blocks.flatMap Blo.dat),.one (.int .u32 p.time)]:=by unfold rtcpD;simp [hk]
 have hT:trim p={ kind:=8,sender:=p.sender,blocks:=p.blocks,time:=p.time }:=by unfold trim;simp [hk]
 rw [hD] at hp
 unfold Pk.size at hs
 have hcl:=bsz_len p.blocks
 have hcm:=bsz_mem p.blocks
 obtain ⟨b,vs,ro1,rfl,D0,hm,hd,hr,H⟩:=H.ptrC hp
 obtain ⟨us0,rfl,D1⟩:=D0.i1
 obtain ⟨v1,us1,rfl,d1,D2⟩:=D1.consInv
 obtain ⟨a1,n1,c1,rfl,e1⟩:=d1.rowInv
 rw [flat_len Blo.dat_len'] at e1
 obtain rfl:n1=p.blocks.length:=by omega
 obtain ⟨us2,rfl,D3⟩:=D2.i1
 obtain rfl:=D3.nilInv
 apply of66
 refine sNew H ?_;clear H;intro b1 w _ H
 refine tno ?_
 refine tno ?_
 refine tno ?_
 refine tno ?_
 refine tno ?_
 refine tno ?_
 refine tno ?_
 refine ⟨_,_,fun wx=>ta_yes (by kernel_rfl) wx,?_⟩
 refine fT ?_
 refine ⟨none,?_⟩;replace H:=H.drew;generalize w.drew=wd1 at H ⊢;have K:=grew_refl wd1 (none)
 refine ⟨_,rfl,Option.some_ne_none _,H.rowC (hm 0 _ rfl),_,H.cell (hm 0 _ rfl) rfl,?_⟩
 refine ⟨_,rfl,Option.some_ne_none _,H.rowC (hm 0 _ rfl),_,_,_,H.cell (hm 1 _ rfl) rfl,?_⟩
 refine ⟨_,rfl,Option.some_ne_none _,H.rowC (hm 0 _ rfl),_,H.cell (hm 2 _ rfl) rfl,?_⟩
 obtain ⟨ex2,S,back⟩:=H.still
 refine call_j (c104 S (hd 1 _ _ rfl rfl) (by omega) (fun B hB=>by have:=hcm B hB;omega)) ?_
 clear H;rintro _ w ⟨o1,q1,rfl,S⟩
 obtain ⟨g,H⟩:=back w _ S
 clear S back
 replace K:=gtr K g;clear g
 refine ⟨_,_,_,rfl,K,?_⟩
 refine sSw0 H rfl (by kernel_rfl) (by rfl) (by rfl) ?_;clear H;intro w _ H
 refine ⟨_,H.b0.ld,?_⟩
 refine PlPost.mk H (by repeat (first | exact List.Sublist.refl _ | apply List.Sublist.cons)) (fun r h=>mt (hr r h)) ?_
 rw [hT]
 exact fun G h=>(dc (.one _) (dc (.one _) (dc (.one _) (dc (.one _) (dc (.one _) (dc (.one _) (dc (.one _) (dc (.emp _ _) (dc (.emp _ _) (dc (.emp _ _) (dc (.emp _ _) (dc (.one _) (dc (.one _) (dc (.emp _ _) (dc (.emp _ _) (dc (.emp _ _) (dc (.emp _ _) (dc (.one _) (dc (h (.deep [_] [_]) (ms)).head (dc (.one _) (dc (.one _) (dc (.one _) (dc (.one _) (dc (.one _) (dc (.emp _ _) (dc (.emp _ _) (dc (.one _) (dc (.one _) (dc (.one _) (dc (.one _) dn))))))))))))))))))))))))))))))
theorem pl9 {F:Fr} {w:World} {ex:List Ex} {ro:List Ro} {p:Pk} {v:Value} (H:Sat F w ex ro) (hk:p.kind=9) (hp:Ro.deep [.ptr (rtcpD p)] [v]∈ro) (hs:p.size<=500000):Calls pg 66 #[.iface 222 v] w (PlPost F ex ro p):=by
 have hD:rtcpD p=[.one (.int .u32 p.sender),.one (.int .u32 p.media)]:=by unfold rtcpD;simp [hk]
 have hT:trim p={ kind:=9,sender:=p.sender,media:=p.media }:=by unfold trim;simp [hk]
 rw [hD] at hp
 unfold Pk.size at hs
 obtain ⟨b,vs,ro1,rfl,D0,hm,hd,hr,H⟩:=H.ptrC hp
 obtain ⟨us0,rfl,D1⟩:=D0.i1
 obtain ⟨us1,rfl,D2⟩:=D1.i1
 obtain rfl:=D2.nilInv
 apply of66
 refine sNew H ?_;clear H;intro b1 w _ H
 refine tno ?_
 refine tno ?_
 refine tno ?_
 refine tno ?_
 refine tno ?_
 refine tno ?_
 refine tno ?_
 refine tno ?_
 refine ⟨_,_,fun wx=>ta_yes (by kernel_rfl) wx,?_⟩
 refine fT ?_
 replace H:=H.drew;generalize w.drew=w at H ⊢
 refine ⟨_,rfl,_,H.cell (hm 0 _ rfl) rfl,?_⟩
 refine ⟨_,rfl,_,H.cell (hm 1 _ rfl) rfl,?_⟩
 refine sSw0 H rfl (by kernel_rfl) (by rfl) (by rfl) ?_;clear H;intro w _ H
 refine ⟨_,H.b0.ld,?_⟩
 refine PlPost.mk H (by repeat (first | exact List.Sublist.refl _ | apply List.Sublist.cons)) (fun r h=>hr r h) ?_
 rw [hT]
 exact fun G h=>(dc (.one _) (dc (.one _) (dc (.one _) (dc (.one _) (dc (.one _) (dc (.one _) (dc (.one _) (dc (.emp _ _) (dc (.emp _ _) (dc (.emp _ _) (dc (.emp _ _) (dc (.one _) (dc (.one _) (dc (.emp _ _) (dc (.emp _ _) (dc (.emp _ _) (dc (.emp _ _) (dc (.one _) (dc (.emp _ _) (dc (.one _) (dc (.one _) (dc (.one _) (dc (.one _) (dc (.one _) (dc (.emp _ _) (dc (.emp _ _) (dc (.one _) (dc (.one _) (dc (.one _) (dc (.one _) dn))))))))))))))))))))))))))))))
theorem pl10 {F:Fr} {w:World} {ex:List Ex} {ro:List Ro} {p:Pk} {v:Value} (H:Sat F w ex ro) (hk:p.kind=10) (hp:Ro.deep [.ptr (rtcpD p)] [v]∈ro) (hs:p.size<=500000):Calls pg 66 #[.iface 224 v] w (PlPost F ex ro p):=by
 have hD:rtcpD p=[.one (.int .u32 p.sender),.one (.int .u32 p.media),.row 3 (p.slices.flatMap Sli.dat)]:=by unfold rtcpD;simp [hk]
 have hT:trim p={ kind:=10,sender:=p.sender,media:=p.media,slices:=p.slices }:=by unfold trim;simp [hk]
 rw [hD] at hp
 unfold Pk.size at hs
 obtain ⟨b,vs,ro1,rfl,D0,hm,hd,hr,H⟩:=H.ptrC hp
 obtain ⟨us0,rfl,D1⟩:=D0.i1
 obtain ⟨us1,rfl,D2⟩:=D1.i1
 obtain ⟨v2,us2,rfl,d2,D3⟩:=D2.consInv
 obtain ⟨a2,n2,c2,rfl,e2⟩:=d2.rowInv
 rw [flat_len Sli.dat_lenK] at e2
 obtain rfl:n2=p.slices.length:=by omega
 obtain rfl:=D3.nilInv
 apply of66
 refine sNew H ?_;clear H;intro b1 w _ H
 refine tno ?_
 refine tno ?_
 refine tno ?_
 refine tno ?_
 refine tno ?_
 refine tno ?_
 refine tno ?_
 refine tno ?_
 refine tno ?_
 refine ⟨_,_,fun wx=>ta_yes (by kernel_rfl) wx,?_⟩
 refine fT ?_
 refine ⟨none,?_⟩;replace H:=H.drew;generalize w.drew=wd1 at H ⊢;have K:=grew_refl wd1 (none)
 refine ⟨_,rfl,Option.some_ne_none _,H.rowC (hm 0 _ rfl),_,H.cell (hm 0 _ rfl) rfl,?_⟩
 refine ⟨_,rfl,Option.some_ne_none _,H.rowC (hm 0 _ rfl),_,H.cell (hm 1 _ rfl) rfl,?_⟩
 refine sNew H ?_;clear H;intro b2 w g H;replace K:=gtr K (grew_none _ g);clear g
 refine ⟨K,?_⟩
 clear K
 refine sSw0 H rfl (by kernel_rfl) (by rfl) (by rfl) ?_;clear H;intro w _ H
 refine ⟨_,rfl,_,_,_,H.cell (hm 2 _ rfl) rfl,?_⟩
 refine ⟨fun x m w=>∃(j:Nat) (o:Option Addr) (oc:Nat) (r:Option Nat),x=(j:Int)/\j+m=p.slices.length/\Sat F w (.blk b2 75 ((pk0 10 p.sender p.media false 0 0 0).set 15 (.slice o j oc))::.own 172 3 o j oc r ((p.slices.take j).flatMap Sli.dat)::.blk b1 75 (pk0 0 0 0 false 0 0 0)::ex) ro1,⟨p.slices.length,0,none,0,none,rfl,by omega,(H.nilOwn 172 3).u1⟩,?_⟩
 clear H;rintro dd x m w ⟨j,o,oc,r,rfl,hjm,H⟩
 refine ⟨fun hc=>?_,fun hc=>?_⟩
 ·rw [decide_eq_true_eq] at hc
  have hjl:j < p.slices.length:=by omega
  obtain ⟨q,us,e,hus,hcell,H1⟩:=H.eltF Sli.dat_lenK (by decide) (hd 2 _ _ rfl rfl) (j:=j) hjl
  have htk:p.slices.take (j+1)=p.slices.take j++[p.slices[j]]:=by rw [List.take_add_one,List.getElem?_eq_getElem hjl];rfl
  clear H
  generalize p.slices[j]=E at H1 htk
  obtain ⟨e0,e1,e2⟩:=E
  refine ⟨q,e,by omega,by omega,?_⟩
  obtain rfl:=H1.ones (us:=[.int .u16 e0,.int .u16 e1,.int .u8 e2]) ms
  refine ⟨_,_,_,LdC [.int .u16 e0,.int .u16 e1,.int .u8 e2] (by kernel_rfl) (by rw [show (j:Int).toNat*3=j*3 by omega];exact hcell),?_⟩
  have H:=H1
  clear H1 hcell
  refine sNew H ?_;clear H;intro b3 w _ H
  refine sSw0 H rfl (by kernel_rfl) (by rfl) (by rfl) ?_;clear H;intro w _ H
  refine ⟨_,_,_,(H.b1.at0 rfl),?_⟩
  refine ⟨_,(H.b0.at0 rfl),?_⟩
  refine ⟨_,(H.b0.at0 rfl),?_⟩
  refine ⟨_,(H.b0.at0 rfl),?_⟩
  refine ⟨rfl,?_⟩
  refine sPush2 H (bytes:=6) (by kernel_rfl) (Sli.dat (e0,e1,e2)) (by rfl) (fun G h=>DeepL.ones [_,_,_]) (by rfl) (by unfold maxLen;omega) (by omega) ?_
  clear H;intro o3 ol3 oc3 r3 w ex3 _ H
  refine sSt1 H (by exact add_flat _ _ _) (by kernel_rfl) (by rfl) (by rfl) ?_;clear H;intro w _ H
  subst ex3
  refine ⟨m - 1,by omega,j+1,o3,oc3,r3,?_,by omega,?_⟩
  ·rw [wi64_of (by omega) (by omega)];simp
  ·rw [htk,List.flatMap_append]
   simp only [List.flatMap_cons,List.flatMap_nil,List.append_nil]
   exact H.sub (List.sublist_cons_self _ _) (fun r h=>mt h)
 ·rw [decide_eq_false_iff_not] at hc
  obtain rfl:j=p.slices.length:=by omega
  rw [List.take_length] at H
  replace H:=H.r1.freeze
  refine ⟨_,H.b0.ld,?_⟩
  refine sSw1 H rfl (by kernel_rfl) (by rfl) (by rfl) ?_;clear H;intro w _ H
  refine ⟨_,H.b1.ld,?_⟩
  refine PlPost.mk H (by repeat (first | exact List.Sublist.refl _ | apply List.Sublist.cons)) (fun r h=>mt (hr r h)) ?_
  rw [hT]
  exact fun G h=>(dc (.one _) (dc (.one _) (dc (.one _) (dc (.one _) (dc (.one _) (dc (.one _) (dc (.one _) (dc (.emp _ _) (dc (.emp _ _) (dc (.emp _ _) (dc (.emp _ _) (dc (.one _) (dc (.one _) (dc (.emp _ _) (dc (.emp _ _) (dc (h (.deep [_] [_]) (ms)).head (dc (.emp _ _) (dc (.one _) (dc (.emp _ _) (dc (.one _) (dc (.one _) (dc (.one _) (dc (.one _) (dc (.one _) (dc (.emp _ _) (dc (.emp _ _) (dc (.one _) (dc (.one _) (dc (.one _) (dc (.one _) dn))))))))))))))))))))))))))))))
theorem pl11 {F:Fr} {w:World} {ex:List Ex} {ro:List Ro} {p:Pk} {v:Value} (H:Sat F w ex ro) (hk:p.kind=11) (hp:Ro.deep [.ptr (rtcpD p)] [v]∈ro) (hs:p.size<=500000):Calls pg 66 #[.iface 229 v] w (PlPost F ex ro p):=by
 have hD:rtcpD p=[.one (.int .u32 p.sender),.one (.int .u32 p.media),.row 2 (p.entries.flatMap Ent.dat)]:=by unfold rtcpD;simp [hk]
 have hT:trim p={ kind:=11,sender:=p.sender,media:=p.media,entries:=p.entries }:=by unfold trim;simp [hk]
 rw [hD] at hp
 unfold Pk.size at hs
 obtain ⟨b,vs,ro1,rfl,D0,hm,hd,hr,H⟩:=H.ptrC hp
 obtain ⟨us0,rfl,D1⟩:=D0.i1
 obtain ⟨us1,rfl,D2⟩:=D1.i1
 obtain ⟨v2,us2,rfl,d2,D3⟩:=D2.consInv
 obtain ⟨a2,n2,c2,rfl,e2⟩:=d2.rowInv
 rw [flat_len Ent.dat_lenK] at e2
 obtain rfl:n2=p.entries.length:=by omega
 obtain rfl:=D3.nilInv
 apply of66
 refine sNew H ?_;clear H;intro b1 w _ H
 refine tno ?_
 refine tno ?_
 refine tno ?_
 refine tno ?_
 refine tno ?_
 refine tno ?_
 refine tno ?_
 refine tno ?_
 refine tno ?_
 refine tno ?_
 refine ⟨_,_,fun wx=>ta_yes (by kernel_rfl) wx,?_⟩
 refine fT ?_
 refine ⟨none,?_⟩;replace H:=H.drew;generalize w.drew=wd1 at H ⊢;have K:=grew_refl wd1 (none)
 refine ⟨_,rfl,Option.some_ne_none _,H.rowC (hm 0 _ rfl),_,H.cell (hm 0 _ rfl) rfl,?_⟩
 refine ⟨_,rfl,Option.some_ne_none _,H.rowC (hm 0 _ rfl),_,H.cell (hm 1 _ rfl) rfl,?_⟩
 refine sNew H ?_;clear H;intro b2 w g H;replace K:=gtr K (grew_none _ g);clear g
 refine ⟨K,?_⟩
 clear K
 refine sSw0 H rfl (by kernel_rfl) (by rfl) (by rfl) ?_;clear H;intro w _ H
 refine ⟨_,rfl,_,_,_,H.cell (hm 2 _ rfl) rfl,?_⟩
 refine ⟨fun x m w=>∃(j:Nat) (o:Option Addr) (oc:Nat) (r:Option Nat),x=(j:Int)/\j+m=p.entries.length/\Sat F w (.blk b2 75 ((pk0 11 p.sender p.media false 0 0 0).set 16 (.slice o j oc))::.own 173 2 o j oc r ((p.entries.take j).flatMap Ent.dat)::.blk b1 75 (pk0 0 0 0 false 0 0 0)::ex) ro1,⟨p.entries.length,0,none,0,none,rfl,by omega,(H.nilOwn 173 2).u1⟩,?_⟩
 clear H;rintro dd x m w ⟨j,o,oc,r,rfl,hjm,H⟩
 refine ⟨fun hc=>?_,fun hc=>?_⟩
 ·rw [decide_eq_true_eq] at hc
  have hjl:j < p.entries.length:=by omega
  obtain ⟨q,us,e,hus,hcell,H1⟩:=H.eltF Ent.dat_lenK (by decide) (hd 2 _ _ rfl rfl) (j:=j) hjl
  have htk:p.entries.take (j+1)=p.entries.take j++[p.entries[j]]:=by rw [List.take_add_one,List.getElem?_eq_getElem hjl];rfl
  clear H
  generalize p.entries[j]=E at H1 htk
  obtain ⟨e0,e1⟩:=E
  refine ⟨q,e,by omega,by omega,?_⟩
  obtain rfl:=H1.ones (us:=[.int .u32 e0,.int .u8 e1]) ms
  refine ⟨_,_,LdC [.int .u32 e0,.int .u8 e1] (by kernel_rfl) (by rw [show (j:Int).toNat*2=j*2 by omega];exact hcell),?_⟩
  have H:=H1
  clear H1 hcell
  refine sNew H ?_;clear H;intro b3 w _ H
  refine sSw0 H rfl (by kernel_rfl) (by rfl) (by rfl) ?_;clear H;intro w _ H
  refine ⟨_,_,_,(H.b1.at0 rfl),?_⟩
  refine ⟨_,(H.b0.at0 rfl),?_⟩
  refine ⟨_,(H.b0.at0 rfl),?_⟩
  refine ⟨rfl,?_⟩
  refine sPush2 H (bytes:=8) (by kernel_rfl) (Ent.dat (e0,e1)) (by rfl) (fun G h=>DeepL.ones [_,_]) (by rfl) (by unfold maxLen;omega) (by omega) ?_
  clear H;intro o3 ol3 oc3 r3 w ex3 _ H
  refine sSt1 H (by exact add_flat _ _ _) (by kernel_rfl) (by rfl) (by rfl) ?_;clear H;intro w _ H
  subst ex3
  refine ⟨m - 1,by omega,j+1,o3,oc3,r3,?_,by omega,?_⟩
  ·rw [wi64_of (by omega) (by omega)];simp
  ·rw [htk,List.flatMap_append]
   simp only [List.flatMap_cons,List.flatMap_nil,List.append_nil]
   exact H.sub (List.sublist_cons_self _ _) (fun r h=>mt h)
 ·rw [decide_eq_false_iff_not] at hc
  obtain rfl:j=p.entries.length:=by omega
  rw [List.take_length] at H
  replace H:=H.r1.freeze
  refine ⟨_,H.b0.ld,?_⟩
  refine sSw1 H rfl (by kernel_rfl) (by rfl) (by rfl) ?_;clear H;intro w _ H
  refine ⟨_,H.b1.ld,?_⟩
  refine PlPost.mk H (by repeat (first | exact List.Sublist.refl _ | apply List.Sublist.cons)) (fun r h=>mt (hr r h)) ?_
  rw [hT]
  exact fun G h=>(dc (.one _) (dc (.one _) (dc (.one _) (dc (.one _) (dc (.one _) (dc (.one _) (dc (.one _) (dc (.emp _ _) (dc (.emp _ _) (dc (.emp _ _) (dc (.emp _ _) (dc (.one _) (dc (.one _) (dc (.emp _ _) (dc (.emp _ _) (dc (.emp _ _) (dc (h (.deep [_] [_]) (ms)).head (dc (.one _) (dc (.emp _ _) (dc (.one _) (dc (.one _) (dc (.one _) (dc (.one _) (dc (.one _) (dc (.emp _ _) (dc (.emp _ _) (dc (.one _) (dc (.one _) (dc (.one _) (dc (.one _) dn))))))))))))))))))))))))))))))
theorem pl12 {F:Fr} {w:World} {ex:List Ex} {ro:List Ro} {p:Pk} {v:Value} (H:Sat F w ex ro) (hk:p.kind=12) (hp:Ro.deep [.ptr (rtcpD p)] [v]∈ro) (hs:p.size<=500000) (hbits:p.bits=(p.bits.toNat:Int)):Calls pg 66 #[.iface 235 v] w (PlPost F ex ro p):=by
 have hD:rtcpD p=[.one (.int .u32 p.sender),.one (.float .f32 p.bits.toNat),.row 1 (oi .u32 p.sources)]:=by unfold rtcpD;simp [hk]
 have hT:trim p={ kind:=12,sender:=p.sender,bits:=p.bits,sources:=p.sources }:=by unfold trim;simp [hk]
 rw [hD] at hp
 unfold Pk.size at hs
 obtain ⟨b,vs,ro1,rfl,D0,hm,hd,hr,H⟩:=H.ptrC hp
 obtain ⟨us0,rfl,D1⟩:=D0.i1
 obtain ⟨us1,rfl,D2⟩:=D1.i1
 obtain ⟨v2,us2,rfl,d2,D3⟩:=D2.consInv
 obtain ⟨a2,n2,c2,rfl,e2⟩:=d2.rowInv
 rw [oi_length] at e2
 obtain rfl:n2=p.sources.length:=by omega
 obtain rfl:=D3.nilInv
 apply of66
 refine sNew H ?_;clear H;intro b1 w _ H
 refine tno ?_
 refine tno ?_
 refine tno ?_
 refine tno ?_
 refine tno ?_
 refine tno ?_
 refine tno ?_
 refine tno ?_
 refine tno ?_
 refine tno ?_
 refine tno ?_
 refine ⟨_,_,fun wx=>ta_yes (by kernel_rfl) wx,?_⟩
 refine fT ?_
 refine ⟨none,?_⟩;replace H:=H.drew;generalize w.drew=wd1 at H ⊢;have K:=grew_refl wd1 (none)
 refine ⟨_,rfl,Option.some_ne_none _,H.rowC (hm 0 _ rfl),_,H.cell (hm 0 _ rfl) rfl,?_⟩
 refine ⟨_,rfl,Option.some_ne_none _,H.rowC (hm 0 _ rfl),_,H.cell (hm 1 _ rfl) rfl,?_⟩
 refine ⟨_,rfl,Option.some_ne_none _,H.rowC (hm 0 _ rfl),_,_,_,H.cell (hm 2 _ rfl) rfl,?_⟩
 refine ⟨_,_,run_f32bits,K,?_⟩
 refine call_j (c98 H (hd 2 _ _ rfl rfl) (by omega)) ?_
 clear H;rintro _ w ⟨o2,q2,rfl,g,H⟩
 replace K:=gtr K g;clear g
 refine ⟨_,_,_,rfl,K,?_⟩
 refine sSw0 H rfl (by kernel_rfl) (by rfl) (by rfl) ?_;clear H;intro w _ H
 refine ⟨_,H.b0.ld,?_⟩
 refine PlPost.mk H (by repeat (first | exact List.Sublist.refl _ | apply List.Sublist.cons)) (fun r h=>mt (hr r h)) ?_
 rw [hT]
 rw [<-hbits]
 exact fun G h=>(dc (.one _) (dc (.one _) (dc (.one _) (dc (.one _) (dc (.one _) (dc (.one _) (dc (.one _) (dc (.emp _ _) (dc (.emp _ _) (dc (.emp _ _) (dc (h (.deep [_] [_]) (ms)).head (dc (.one _) (dc (.one _) (dc (.emp _ _) (dc (.emp _ _) (dc (.emp _ _) (dc (.emp _ _) (dc (.one _) (dc (.emp _ _) (dc (.one _) (dc (.one _) (dc (.one _) (dc (.one _) (dc (.one _) (dc (.emp _ _) (dc (.emp _ _) (dc (.one _) (dc (.one _) (dc (.one _) (dc (.one _) dn))))))))))))))))))))))))))))))
theorem PlPost.ok {F:Fr} {ex:List Ex} {ro:List Ro} {r:Ro} {p:Pk} {en:Ending} {w:World} (ht:trim p=p) (h:PlPost F ex (r::ro) p en w) :
  ∃cells ro',en=.returned (.agg cells.toArray)/\(∀r∈ro,r∈ro')/\Sat F w ex ro'/\Ro.deep p.dat cells∈ro':=by
 obtain ⟨cells,ro',h1,h2,h3,h4⟩:=h
 rw [ht] at h4
 exact ⟨cells,ro',h1,fun r h=>h2 r (mt h),h3,h4⟩
theorem c66 {F:Fr} {w:World} {ex:List Ex} {ro:List Ro} {p:Pk} {v:Value} {n:Nat} (H:Sat F w ex ro) (hp:Ro.deep [pkI p] [v]∈ro) (hG:Gd p n) (hn:n<=200000) :
  Calls pg 66 #[v] w fun en w'=>∃cells ro',en=.returned (.agg cells.toArray)/\(∀r∈ro,r∈ro')/\Sat F w' ex ro'/\Ro.deep p.dat cells∈ro':=by
 have hp':Ro.deep [.ifc (tyK p.kind) (.ptr (rtcpD p))] [v]∈ro:=hp
 obtain ⟨u,rfl,H1⟩:=H.ifc hp'
 have hlo:=hG.lo
 have hhi:=hG.hi
 have hs:=hG.sz
 have hk:p.kind=0\/p.kind=1\/p.kind=2\/p.kind=3\/p.kind=4\/p.kind=5\/p.kind=6\/p.kind=7\/p.kind=8\/p.kind=9\/p.kind=10\/p.kind=11\/p.kind=12:=by omega
 rcases hk with hk | hk | hk | hk | hk | hk | hk | hk | hk | hk | hk | hk | hk
 ·rw [show tyK p.kind=242 by rw [hk];rfl]
  exact (pl0 H1 hk ms (by omega)).mono fun _ _ h=>h.ok hG.trim
 ·rw [show tyK p.kind=190 by rw [hk];rfl]
  exact (pl1 H1 hk ms (by omega)).mono fun _ _ h=>h.ok hG.trim
 ·rw [show tyK p.kind=195 by rw [hk];rfl]
  exact (pl2 H1 hk ms (by omega)).mono fun _ _ h=>h.ok hG.trim
 ·rw [show tyK p.kind=198 by rw [hk];rfl]
  exact (pl3 H1 hk ms (by omega)).mono fun _ _ h=>h.ok hG.trim
 ·rw [show tyK p.kind=200 by rw [hk];rfl]
  exact (pl4 H1 hk ms (by omega)).mono fun _ _ h=>h.ok hG.trim
 ·rw [show tyK p.kind=204 by rw [hk];rfl]
  exact (pl5 H1 hk ms (by omega)).mono fun _ _ h=>h.ok hG.trim
 ·rw [show tyK p.kind=207 by rw [hk];rfl]
  exact (pl6 H1 hk ms (by omega)).mono fun _ _ h=>h.ok hG.trim
 ·rw [show tyK p.kind=214 by rw [hk];rfl]
  exact (pl7 H1 hk ms (by omega)).mono fun _ _ h=>h.ok hG.trim
 ·rw [show tyK p.kind=217 by rw [hk];rfl]
  exact (pl8 H1 hk ms (by omega)).mono fun _ _ h=>h.ok hG.trim
 ·rw [show tyK p.kind=222 by rw [hk];rfl]
  exact (pl9 H1 hk ms (by omega)).mono fun _ _ h=>h.ok hG.trim
 ·rw [show tyK p.kind=224 by rw [hk];rfl]
  exact (pl10 H1 hk ms (by omega)).mono fun _ _ h=>h.ok hG.trim
 ·rw [show tyK p.kind=229 by rw [hk];rfl]
  exact (pl11 H1 hk ms (by omega)).mono fun _ _ h=>h.ok hG.trim
 ·rw [show tyK p.kind=235 by rw [hk];rfl]
  exact (pl12 H1 hk ms (by omega) hG.bits).mono fun _ _ h=>h.ok hG.trim
theorem tyK_ne (k:Int):tyK k≠137:=by
 intro h
 unfold tyK at h
 by_cases h1:k=1
 ·rw [if_pos h1] at h;exact absurd h (by decide)
 rw [if_neg h1] at h
 by_cases h2:k=2
 ·rw [if_pos h2] at h;exact absurd h (by decide)
 rw [if_neg h2] at h
 by_cases h3:k=3
 ·rw [if_pos h3] at h;exact absurd h (by decide)
 rw [if_neg h3] at h
 by_cases h4:k=4
 ·rw [if_pos h4] at h;exact absurd h (by decide)
 rw [if_neg h4] at h
 by_cases h5:k=5
 ·rw [if_pos h5] at h;exact absurd h (by decide)
 rw [if_neg h5] at h
 by_cases h6:k=6
 ·rw [if_pos h6] at h;exact absurd h (by decide)
 rw [if_neg h6] at h
 by_cases h7:k=7
 ·rw [if_pos h7] at h;exact absurd h (by decide)
 rw [if_neg h7] at h
 by_cases h8:k=8
 ·rw [if_pos h8] at h;exact absurd h (by decide)
 rw [if_neg h8] at h
 by_cases h9:k=9
 ·rw [if_pos h9] at h;exact absurd h (by decide)
 rw [if_neg h9] at h
 by_cases h10:k=10
 ·rw [if_pos h10] at h;exact absurd h (by decide)
 rw [if_neg h10] at h
 by_cases h11:k=11
 ·rw [if_pos h11] at h;exact absurd h (by decide)
 rw [if_neg h11] at h
 by_cases h12:k=12
 ·rw [if_pos h12] at h;exact absurd h (by decide)
 rw [if_neg h12] at h
 by_cases h13:k=13
 ·rw [if_pos h13] at h;exact absurd h (by decide)
 rw [if_neg h13] at h
 exact absurd h (by decide)
theorem c38 {F:Fr} {w:World} {ex:List Ex} {ro:List Ro} {L:List Pk} {l:Option Addr} {c n:Nat} (H:Sat F w ex ro) (hl:Ro.deep [.row 1 (L.map pkI)] [.slice l L.length c]∈ro) (hG:∀p∈L,Gd p n) (hn:n<=200000) (hLn:L.length<=1000000) :
  Calls pg 38 #[.slice l L.length c] w fun en w'=>∃o oc ro',en=.returned (.slice o L.length oc)/\(∀r∈ro,r∈ro')/\Sat F w' ex ro'/\Ro.deep [.row 30 (L.flatMap Pk.dat)] [.slice o L.length oc]∈ro':=by
 apply of38
 refine ⟨fun o ol oc x m w=>∃(j:Nat) (r:Option Nat) (ro':List Ro),x=(j:Int)/\j+m=L.length/\ol=j/\(∀r∈ro,r∈ro')/\Sat F w (.own 75 30 o ol oc r ((L.take j).flatMap Pk.dat)::ex) ro',⟨L.length,0,none,ro,rfl,by omega,rfl,fun _ h=>h,H.nilOwn 75 30⟩,?_⟩
 clear H;rintro dd2 o ol oc x m w ⟨j,r,ro',rfl,hjm,rfl,hr,H⟩
 refine ⟨fun hc=>?_,fun hc=>?_⟩
 ·rw [decide_eq_true_eq] at hc
  have hjl:ol < L.length:=by omega
  obtain ⟨bb,oo,us,rfl,hul,hcell,H1⟩:=H.elts (hr _ hl) (by omega)
  rw [List.length_map] at hul
  have H2:=H1.splitRo ms ol (d:=pkI L[ol]) (v:=us[ol]) (by rw [List.getElem?_map,List.getElem?_eq_getElem hjl];rfl) (List.getElem?_eq_getElem (by omega))
  refine ⟨_,rfl,by omega,by omega,?_⟩
  refine ⟨_,(by rw [show (ol:Int).toNat*1=ol by omega,add_flat];exact hcell ol us[ol] (List.getElem?_eq_getElem (by omega))),?_⟩
  have htk:L.take (ol+1)=L.take ol++[L[ol]]:=by rw [List.take_add_one,List.getElem?_eq_getElem hjl];rfl
  have hGp:=hG L[ol] (List.getElem_mem hjl)
  clear hcell H H1
  generalize us[ol]=u at H2 ⊢
  generalize L[ol]=p at H2 htk hGp
  have hp':Ro.deep [.ifc (tyK p.kind) (.ptr (rtcpD p))] [u]∈Ro.deep [pkI p] [u]::Ro.deep (L.map pkI) us::ro':=ms
  obtain ⟨u1,rfl,H3⟩:=H2.ifc hp'
  refine ⟨_,_,fun wx=>ta_no (by kernel_rfl) (tyK_ne _) wx,?_⟩
  refine fF ?_
  refine call_j (c66 H2 ms hGp hn) ?_
  clear H2 H3
  rintro _ w ⟨cells,ro2,rfl,hr2,H,hd⟩
  refine ⟨_,rfl,?_⟩
  obtain ⟨a7,a8,a9,a10,a13,a14,a15,a16,a18,a24,a25,c7,c8,c9,c10,c13,c14,c15,c16,c18,c24,c25,rfl,_⟩:=H.pk hd
  refine ⟨rfl,?_⟩
  refine sPush0 H (bytes:=360) (by kernel_rfl) p.dat (by rfl) (fun G h=>h _ hd) (by rfl) (by unfold maxLen;omega) (by omega) ?_
  clear H;intro o2 ol2 oc2 r2 w ex2 _ H
  subst ex2
  refine ⟨m - 1,by omega,ol+1,r2,ro2,?_,by omega,rfl,fun r h=>hr2 r (mt (mt (hr r h))),?_⟩
  ·rw [wi64_of (by omega) (by omega)];simp
  ·rw [htk,List.flatMap_append]
   simp only [List.flatMap_cons,List.flatMap_nil,List.append_nil]
   exact H
 ·rw [decide_eq_false_iff_not] at hc
  obtain rfl:ol=L.length:=by omega
  rw [List.take_length] at H
  exact ⟨o,oc,_,rfl,fun r h=>mt (hr r h),H.freeze,ms⟩
theorem c35 {F:Fr} {w:World} {e0:Ex} {ex:List Ex} {ro:List Ro} {xs:List Int} {a:Option Addr} {n c:Nat} {p1 p3:Nat} {t1 t3:TypeId} {v:Value} {L:List Pk}
  (H:Sat F w (e0::.blk p3 t3 [v]::.blk p1 t1 [.slice a n c]::ex) ro) (hx:Ro.B xs a n c∈ro) (hb:By xs) (hE:ErrC False ro) (hn:n<=200000) (hne:L≠[]) (hg:gl xs.length xs=some L) (hG:∀p∈L,Gd p n) (hL:L.length<=1000000) :
  Calls pg 35 #[.pointer (some ⟨p1,0,none⟩),.pointer (some ⟨p3,0,none⟩)] w fun en w'=>en=.returned (.bool true) /\
   ∃o oc ro',(∀r∈ro,r∈ro')/\Sat F w' (e0::.blk p3 t3 [.slice o L.length oc]::.blk p1 t1 [.slice a n c]::ex) ro'/\Ro.deep [.row 30 (L.flatMap Pk.dat)] [.slice o L.length oc]∈ro':=by
 apply of35
 have hlen:=H.lenB hx
 refine ⟨_,_,_,(by exact Ce (by rfl) H.b2 rfl),?_⟩
 refine call_j (c37 (xs:=xs) H hx (by omega)) ?_
 clear H
 rintro _ w ⟨a',c',rfl,_,H⟩
 refine ⟨_,_,_,rfl,?_⟩
 refine call_j (c36 H ms hb (hE.mono (fun r h=>mt h)) (by omega) hg hne (fun p hp=>by have:=(hG p hp).hi;omega)) ?_
 clear H
 rintro _ w ⟨o,oc,ro',rfl,hr,H,hd⟩
 refine ⟨_,_,_,_,rfl,?_⟩
 refine call_j (c38 H hd hG hn hL) ?_
 clear H
 rintro _ w ⟨o2,oc2,ro2,rfl,hr2,H,hd2⟩
 refine ⟨_,_,_,rfl,?_⟩
 refine sSt1 H (by rfl) (by kernel_rfl) (by rfl) (by rfl) ?_;clear H;intro w _ H
 refine ⟨by simp [isIf],?_⟩
 exact ⟨rfl,o2,oc2,ro2,fun r h=>hr2 r (hr r (mt h)),H,hd2⟩
theorem c12 {F:Fr} {w:World} {ex:List Ex} {ro:List Ro} {xs:List Int} {a:Option Addr} {n c:Nat} {L:List Pk}
  (H:Sat F w ex ro) (hx:Ro.B xs a n c∈ro) (hb:By xs) (hE:ErrC False ro) (hn:n<=200000) (hne:L≠[]) (hg:gl xs.length xs=some L) (hG:∀p∈L,Gd p n) (hL:L.length<=1000000) :
  Calls pg 12 #[.slice a n c] w fun en w'=>∃o oc ro',en=.returned (.tuple #[.slice o L.length oc,.bool true])/\(∀r∈ro,r∈ro')/\Sat F w' ex ro'/\Ro.deep [.row 30 (L.flatMap Pk.dat)] [.slice o L.length oc]∈ro':=by
 apply of12
 refine sNew H ?_;clear H;intro p1 w _ H
 refine sNew H ?_;clear H;intro p3 w _ H
 refine sTry H (by kernel_rfl) ?_
 clear H;intro tb w H
 refine call_j (c35 H hx hb hE hn hne hg hG hL) ?_
 clear H
 rintro _ w ⟨rfl,o,oc,ro',hr,H,hd⟩
 refine ⟨true,_,_,rfl,H,?_⟩
 clear H;intro w H
 refine ⟨_,rfl,?_⟩
 refine fF ?_
 refine ⟨_,_,_,(by exact Ce (by rfl) H.b0 rfl),?_⟩
 refine sSt0 H (by rfl) (by kernel_rfl) (by rfl) (by rfl) ?_;clear H;intro w _ H
 refine ⟨_,_,_,(by exact Ce (by rfl) H.b0 rfl),?_⟩
 exact ⟨o,oc,ro',rfl,hr,H.sub ((List.sublist_cons_self _ _).trans (List.sublist_cons_self _ _)) (fun _ h=>h),hd⟩
structure BuOk (p:Pk):Prop where
 lo:0<=p.kind
 hi:p.kind<=12
 sz:p.size<=500000
 bits:p.kind=12->0<=p.bits/\p.bits < 4294967296
theorem c65 {F:Fr} {w:World} {ex:List Ex} {ro:List Ro} {p:Pk} {cells:List Value} (H:Sat F w ex ro) (hp:Ro.deep p.dat cells∈ro) (hB:BuOk p):Calls pg 65 #[.agg cells.toArray] w (BuPost F ex ro p):=by
 have lo:=hB.lo;have hi:=hB.hi
 have hkk:p.kind=0\/p.kind=1\/p.kind=2\/p.kind=3\/p.kind=4\/p.kind=5\/p.kind=6\/p.kind=7\/p.kind=8\/p.kind=9\/p.kind=10\/p.kind=11\/p.kind=12:=by omega
 rcases hkk with h | h | h | h | h | h | h | h | h | h | h | h | h
 ·exact bu0 H h hp hB.sz
 ·exact bu1 H h hp hB.sz
 ·exact bu2 H h hp hB.sz
 ·exact bu3 H h hp hB.sz
 ·exact bu4 H h hp hB.sz
 ·exact bu5 H h hp hB.sz
 ·exact bu6 H h hp hB.sz
 ·exact bu7 H h hp hB.sz
 ·exact bu8 H h hp hB.sz
 ·exact bu9 H h hp hB.sz
 ·exact bu10 H h hp hB.sz
 ·exact bu11 H h hp hB.sz
 ·exact bu12 H h hp hB.sz (hB.bits h)
theorem Pk.dat_lenN (p:Pk):(Pk.dat p).length=30:=rfl
theorem c46 {F:Fr} {w:World} {ex:List Ex} {ro:List Ro} {L:List Pk} {l:Option Addr} {c:Nat} (H:Sat F w ex ro) (hl:Ro.deep [.row 30 (L.flatMap Pk.dat)] [.slice l L.length c]∈ro) (hL:L.length<=1000000) (hB:∀p∈L,BuOk p) :
  Calls pg 46 #[.slice l L.length c] w fun en w'=>∃o oc,en=.returned (.slice o L.length oc)/\Sat F w' ex (.deep [.row 1 (L.map pkI)] [.slice o L.length oc]::ro):=by
 apply of46
 refine ⟨fun o ol oc x m w=>∃(j:Nat) (r:Option Nat),x=(j:Int)/\j+m=L.length/\ol=j/\Sat F w (.own 123 1 o ol oc r ((L.take j).map pkI)::ex) ro,⟨L.length,0,none,rfl,by omega,rfl,H.nilOwn 123 1⟩,?_⟩
 clear H;rintro dd2 o ol oc x m w ⟨j,r,rfl,hjm,rfl,H⟩
 refine ⟨fun hc=>?_,fun hc=>?_⟩
 ·rw [decide_eq_true_eq] at hc
  have hjl:ol < L.length:=by omega
  obtain ⟨p,us,e,hus,hcell,H1⟩:=H.eltF Pk.dat_lenN (by decide) hl (j:=ol) hjl
  have htk:L.take (ol+1)=L.take ol++[L[ol]]:=by rw [List.take_add_one,List.getElem?_eq_getElem hjl];rfl
  have hBj:=hB L[ol] (List.getElem_mem hjl)
  clear H
  generalize L[ol]=D at H1 htk hBj
  obtain ⟨a7,a8,a9,a10,a13,a14,a15,a16,a18,a24,a25,c7,c8,c9,c10,c13,c14,c15,c16,c18,c24,c25,R,rfl,hr,H,_⟩:=H1.pkF ms
  clear H1
  refine ⟨p,e,by omega,by omega,?_⟩
  refine ⟨_,LdC (pkC D a7 a8 a9 a10 a13 a14 a15 a16 a18 a24 a25 c7 c8 c9 c10 c13 c14 c15 c16 c18 c24 c25) (by kernel_rfl) (by rw [show (ol:Int).toNat*30=ol*30 by omega];exact hcell),?_⟩
  clear hcell
  refine sNew H ?_;clear H;intro b11 w _ H
  refine sSw0 H rfl (by kernel_rfl) (by rfl) (by rfl) ?_;clear H;intro w _ H
  refine ⟨_,H.b0.ld,?_⟩
  refine call_j (c65 H (hr _ ms) hBj) ?_
  clear H
  rintro _ w ⟨T,v,ro',rfl,hr',H,hm⟩
  refine ⟨_,rfl,?_⟩
  refine ⟨rfl,?_⟩
  refine sPush1 H (bytes:=16) (by kernel_rfl) [pkI D] (by rfl) (fun G h=>dc (h (.deep [_] [_]) hm).head dn) (by rfl) (by unfold maxLen;omega) (by omega) ?_
  clear H;intro o2 ol2 oc2 r2 w ex2 _ H
  subst ex2
  refine ⟨m - 1,by omega,ol+1,r2,?_,by omega,rfl,?_⟩
  ·rw [wi64_of (by omega) (by omega)];simp
  ·rw [htk,List.map_append]
   exact H.sub (List.sublist_cons_self _ _) (fun r h=>hr' r (hr r (mt h)))
 ·rw [decide_eq_false_iff_not] at hc
  obtain rfl:ol=L.length:=by omega
  rw [List.take_length] at H
  exact ⟨o,oc,rfl,H.freeze⟩
theorem pre_le {α:Type} (f:α->List Int) {L:List α} {j:Nat} (h:j < L.length):((L.take j).flatMap f).length+(f L[j]).length<=(L.flatMap f).length:=by
 have:=flat_at (f:=f) h
 omega
theorem c45 {F:Fr} {w:World} {ex:List Ex} {ro:List Ro} {L:List Pk} {l:Option Addr} {c:Nat} (H:Sat F w ex ro) (hl:Ro.deep [.row 1 (L.map pkI)] [.slice l L.length c]∈ro) (hL:L.length<=1000000) (hW:∀p∈L,WrOk p) (hN:(L.flatMap wrOne).length<=50000000) :
  Calls pg 45 #[.slice l L.length c] w (MPost F ex ro (L.flatMap wrOne)):=by
 apply of45
 refine sMk H (e:=5) (z:=.int .u8 0) (bytes:=1) (by kernel_rfl) (by kernel_rfl) (by rfl) (by unfold maxLen;omega) (by omega) (n:=0) (by rfl) (by rfl) ?_
 clear H;intro g w _ H
 replace H:=H.toOwn 1 0 (ob []) (by rfl) (by decide) (fun G h=>DeepL.nil _ _)
 refine ⟨fun o ol oc x m w=>∃(j:Nat) (r:Option Nat),x=(j:Int)/\j+m=L.length/\ol=((L.take j).flatMap wrOne).length/\Sat F w (.own 5 1 o ol oc r (ob ((L.take j).flatMap wrOne))::ex) ro,⟨L.length,0,_,rfl,by omega,rfl,H⟩,?_⟩
 clear H;rintro dd2 o ol oc x m w ⟨j,r,rfl,hjm,hol,H⟩
 refine ⟨fun hc=>?_,fun hc=>?_⟩
 ·rw [decide_eq_true_eq] at hc
  have hjl:j < L.length:=by omega
  obtain ⟨bb,oo,us,rfl,hul,hcell,H0⟩:=H.elts hl (by omega)
  rw [List.length_map] at hul
  have H1:=H0.splitRo ms j (d:=pkI L[j]) (v:=us[j]) (by rw [List.getElem?_map,List.getElem?_eq_getElem hjl];rfl) (List.getElem?_eq_getElem (by omega))
  clear H0
  have htk:L.take (j+1)=L.take j++[L[j]]:=by rw [List.take_add_one,List.getElem?_eq_getElem hjl];rfl
  have hWj:=hW L[j] (List.getElem_mem hjl)
  have hpre:=pre_le wrOne hjl
  clear H
  generalize L[j]=D at H1 htk hWj hpre
  refine ⟨_,rfl,by omega,by omega,?_⟩
  refine ⟨_,(by rw [show (j:Int).toNat*1=j by omega,add_flat];exact hcell j us[j] (List.getElem?_eq_getElem (by omega))),?_⟩
  refine inv_j (inM H1 ms hWj) ?_
  clear H1 hcell
  rintro _ w ⟨a,cc,ro',rfl,hr,H,hm⟩
  refine ⟨_,_,_,_,rfl,?_⟩
  refine ⟨by simp [isIf],?_⟩
  refine fF ?_
  refine sAppV H hm (by omega) ?_
  clear H;intro o2 ol2 oc2 r2 w hol2 _ H
  refine ⟨m - 1,by omega,j+1,r2,?_,by omega,?_,?_⟩
  ·rw [wi64_of (by omega) (by omega)];simp
  ·rw [htk,List.flatMap_append]
   simp only [List.flatMap_cons,List.flatMap_nil,List.append_nil,List.length_append]
   omega
  ·rw [htk,List.flatMap_append]
   simp only [List.flatMap_cons,List.flatMap_nil,List.append_nil]
   exact H.sub (List.Sublist.refl _) (fun r h=>hr r (mt (mt h)))
 ·rw [decide_eq_false_iff_not] at hc
  obtain rfl:j=L.length:=by omega
  rw [List.take_length] at H hol
  exact MPost.own H (List.Sublist.refl _) (fun _ h=>h) hol
theorem c44 {F:Fr} {w:World} {e0:Ex} {ex:List Ex} {ro:List Ro} {p1 p3:Nat} {t1 t3:TypeId} {v:Value} {L:List Pk} {l:Option Addr} {c:Nat}
  (H:Sat F w (e0::.blk p3 t3 [v]::.blk p1 t1 [.slice l L.length c]::ex) ro) (hl:Ro.deep [.row 30 (L.flatMap Pk.dat)] [.slice l L.length c]∈ro) (hL:L.length<=1000000) (hB:∀p∈L,BuOk p) (hW:∀p∈L,WrOk p) (hN:(L.flatMap wrOne).length<=50000000) :
  Calls pg 44 #[.pointer (some ⟨p1,0,none⟩),.pointer (some ⟨p3,0,none⟩)] w fun en w'=>en=.returned (.bool true) /\
   ∃o oc ro',(∀r∈ro,r∈ro')/\Sat F w' (e0::.blk p3 t3 [.slice o (L.flatMap wrOne).length oc]::.blk p1 t1 [.slice l L.length c]::ex) ro'/\Ro.B (L.flatMap wrOne) o (L.flatMap wrOne).length oc∈ro':=by
 apply of44
 refine ⟨_,_,_,(by exact Ce (by rfl) H.b2 rfl),?_⟩
 refine call_j (c46 H hl hL hB) ?_
 clear H
 rintro _ w ⟨o,oc,rfl,H⟩
 refine ⟨_,_,_,rfl,?_⟩
 refine call_j (c45 H ms hL hW hN) ?_
 clear H
 rintro _ w ⟨a,ac,ro',rfl,hr,H,hm⟩
 refine ⟨_,_,_,_,rfl,?_⟩
 refine sSt1 H (by rfl) (by kernel_rfl) (by rfl) (by rfl) ?_;clear H;intro w _ H
 refine ⟨by simp [isIf],?_⟩
 exact ⟨rfl,a,ac,ro',fun r h=>hr r (mt h),H,hm⟩
theorem c18 {F:Fr} {w:World} {ex:List Ex} {ro:List Ro} {L:List Pk} {l:Option Addr} {c:Nat} (H:Sat F w ex ro) (hl:Ro.deep [.row 30 (L.flatMap Pk.dat)] [.slice l L.length c]∈ro) (hL:L.length<=1000000) (hB:∀p∈L,BuOk p) (hW:∀p∈L,WrOk p) (hN:(L.flatMap wrOne).length<=50000000) :
  Calls pg 18 #[.slice l L.length c] w fun en w'=>∃o oc ro',en=.returned (.tuple #[.slice o (L.flatMap wrOne).length oc,.bool true])/\(∀r∈ro,r∈ro')/\Sat F w' ex ro'/\Ro.B (L.flatMap wrOne) o (L.flatMap wrOne).length oc∈ro':=by
 apply of18
 refine sNew H ?_;clear H;intro p1 w _ H
 refine sNew H ?_;clear H;intro p3 w _ H
 refine sTry H (by kernel_rfl) ?_
 clear H;intro tb w H
 refine call_j (c44 H hl hL hB hW hN) ?_
 clear H
 rintro _ w ⟨rfl,o,oc,ro',hr,H,hd⟩
 refine ⟨true,_,_,rfl,H,?_⟩
 clear H;intro w H
 refine ⟨_,rfl,?_⟩
 refine fF ?_
 refine ⟨_,_,_,(by exact Ce (by rfl) H.b0 rfl),?_⟩
 refine sSt0 H (by rfl) (by kernel_rfl) (by rfl) (by rfl) ?_;clear H;intro w _ H
 refine ⟨_,_,_,(by exact Ce (by rfl) H.b0 rfl),?_⟩
 exact ⟨o,oc,ro',rfl,hr,H.sub ((List.sublist_cons_self _ _).trans (List.sublist_cons_self _ _)) (fun _ h=>h),hd⟩
theorem foot_own {e:TypeId} {sz:Nat} {a:Option Addr} {n c:Nat} {r:Option Nat} {ds:List Dat}:∀b∈foots [.own e sz a n c r ds],some b=r:=by
 intro b hb
 have:b∈r.toList:=by simpa [foots,Ex.foot] using hb
 cases r with
 | none=>cases this
 | some k=>simp at this;rw [this]
theorem Sat.regO {F:Fr} {w:World} {e:TypeId} {sz:Nat} {a:Option Addr} {n c:Nat} {r:Option Nat} {ds:List Dat} {ex:List Ex} {ro:List Ro} (H:Sat F w (.own e sz a n c r ds::ex) ro) :
  ∃F2 ex2,Sat F2 w (.own e sz a n c r ds::ex2) ro/\(∀{x w' ro'},Sat F2 w' (x::ex2) ro'->w.grownBy w' r/\Sat F w' (x::ex) ro')/\(∀{x y w' ro'},Sat F2 w' (x::y::ex2) ro'->w.grownBy w' r/\Sat F w' (x::y::ex) ro')/\(∀{b t cells},Ex.blk b t cells∈ex->Ex.blk b t cells∈ex2):=by
 obtain ⟨ex2,S,back,hmem⟩:=Sat.still3 (E0:=[.own e sz a n c r ds]) H r foot_own
 exact ⟨_,ex2,S,fun {x} _ _ h=>back [x] _ _ h,fun {x y} _ _ h=>back [x,y] _ _ h,fun h=>hmem _ _ _ h⟩
theorem Sat.regN {F:Fr} {w:World} {ex:List Ex} {ro:List Ro} (H:Sat F w ex ro) :
  ∃F2 ex2,Sat F2 w ex2 ro/\(∀{x w' ro'},Sat F2 w' (x::ex2) ro'->w.grownBy w' none/\Sat F w' (x::ex) ro')/\(∀{x y w' ro'},Sat F2 w' (x::y::ex2) ro'->w.grownBy w' none/\Sat F w' (x::y::ex) ro')/\(∀{b t cells},Ex.blk b t cells∈ex->Ex.blk b t cells∈ex2):=by
 obtain ⟨ex2,S,back,hmem⟩:=Sat.still3 (E0:=[]) H none (by simp [foots])
 exact ⟨_,ex2,S,fun {x} _ _ h=>back [x] _ _ h,fun {x y} _ _ h=>back [x,y] _ _ h,fun h=>hmem _ _ _ h⟩
def RepW (x:Rep):Prop:=u32R x.1/\u32R x.2.2.1/\u32R x.2.2.2.1/\u32R x.2.2.2.2.1/\u32R x.2.2.2.2.2.1/\u32R x.2.2.2.2.2.2
def FoPost (F:Fr) (ex:List Ex) (ro:List Ro) (m:Nat) (P:List Int->Prop) (en:Ending) (w':World):Prop:=
 ∃a c r B ok,en=.returned (.tuple #[.slice a B.length c,.bool ok])/\Sat F w' (.own 5 1 a B.length c r (ob B)::ex) ro/\B.length<=m/\(ok=true->P B)
theorem FoPost.no {F:Fr} {ex exs:List Ex} {ro:List Ro} {m:Nat} {P:List Int->Prop} {w:World} (H:Sat F w exs ro) (hs:ex.Sublist exs):FoPost F ex ro m P (.returned (.tuple #[.slice none 0 0,.bool false])) w:=
 ⟨none,0,none,[],false,rfl,(H.sub hs (fun _ h=>h)).nilOwn 5 1,Nat.zero_le _,fun h=>by cases h⟩
theorem c113 {F:Fr} {w:World} {ex:List Ex} {ro:List Ro} {d0 d1 d2 d3 d4 d5 d6:Int} (H:Sat F w ex ro) (hR:RepW (d0,d1,d2,d3,d4,d5,d6)) :
  Calls pg 113 #[.agg #[.int .u32 d0,.int .u8 d1,.int .u32 d2,.int .u32 d3,.int .u32 d4,.int .u32 d5,.int .u32 d6]] w (FoPost F ex ro 24 fun B=>B=wRep (d0,d1,d2,d3,d4,d5,d6)/\d2 < 16777216):=by
 obtain ⟨h0,h2,h3,h4,h5,h6⟩:u32R d0/\u32R d2/\u32R d3/\u32R d4/\u32R d5/\u32R d6:=hR
 apply of113
 refine sNew H ?_;clear H;intro b1 w _ H
 refine ⟨_,(H.b0.at0 rfl),?_⟩
 refine ⟨fun hc=>FoPost.no H (List.sublist_cons_self _ _),fun hc=>?_⟩
 have hc:d2 < 16777216:=by simpa using hc
 have e1:IntKind.u8.wrap (ishr .u32 d2 (16:Int))=d2 / 65536:=by rw [ishr_of (b:=(16:Int)) 16 (by rfl) (by decide),wu8];omega
 have e2:IntKind.u8.wrap (ishr .u32 d2 (8:Int))=d2 / 256 % 256:=by rw [ishr_of (b:=(8:Int)) 8 (by rfl) (by decide),wu8];omega
 have e3:IntKind.u8.wrap d2=d2 % 256:=wu8 _
 refine ⟨none,?_⟩;replace H:=H.drew;generalize w.drew=w at H ⊢;obtain ⟨F2,ex2,S,back1,back2,hm⟩:=H.regN
 refine ⟨nn,H.b0.row,_,(H.b0.at0 rfl),?_⟩
 refine ⟨nn,H.b0.row,_,(H.b0.at0 rfl),?_⟩
 refine ⟨nn,H.b0.row,_,(H.b0.at0 rfl),?_⟩
 refine ⟨nn,H.b0.row,_,(H.b0.at0 rfl),?_⟩
 refine ⟨nn,H.b0.row,_,(H.b0.at0 rfl),?_⟩
 clear H;have H:=S;clear S
 rw [e1,e2,e3]
 refine ⟨?_,?_⟩
 ·refine call_j (c112 (B:=[]) (H.nilOwn 5 1) h0 (by omega)) ?_
  clear H;rintro _ w ⟨a1,c1,r1,rfl,H⟩
  refine ⟨_,_,_,rfl,(back1 H).1,?_⟩
  refine sNew H ?_;clear H;intro b2 w _ H
  refine ⟨(back2 H).1,?_⟩
  refine sApp1 H (bytes:=1) (by kernel_rfl) [.int .u8 d1,.int .u8 (d2 / 65536),.int .u8 (d2 / 256 % 256),.int .u8 (d2 % 256)] (ob [d1,d2 / 65536,d2 / 256 % 256,d2 % 256]) (by rfl) (fun j u hu=>by rw [add_flat,Nat.zero_add];exact H.b0.cell hu) (fun G h=>DeepL.ones [_,_,_,_]) (by simp [Value.oneCell']) (by unfold maxLen;omega) (by omega) ?_
  clear H;intro a2 n2 c2 r2 w hn2 _ H
  refine ⟨(back2 H).1,?_⟩
  replace H:=(back2 H).2;clear back1 back2 hm
  rw [<-ob_append,List.nil_append] at H
  replace H:=H.d1
  subst hn2
  refine ⟨r2,?_⟩;replace H:=H.drew;generalize w.drew=w at H ⊢;obtain ⟨F2,ex2,S,back1,back2,hm⟩:=H.regO
  refine ⟨(H.ne (mt ms) ms),H.b1.row,_,(H.b1.at0 rfl),?_⟩
  refine ⟨(H.ne (mt ms) ms),H.b1.row,_,(H.b1.at0 rfl),?_⟩
  refine ⟨(H.ne (mt ms) ms),H.b1.row,_,(H.b1.at0 rfl),?_⟩
  refine ⟨(H.ne (mt ms) ms),H.b1.row,_,(H.b1.at0 rfl),?_⟩
  clear H;have H:=S;clear S
  refine call_j (c112 H h3 (by omega)) ?_
  clear H;rintro _ w ⟨a3,c3,r3,rfl,H⟩
  refine ⟨_,_,_,rfl,(back1 H).1,?_⟩
  refine call_j (c112 H h4 (by omega)) ?_
  clear H;rintro _ w ⟨a4,c4,r4,rfl,H⟩
  refine ⟨_,_,_,rfl,(back1 H).1,?_⟩
  refine call_j (c112 H h5 (by omega)) ?_
  clear H;rintro _ w ⟨a5,c5,r5,rfl,H⟩
  refine ⟨_,_,_,rfl,(back1 H).1,?_⟩
  refine call_j (c112 H h6 (by omega)) ?_
  clear H;rintro _ w ⟨a6,c6,r6,rfl,H⟩
  refine ⟨_,_,_,rfl,(back1 H).1,?_⟩
  replace H:=(back1 H).2;clear back1 back2 hm
  exact ⟨a6,c6,r6,wRep (d0,d1,d2,d3,d4,d5,d6),true,rfl,H.sub (List.Sublist.cons_cons _ (List.sublist_cons_self _ _)) (fun _ h=>h),Nat.le_refl 24,fun _=>⟨rfl,hc⟩⟩
 ·refine sNew H ?_;clear H;intro b2 w _ H
  refine ⟨(back1 H).1,?_⟩
  refine call_j (c112 (B:=[]) (H.nilOwn 5 1) h0 (by omega)) ?_
  clear H;rintro _ w ⟨a1,c1,r1,rfl,H⟩
  refine ⟨_,_,_,rfl,(back2 H).1,?_⟩
  replace H:=H.u1
  refine sApp1 H (bytes:=1) (by kernel_rfl) [.int .u8 d1,.int .u8 (d2 / 65536),.int .u8 (d2 / 256 % 256),.int .u8 (d2 % 256)] (ob [d1,d2 / 65536,d2 / 256 % 256,d2 % 256]) (by rfl) (fun j u hu=>by rw [add_flat,Nat.zero_add];exact H.b0.cell hu) (fun G h=>DeepL.ones [_,_,_,_]) (by simp [Value.oneCell']) (by unfold maxLen;omega) (by omega) ?_
  clear H;intro a2 n2 c2 r2 w hn2 _ H
  refine ⟨(back2 H).1,?_⟩
  replace H:=(back2 H).2;clear back1 back2 hm
  rw [<-ob_append,List.nil_append] at H
  replace H:=H.d1
  subst hn2
  refine ⟨r2,?_⟩;replace H:=H.drew;generalize w.drew=w at H ⊢;obtain ⟨F2,ex2,S,back1,back2,hm⟩:=H.regO
  refine ⟨(H.ne (mt ms) ms),H.b1.row,_,(H.b1.at0 rfl),?_⟩
  refine ⟨(H.ne (mt ms) ms),H.b1.row,_,(H.b1.at0 rfl),?_⟩
  refine ⟨(H.ne (mt ms) ms),H.b1.row,_,(H.b1.at0 rfl),?_⟩
  refine ⟨(H.ne (mt ms) ms),H.b1.row,_,(H.b1.at0 rfl),?_⟩
  clear H;have H:=S;clear S
  refine call_j (c112 H h3 (by omega)) ?_
  clear H;rintro _ w ⟨a3,c3,r3,rfl,H⟩
  refine ⟨_,_,_,rfl,(back1 H).1,?_⟩
  refine call_j (c112 H h4 (by omega)) ?_
  clear H;rintro _ w ⟨a4,c4,r4,rfl,H⟩
  refine ⟨_,_,_,rfl,(back1 H).1,?_⟩
  refine call_j (c112 H h5 (by omega)) ?_
  clear H;rintro _ w ⟨a5,c5,r5,rfl,H⟩
  refine ⟨_,_,_,rfl,(back1 H).1,?_⟩
  refine call_j (c112 H h6 (by omega)) ?_
  clear H;rintro _ w ⟨a6,c6,r6,rfl,H⟩
  refine ⟨_,_,_,rfl,(back1 H).1,?_⟩
  replace H:=(back1 H).2;clear back1 back2 hm
  exact ⟨a6,c6,r6,wRep (d0,d1,d2,d3,d4,d5,d6),true,rfl,H.sub (List.Sublist.cons_cons _ (List.sublist_cons_self _ _)) (fun _ h=>h),Nat.le_refl 24,fun _=>⟨rfl,hc⟩⟩
theorem iand31 {n:Nat} (h:n<=100000000):iand .i64 (n:Int) (31:Int)=((n % 32:Nat):Int):=by
 have h2:(BitVec.ofInt IntKind.i64.bits (n:Int) &&& BitVec.ofInt IntKind.i64.bits (31:Int)).toNat=n % 32:=by
  have e:(31:Int)=((31:Nat):Int):=rfl
  rw [e,BitVec.ofInt_natCast,BitVec.ofInt_natCast,BitVec.toNat_and,BitVec.toNat_ofNat,BitVec.toNat_ofNat]
  simp only [IntKind.bits]
  rw [Nat.mod_eq_of_lt (show n < 2 ^ 64 by omega),Nat.mod_eq_of_lt (show 31 < 2 ^ 64 by omega)]
  exact Nat.and_two_pow_sub_one_eq_mod n 5
 unfold iand
 rw [h2,wi64_of (by omega) (by omega)]
theorem c111 {F:Fr} {w:World} {ex:List Ex} {ro:List Ro} {p5 p3 n:Nat} {ok hp:Bool} {c t l:Int} (H:Sat F w (.blk p5 4 [.bool ok]::.blk p3 42 [.bool hp,.int .u8 c,.int .u8 t,.int .u16 l]::ex) ro) (hn:n<=100000000) :
  Calls pg 111 #[.int .i64 (n:Int),.pointer (some ⟨p5,0,none⟩),.pointer (some ⟨p3,0,none⟩)] w fun en w'=>en=.returned (.tuple #[])/\∃ok',Sat F w' (.blk p5 4 [.bool ok']::.blk p3 42 [.bool hp,.int .u8 ((n % 32:Nat):Int),.int .u8 t,.int .u16 l]::ex) ro/\(ok'=true->ok=true/\n<=31):=by
 apply of111
 have e:IntKind.u8.wrap (iand .i64 (n:Int) (31:Int))=((n % 32:Nat):Int):=by
  rw [iand31 hn,wu8]
  omega
 unfold SW111
 rw [e]
 refine ⟨fun hc=>?_,fun hc=>?_⟩
 ·refine sSt0 H (by rfl) (by kernel_rfl) (by rfl) (by rfl) ?_;clear H;intro w _ H
  refine sSt1 H (by exact add_flat _ _ _) (by kernel_rfl) (by rfl) (by rfl) ?_;clear H;intro w _ H
  exact ⟨rfl,false,H,fun h=>by cases h⟩
 ·rw [decide_eq_false_iff_not] at hc
  refine sSt1 H (by exact add_flat _ _ _) (by kernel_rfl) (by rfl) (by rfl) ?_;clear H;intro w _ H
  exact ⟨rfl,ok,H,fun h=>⟨h,by omega⟩⟩
theorem sAppS {F:Fr} {w:World} {A:List Int} {a:Option Addr} {n c:Nat} {r:Option Nat} {ex:List Ex} {ro:List Ro} (H:Sat F w (.own 5 1 a n c r (ob A)::ex) ro) (s:ByteArray) (h0:0 < n) (hn:n+s.size<=100000000) {ty:TypeId} {K:Option Addr->Nat->Nat->World->Prop}
  (hK:∀a' c' r' w',Sat F w' (.own 5 1 a' (n+s.size) c' r' (ob (A++sbs s))::ex) ro->K a' (n+s.size) c' w') :
  ∃a' n' c',∃w',(Builtin.append_ #[22,9] ty #[.slice a n c,.string s]).run pg w=.ok (.slice a' n' c') w'/\K a' n' c' w':=by
 obtain ⟨i,hi,hz,hs,hb⟩:=u8Info
 obtain ⟨xs,ho,hxs⟩:=H.he (.own 5 1 a n c r (ob A)) (by simp)
 have hlen0:=ho.own.1
 have hsc:Lib.strCells s=u8s (sbs s):=by simp [Lib.strCells,u8s,sbs]
 have hsl:=Lib.strCells_length s
 have hdl:DeepL w (fun b=>b ∉ foots (.own 5 1 a n c r (ob A)::ex)) (ob (sbs s)) (Lib.strCells s):=by
  have e:ob (sbs s)=(u8s (sbs s)).map .one:=by simp [ob,u8s]
  rw [e,hsc];exact DeepL.ones _
 have fin:∀(a':Option Addr) (c':Nat) (r':Option Nat) (w':World),w.grownBy w' r->OS w' 0 5 1 a' (n+s.size) c' r' (xs++Lib.strCells s)->(r'=r\/r'=some w.heap.size)->K a' (n+s.size) c' w':=by
  intro a' c' r' w' hg ho' hr
  refine hK a' c' r' w' ?_
  rw [ob_append]
  exact H.owned hxs hdl hg ho' (hr.imp id fun h=>⟨_,h,Nat.le_refl _⟩)
 have hlen:(xs++Lib.strCells s).length=(n+s.size)*1:=by rw [List.length_append,hlen0,hsl];omega
 rcases ho.own.2 with ⟨hv,h1⟩ | ⟨g,cap,cur,hv,hbg,hg,hnc,hcm,hcs,htake⟩
 ·omega
 ·have hvb:=ho.blk
  rw [hv] at hvb
  simp only [Value.slice.injEq] at hv
  obtain ⟨rfl,_,rfl⟩:=hv
  have hr:r=some g:=by simpa [Value.ownBlock] using hvb
  by_cases hroom:n+s.size<=c
  ·have hrun:=Lib.run_append_room_string (P:=pg) w 22 9 ty 5 i uSl uStr hi hs g n c cur hg s hroom (by rw [hcs];omega)
   refine ⟨_,_,_,_,hrun,fin _ _ r _ ⟨rfl,rfl,rfl,by simp [World.setRow],fun j _ hj=>setRow_other w g j _ (fun e=>hj (by rw [hr,e]))⟩ ⟨⟨hlen,.inr ⟨g,c,_,rfl,hbg,setRow_heap w g cur _ 5 _ hg,hroom,hcm,?_,?_⟩⟩,?_⟩ (.inl rfl)⟩
   ·simp only [List.size_toArray,List.length_append,List.length_take,List.length_drop,Array.length_toList,hsl]
    omega
   ·rw [Nat.mul_one] at htake ⊢
    rw [htake,show n+s.size=(xs++Lib.strCells s).length by omega]
    exact List.take_left
   ·rw [hr];rfl
  ·have holds:∀j u,xs[j]?=some u->w.cell? ((⟨g,0,none⟩:Addr).add j)=some u:=ho.own.cells (g:=g) rfl
   have hfits:Builtin.nextslicecap (n+s.size) c*1<=281474976710656:=growslice_fits (by omega) (by omega)
   have hrun:=Lib.run_append_grow_string (P:=pg) w 22 9 ty 5 i (.int .u8 0) uSl uStr hi hz ⟨g,0,none⟩ n c xs (by rw [hs];omega) holds s (by omega) (by omega) (by rw [hb];exact hfits)
   have hge:=grownCap_ge w (n+s.size) c 5
   have hcm2:grownCap w (n+s.size) c 5<=maxLen:=grownCap_le_maxLen w (n+s.size) c 5 (by unfold maxLen;omega)
   refine ⟨_,_,_,_,hrun,fin _ _ (some w.heap.size) _ ⟨rfl,rfl,rfl,by simp,fun j hj _=>heap_alloc_old w.drew _ hj⟩ ⟨⟨hlen,.inr ⟨w.heap.size,_,_,rfl,Nat.zero_le _,heap_alloc_new w.drew _,hge,hcm2,?_,?_⟩⟩,rfl⟩ (.inr rfl)⟩
   ·simp only [Array.size_append,List.size_toArray,size_zeroCells,hlen0,hsl]
    simp [Value.cells]
    omega
   ·simp only [Array.toList_append,List.append_assoc]
    rw [<-List.append_assoc,<-hlen]
    exact List.take_left
def typL:List Int:=[0,200,201,202,203,204,205,205,205,206,206,206,206,205]
def cntL:List Int:=[0,0,0,0,0,0,1,5,11,1,2,4,15,15]
def typK (k:Int):Int:=typL.getD k.toNat 0
def cntK (k:Int):Int:=cntL.getD k.toNat 0
theorem tabAt {L:List Int} {k:Int} (h:k.toNat < L.length):(u8s L)[k.toNat]?=some (.int .u8 (L.getD k.toNat 0)):=by
 unfold u8s
 rw [List.getElem?_map,List.getElem?_eq_getElem h,List.getD_eq_getElem?_getD,List.getElem?_eq_getElem h]
 rfl
structure FoOk (p:Pk):Prop where
 lo:0<=p.kind
 hi:p.kind<=13
 sz:p.kind≠13->p.size<=270000
 s:u32R p.sender
 m:u32R p.media
 ntp:0<=p.ntp/\p.ntp < 18446744073709551616
 rtp:u32R p.rtp
 pks:u32R p.packets
 ocs:u32R p.octets
 tim:u32R p.time
 reps:∀y∈p.reports,RepW y
 chks:∀y∈p.chunks,u32R y.1
 srcs:∀y∈p.sources,u32R y
 sub:0<=p.sub/\p.sub < 256
 prs:∀x∈p.pairs,(0<=x.1/\x.1 < 65536)/\0<=x.2/\x.2 < 65536
 sls:∀x∈p.slices,(0<=x.1/\x.1 < 65536)/\(0<=x.2.1/\x.2.1 < 65536)/\0<=x.2.2/\x.2.2 < 256
 ens:∀x∈p.entries,u32R x.1
 bls:∀y∈p.blocks,u32R y.1/\(0<=y.2.1/\y.2.1 < 65536)/\∀m∈y.2.2,(0<=m.2.1/\m.2.1 < 256)/\0<=m.2.2/\m.2.2 < 65536
 bits:p.kind=12->∃m i:Nat,0 < m/\m < 262144/\i<=63/\p.bits=(sgl m i:Int)
 dat:p.kind=0->By p.data
def FmOk (p:Pk) (c:Int) (B:List Int):Prop:=p.kind≠13/\(B.length<=240000->WrOk p/\hdrB c (typK p.kind) ((B.length / 4:Nat):Int)++B=wrOne p)
theorem WrOk.of1 {p:Pk} (h:p.kind=1) (h1:u32R p.sender/\(0<=p.ntp/\p.ntp < 18446744073709551616)/\u32R p.rtp/\u32R p.packets/\u32R p.octets/\p.reports.length<=31/\p.ext.length % 4=0/\28+24*p.reports.length+p.ext.length<=262144/\∀y∈p.reports,RepR y):WrOk p:=
 ⟨by omega,by omega,fun _=>h1,fun e=>absurd (h.symm.trans e) (by decide),fun e=>absurd (h.symm.trans e) (by decide),fun e=>absurd (h.symm.trans e) (by decide),fun e=>absurd (h.symm.trans e) (by decide),fun e=>absurd (h.symm.trans e) (by decide),fun e=>absurd (h.symm.trans e) (by decide),fun e=>absurd (h.symm.trans e) (by decide),fun e=>absurd (h.symm.trans e) (by decide),fun e=>absurd (h.symm.trans e) (by decide),fun e=>absurd (h.symm.trans e) (by decide),fun e=>absurd (h.symm.trans e) (by decide)⟩
theorem wr_1 {p:Pk} (h:p.kind=1):wrOne p=wrSR p.sender p.ntp p.rtp p.packets p.octets p.reports p.ext:=by unfold wrOne;simp [h]
theorem ty_1 {p:Pk} (h:p.kind=1):typK p.kind=200:=by rw [h];rfl
theorem WrOk.of2 {p:Pk} (h:p.kind=2) (h2:u32R p.sender/\p.reports.length<=31/\p.ext.length % 4=0/\8+24*p.reports.length+p.ext.length<=262144/\∀y∈p.reports,RepR y):WrOk p:=
 ⟨by omega,by omega,fun e=>absurd (h.symm.trans e) (by decide),fun _=>h2,fun e=>absurd (h.symm.trans e) (by decide),fun e=>absurd (h.symm.trans e) (by decide),fun e=>absurd (h.symm.trans e) (by decide),fun e=>absurd (h.symm.trans e) (by decide),fun e=>absurd (h.symm.trans e) (by decide),fun e=>absurd (h.symm.trans e) (by decide),fun e=>absurd (h.symm.trans e) (by decide),fun e=>absurd (h.symm.trans e) (by decide),fun e=>absurd (h.symm.trans e) (by decide),fun e=>absurd (h.symm.trans e) (by decide)⟩
theorem wr_2 {p:Pk} (h:p.kind=2):wrOne p=wrRR p.sender p.reports p.ext:=by unfold wrOne;simp [h]
theorem ty_2 {p:Pk} (h:p.kind=2):typK p.kind=201:=by rw [h];rfl
theorem WrOk.of3 {p:Pk} (h:p.kind=3) (h3:p.chunks.length<=31/\(p.chunks.flatMap wChk).length<=262140/\∀y∈p.chunks,ChkR y):WrOk p:=
 ⟨by omega,by omega,fun e=>absurd (h.symm.trans e) (by decide),fun e=>absurd (h.symm.trans e) (by decide),fun _=>h3,fun e=>absurd (h.symm.trans e) (by decide),fun e=>absurd (h.symm.trans e) (by decide),fun e=>absurd (h.symm.trans e) (by decide),fun e=>absurd (h.symm.trans e) (by decide),fun e=>absurd (h.symm.trans e) (by decide),fun e=>absurd (h.symm.trans e) (by decide),fun e=>absurd (h.symm.trans e) (by decide),fun e=>absurd (h.symm.trans e) (by decide),fun e=>absurd (h.symm.trans e) (by decide)⟩
theorem wr_3 {p:Pk} (h:p.kind=3):wrOne p=wrSD p.chunks:=by unfold wrOne;simp [h]
theorem ty_3 {p:Pk} (h:p.kind=3):typK p.kind=202:=by rw [h];rfl
theorem WrOk.of4 {p:Pk} (h:p.kind=4) (h4:p.sources.length<=31/\p.text.size<=255/\∀y∈p.sources,u32R y):WrOk p:=
 ⟨by omega,by omega,fun e=>absurd (h.symm.trans e) (by decide),fun e=>absurd (h.symm.trans e) (by decide),fun e=>absurd (h.symm.trans e) (by decide),fun _=>h4,fun e=>absurd (h.symm.trans e) (by decide),fun e=>absurd (h.symm.trans e) (by decide),fun e=>absurd (h.symm.trans e) (by decide),fun e=>absurd (h.symm.trans e) (by decide),fun e=>absurd (h.symm.trans e) (by decide),fun e=>absurd (h.symm.trans e) (by decide),fun e=>absurd (h.symm.trans e) (by decide),fun e=>absurd (h.symm.trans e) (by decide)⟩
theorem wr_4 {p:Pk} (h:p.kind=4):wrOne p=wrBye p.sources p.text:=by unfold wrOne;simp [h]
theorem ty_4 {p:Pk} (h:p.kind=4):typK p.kind=203:=by rw [h];rfl
theorem WrOk.of5 {p:Pk} (h:p.kind=5) (h5:(0<=p.sub/\p.sub < 32)/\u32R p.sender/\p.text.size=4/\p.data.length % 4=0/\p.data.length<=65520):WrOk p:=
 ⟨by omega,by omega,fun e=>absurd (h.symm.trans e) (by decide),fun e=>absurd (h.symm.trans e) (by decide),fun e=>absurd (h.symm.trans e) (by decide),fun e=>absurd (h.symm.trans e) (by decide),fun _=>h5,fun e=>absurd (h.symm.trans e) (by decide),fun e=>absurd (h.symm.trans e) (by decide),fun e=>absurd (h.symm.trans e) (by decide),fun e=>absurd (h.symm.trans e) (by decide),fun e=>absurd (h.symm.trans e) (by decide),fun e=>absurd (h.symm.trans e) (by decide),fun e=>absurd (h.symm.trans e) (by decide)⟩
theorem wr_5 {p:Pk} (h:p.kind=5):wrOne p=wrApp p.sub p.sender p.text p.data:=by unfold wrOne;simp [h]
theorem ty_5 {p:Pk} (h:p.kind=5):typK p.kind=204:=by rw [h];rfl
theorem WrOk.of6 {p:Pk} (h:p.kind=6) (h6:u32R p.sender/\u32R p.media/\p.pairs.length<=253/\∀x∈p.pairs,(0<=x.1/\x.1 < 65536)/\0<=x.2/\x.2 < 65536):WrOk p:=
 ⟨by omega,by omega,fun e=>absurd (h.symm.trans e) (by decide),fun e=>absurd (h.symm.trans e) (by decide),fun e=>absurd (h.symm.trans e) (by decide),fun e=>absurd (h.symm.trans e) (by decide),fun e=>absurd (h.symm.trans e) (by decide),fun _=>h6,fun e=>absurd (h.symm.trans e) (by decide),fun e=>absurd (h.symm.trans e) (by decide),fun e=>absurd (h.symm.trans e) (by decide),fun e=>absurd (h.symm.trans e) (by decide),fun e=>absurd (h.symm.trans e) (by decide),fun e=>absurd (h.symm.trans e) (by decide)⟩
theorem wr_6 {p:Pk} (h:p.kind=6):wrOne p=wrFb 1 205 ((2+1*p.pairs.length:Nat):Int) p.sender p.media (p.pairs.flatMap wPar):=by unfold wrOne;simp [h]
theorem ty_6 {p:Pk} (h:p.kind=6):typK p.kind=205:=by rw [h];rfl
theorem WrOk.of7 {p:Pk} (h:p.kind=7) (h7:u32R p.sender/\u32R p.media):WrOk p:=
 ⟨by omega,by omega,fun e=>absurd (h.symm.trans e) (by decide),fun e=>absurd (h.symm.trans e) (by decide),fun e=>absurd (h.symm.trans e) (by decide),fun e=>absurd (h.symm.trans e) (by decide),fun e=>absurd (h.symm.trans e) (by decide),fun e=>absurd (h.symm.trans e) (by decide),fun _=>h7,fun e=>absurd (h.symm.trans e) (by decide),fun e=>absurd (h.symm.trans e) (by decide),fun e=>absurd (h.symm.trans e) (by decide),fun e=>absurd (h.symm.trans e) (by decide),fun e=>absurd (h.symm.trans e) (by decide)⟩
theorem wr_7 {p:Pk} (h:p.kind=7):wrOne p=wrTwo 5 205 p.sender p.media:=by unfold wrOne;simp [h]
theorem ty_7 {p:Pk} (h:p.kind=7):typK p.kind=205:=by rw [h];rfl
theorem WrOk.of8 {p:Pk} (h:p.kind=8) (h8:u32R p.sender/\u32R p.time/\p.blocks.length<=100000/\(p.blocks.flatMap wBlo).length<=262132/\∀y∈p.blocks,BloR y):WrOk p:=
 ⟨by omega,by omega,fun e=>absurd (h.symm.trans e) (by decide),fun e=>absurd (h.symm.trans e) (by decide),fun e=>absurd (h.symm.trans e) (by decide),fun e=>absurd (h.symm.trans e) (by decide),fun e=>absurd (h.symm.trans e) (by decide),fun e=>absurd (h.symm.trans e) (by decide),fun e=>absurd (h.symm.trans e) (by decide),fun _=>h8,fun e=>absurd (h.symm.trans e) (by decide),fun e=>absurd (h.symm.trans e) (by decide),fun e=>absurd (h.symm.trans e) (by decide),fun e=>absurd (h.symm.trans e) (by decide)⟩
theorem wr_8 {p:Pk} (h:p.kind=8):wrOne p=wrCc p.sender p.blocks p.time:=by unfold wrOne;simp [h]
theorem ty_8 {p:Pk} (h:p.kind=8):typK p.kind=205:=by rw [h];rfl
theorem WrOk.of9 {p:Pk} (h:p.kind=9) (h9:u32R p.sender/\u32R p.media):WrOk p:=
 ⟨by omega,by omega,fun e=>absurd (h.symm.trans e) (by decide),fun e=>absurd (h.symm.trans e) (by decide),fun e=>absurd (h.symm.trans e) (by decide),fun e=>absurd (h.symm.trans e) (by decide),fun e=>absurd (h.symm.trans e) (by decide),fun e=>absurd (h.symm.trans e) (by decide),fun e=>absurd (h.symm.trans e) (by decide),fun e=>absurd (h.symm.trans e) (by decide),fun _=>h9,fun e=>absurd (h.symm.trans e) (by decide),fun e=>absurd (h.symm.trans e) (by decide),fun e=>absurd (h.symm.trans e) (by decide)⟩
theorem wr_9 {p:Pk} (h:p.kind=9):wrOne p=wrTwo 1 206 p.sender p.media:=by unfold wrOne;simp [h]
theorem ty_9 {p:Pk} (h:p.kind=9):typK p.kind=206:=by rw [h];rfl
theorem WrOk.of10 {p:Pk} (h:p.kind=10) (h10:u32R p.sender/\u32R p.media/\p.slices.length<=253/\∀x∈p.slices,(0<=x.1/\x.1 < 8192)/\(0<=x.2.1/\x.2.1 < 8192)/\0<=x.2.2/\x.2.2 < 64):WrOk p:=
 ⟨by omega,by omega,fun e=>absurd (h.symm.trans e) (by decide),fun e=>absurd (h.symm.trans e) (by decide),fun e=>absurd (h.symm.trans e) (by decide),fun e=>absurd (h.symm.trans e) (by decide),fun e=>absurd (h.symm.trans e) (by decide),fun e=>absurd (h.symm.trans e) (by decide),fun e=>absurd (h.symm.trans e) (by decide),fun e=>absurd (h.symm.trans e) (by decide),fun e=>absurd (h.symm.trans e) (by decide),fun _=>h10,fun e=>absurd (h.symm.trans e) (by decide),fun e=>absurd (h.symm.trans e) (by decide)⟩
theorem wr_10 {p:Pk} (h:p.kind=10):wrOne p=wrFb 2 206 ((2+1*p.slices.length:Nat):Int) p.sender p.media (p.slices.flatMap wSli):=by unfold wrOne;simp [h]
theorem ty_10 {p:Pk} (h:p.kind=10):typK p.kind=206:=by rw [h];rfl
theorem WrOk.of11 {p:Pk} (h:p.kind=11) (h11:u32R p.sender/\u32R p.media/\p.entries.length<=30000/\∀x∈p.entries,0<=x.1/\x.1 < 4294967296):WrOk p:=
 ⟨by omega,by omega,fun e=>absurd (h.symm.trans e) (by decide),fun e=>absurd (h.symm.trans e) (by decide),fun e=>absurd (h.symm.trans e) (by decide),fun e=>absurd (h.symm.trans e) (by decide),fun e=>absurd (h.symm.trans e) (by decide),fun e=>absurd (h.symm.trans e) (by decide),fun e=>absurd (h.symm.trans e) (by decide),fun e=>absurd (h.symm.trans e) (by decide),fun e=>absurd (h.symm.trans e) (by decide),fun e=>absurd (h.symm.trans e) (by decide),fun _=>h11,fun e=>absurd (h.symm.trans e) (by decide)⟩
theorem wr_11 {p:Pk} (h:p.kind=11):wrOne p=wrFb 4 206 ((2+2*p.entries.length:Nat):Int) p.sender p.media (p.entries.flatMap wEnt):=by unfold wrOne;simp [h]
theorem ty_11 {p:Pk} (h:p.kind=11):typK p.kind=206:=by rw [h];rfl
theorem WrOk.of12 {p:Pk} (h:p.kind=12) (h12:u32R p.sender/\p.sources.length<=255/\(∀y∈p.sources,u32R y)/\∃m i:Nat,0 < m/\m < 262144/\i<=63/\p.bits=(sgl m i:Int)):WrOk p:=
 ⟨by omega,by omega,fun e=>absurd (h.symm.trans e) (by decide),fun e=>absurd (h.symm.trans e) (by decide),fun e=>absurd (h.symm.trans e) (by decide),fun e=>absurd (h.symm.trans e) (by decide),fun e=>absurd (h.symm.trans e) (by decide),fun e=>absurd (h.symm.trans e) (by decide),fun e=>absurd (h.symm.trans e) (by decide),fun e=>absurd (h.symm.trans e) (by decide),fun e=>absurd (h.symm.trans e) (by decide),fun e=>absurd (h.symm.trans e) (by decide),fun e=>absurd (h.symm.trans e) (by decide),fun _=>h12⟩
theorem wr_12 {p:Pk} (h:p.kind=12):wrOne p=wrRemb p.sender p.bits p.sources:=by unfold wrOne;simp [h]
theorem ty_12 {p:Pk} (h:p.kind=12):typK p.kind=206:=by rw [h];rfl
theorem hdrB_eq {c c' t t' n n':Int} (h:c=c') (h2:t=t') (h3:n=n'):hdrB c t n=hdrB c' t' n':=by rw [h,h2,h3]
theorem wRep_fl (L:List Rep):(L.flatMap wRep).length=24*L.length:=flat_bd (f:=wRep) (fun _=>rfl) L
theorem b64_len (v:Int):(b64 v).length=8:=rfl
theorem fm1 {p:Pk} (hk:p.kind=1) (hF:FoOk p) {B:List Int} (hB:B=b32 p.sender++b64 p.ntp++b32 p.rtp++b32 p.packets++b32 p.octets++p.reports.flatMap wRep++p.ext) (hn:p.reports.length<=31) (hl:∀y∈p.reports,y.2.2.1 < 16777216) (h4:p.ext.length % 4=0):FmOk p ((p.reports.length % 32:Nat):Int) B:=by
 subst hB
 refine ⟨by omega,fun hm=>?_⟩
 have hx:(b32 p.sender++b64 p.ntp++b32 p.rtp++b32 p.packets++b32 p.octets++p.reports.flatMap wRep++p.ext).length=24+24*p.reports.length+p.ext.length:=by
  simp only [List.length_append,b32_len,b64_len,wRep_fl]
 rw [hx] at hm ⊢
 refine ⟨WrOk.of1 hk ⟨hF.s,hF.ntp,hF.rtp,hF.pks,hF.ocs,hn,h4,by omega,fun y hy=>?_⟩,?_⟩
 ·obtain ⟨h0,h2,h3⟩:=hF.reps y hy
  exact ⟨h0,⟨h2.1,hl y hy⟩,h3⟩
 ·rw [wr_1 hk,ty_1 hk]
  unfold wrSR
  congr 1
  refine hdrB_eq ?_ rfl ?_
  ·rw [Nat.mod_eq_of_lt (by omega)]
  ·congr 1;omega
theorem fm2 {p:Pk} (hk:p.kind=2) (hF:FoOk p) {B:List Int} (hB:B=b32 p.sender++p.reports.flatMap wRep++p.ext) (hn:p.reports.length<=31) (hl:∀y∈p.reports,y.2.2.1 < 16777216) (h4:p.ext.length % 4=0):FmOk p ((p.reports.length % 32:Nat):Int) B:=by
 subst hB
 refine ⟨by omega,fun hm=>?_⟩
 have hx:(b32 p.sender++p.reports.flatMap wRep++p.ext).length=4+24*p.reports.length+p.ext.length:=by
  simp only [List.length_append,b32_len,wRep_fl]
 rw [hx] at hm ⊢
 refine ⟨WrOk.of2 hk ⟨hF.s,hn,h4,by omega,fun y hy=>?_⟩,?_⟩
 ·obtain ⟨h0,h2,h3⟩:=hF.reps y hy
  exact ⟨h0,⟨h2.1,hl y hy⟩,h3⟩
 ·rw [wr_2 hk,ty_2 hk]
  unfold wrRR
  congr 1
  refine hdrB_eq ?_ rfl ?_
  ·rw [Nat.mod_eq_of_lt (by omega)]
  ·congr 1;omega
theorem fm3 {p:Pk} (hk:p.kind=3) (hF:FoOk p) {B:List Int} (hB:B=p.chunks.flatMap wChk) (hn:p.chunks.length<=31) (hi:∀c∈p.chunks,∀i∈c.2,ItmR i):FmOk p ((p.chunks.length % 32:Nat):Int) B:=by
 subst hB
 refine ⟨by omega,fun hm=>?_⟩
 refine ⟨WrOk.of3 hk ⟨hn,by omega,fun y hy=>⟨hF.chks y hy,hi y hy⟩⟩,?_⟩
 rw [wr_3 hk,ty_3 hk]
 unfold wrSD
 congr 1
 refine hdrB_eq ?_ rfl ?_
 ·rw [Nat.mod_eq_of_lt (by omega)]
 ·congr 1;omega
theorem fm4 {p:Pk} (hk:p.kind=4) (hF:FoOk p) {B:List Int} (hB:B=p.sources.flatMap b32++wBye p.text) (hn:p.sources.length<=31) (ht:p.text.size<=255):FmOk p ((p.sources.length % 32:Nat):Int) B:=by
 subst hB
 refine ⟨by omega,fun hm=>?_⟩
 refine ⟨WrOk.of4 hk ⟨hn,ht,hF.srcs⟩,?_⟩
 rw [wr_4 hk,ty_4 hk]
 unfold wrBye
 congr 1
 refine hdrB_eq ?_ rfl ?_
 ·rw [Nat.mod_eq_of_lt (by omega)]
 ·rw [List.length_append,fl32];congr 1;omega
theorem fm5 {p:Pk} (hk:p.kind=5) (hF:FoOk p) {B:List Int} (hB:B=b32 p.sender++sbs p.text++p.data) (hn:p.sub.toNat<=31) (ht:p.text.size=4) (h4:p.data.length % 4=0) (hd:p.data.length<=65520):FmOk p ((p.sub.toNat % 32:Nat):Int) B:=by
 subst hB
 refine ⟨by omega,fun hm=>?_⟩
 have h0:=hF.sub
 refine ⟨WrOk.of5 hk ⟨⟨h0.1,by omega⟩,hF.s,ht,h4,hd⟩,?_⟩
 rw [wr_5 hk,ty_5 hk]
 unfold wrApp
 congr 1
 refine hdrB_eq ?_ rfl ?_
 ·rw [Nat.mod_eq_of_lt (by omega)];omega
 ·rw [List.length_append,List.length_append,b32_len,sbs_len,ht];congr 1;omega
theorem fm6 {p:Pk} (hk:p.kind=6) (hF:FoOk p) {B:List Int} (hB:B=b32 p.sender++b32 p.media++p.pairs.flatMap wPar) (hn:p.pairs.length<=253):FmOk p 1 B:=by
 subst hB
 refine ⟨by omega,fun hm=>?_⟩
 refine ⟨WrOk.of6 hk ⟨hF.s,hF.m,hn,hF.prs⟩,?_⟩
 rw [wr_6 hk,ty_6 hk]
 unfold wrFb
 congr 1
 refine hdrB_eq rfl rfl ?_
 rw [List.length_append,List.length_append,b32_len,b32_len,flat_bd wPar_len];congr 1;omega
theorem fm7 {p:Pk} (hk:p.kind=7) (hF:FoOk p) {B:List Int} (hB:B=b32 p.sender++b32 p.media):FmOk p 5 B:=by
 subst hB
 refine ⟨by omega,fun hm=>?_⟩
 refine ⟨WrOk.of7 hk ⟨hF.s,hF.m⟩,?_⟩
 rw [wr_7 hk,ty_7 hk]
 unfold wrTwo
 congr 1
 exact hdrB_eq rfl rfl (by rw [List.length_append,b32_len,b32_len];rfl)
theorem fm9 {p:Pk} (hk:p.kind=9) (hF:FoOk p) {B:List Int} (hB:B=b32 p.sender++b32 p.media):FmOk p 1 B:=by
 subst hB
 refine ⟨by omega,fun hm=>?_⟩
 refine ⟨WrOk.of9 hk ⟨hF.s,hF.m⟩,?_⟩
 rw [wr_9 hk,ty_9 hk]
 unfold wrTwo
 congr 1
 exact hdrB_eq rfl rfl (by rw [List.length_append,b32_len,b32_len];rfl)
theorem wBlo_ge:∀L:List Blo,8*L.length<=(L.flatMap wBlo).length
 | []=>Nat.zero_le _
 | y::r=>by
  have:=wBlo_ge r
  rw [List.flatMap_cons,List.length_append,wBlo_len,List.length_cons]
  unfold bLen
  omega
theorem blo_len {L:List Blo} (hm:8+(L.flatMap wBlo).length<=240000):L.length<=100000:=by
 have:=wBlo_ge L
 omega
theorem fm8 {p:Pk} (hk:p.kind=8) (hF:FoOk p) {B:List Int} (hB:B=b32 p.sender++p.blocks.flatMap wBlo++b32 p.time) (hl:∀y∈p.blocks,y.2.2.length<=16384/\∀m∈y.2.2,m.2.1 < 4/\m.2.2 < 8192):FmOk p 11 B:=by
 subst hB
 refine ⟨by omega,fun hm=>?_⟩
 have hx:(b32 p.sender++p.blocks.flatMap wBlo++b32 p.time).length=8+(p.blocks.flatMap wBlo).length:=by
  simp only [List.length_append,b32_len];omega
 rw [hx] at hm ⊢
 have hs:=hF.sz (by omega)
 unfold Pk.size at hs
 have hb:=bsz_len p.blocks
 refine ⟨WrOk.of8 hk ⟨hF.s,hF.tim,blo_len hm,by omega,fun y hy=>?_⟩,?_⟩
 ·obtain ⟨h0,h1,h2⟩:=hF.bls y hy
  obtain ⟨h3,h4⟩:=hl y hy
  exact ⟨h0,h1,h3,fun m hm=>⟨⟨(h2 m hm).1.1,(h4 m hm).1⟩,(h2 m hm).2.1,(h4 m hm).2⟩⟩
 ·rw [wr_8 hk,ty_8 hk]
  unfold wrCc
  congr 1
  refine hdrB_eq rfl rfl ?_
  congr 1;omega
theorem fm10 {p:Pk} (hk:p.kind=10) (hF:FoOk p) {B:List Int} (hB:B=b32 p.sender++b32 p.media++p.slices.flatMap wSli) (hn:p.slices.length<=253) (hl:∀x∈p.slices,x.1 < 8192/\x.2.1 < 8192/\x.2.2 < 64):FmOk p 2 B:=by
 subst hB
 refine ⟨by omega,fun hm=>?_⟩
 refine ⟨WrOk.of10 hk ⟨hF.s,hF.m,hn,fun x hx=>⟨⟨(hF.sls x hx).1.1,(hl x hx).1⟩,⟨(hF.sls x hx).2.1.1,(hl x hx).2.1⟩,(hF.sls x hx).2.2.1,(hl x hx).2.2⟩⟩,?_⟩
 rw [wr_10 hk,ty_10 hk]
 unfold wrFb
 congr 1
 refine hdrB_eq rfl rfl ?_
 rw [List.length_append,List.length_append,b32_len,b32_len,flat_bd wSli_len];congr 1;omega
theorem fm11 {p:Pk} (hk:p.kind=11) (hF:FoOk p) {B:List Int} (hB:B=b32 p.sender++b32 p.media++p.entries.flatMap wEnt):FmOk p 4 B:=by
 subst hB
 refine ⟨by omega,fun hm=>?_⟩
 have hx:(b32 p.sender++b32 p.media++p.entries.flatMap wEnt).length=8+8*p.entries.length:=by
  rw [List.length_append,List.length_append,b32_len,b32_len,flat_bd wEnt_len]
 rw [hx] at hm ⊢
 refine ⟨WrOk.of11 hk ⟨hF.s,hF.m,by omega,hF.ens⟩,?_⟩
 rw [wr_11 hk,ty_11 hk]
 unfold wrFb
 congr 1
 refine hdrB_eq rfl rfl ?_
 congr 1;omega
theorem fm12 {p:Pk} (hk:p.kind=12) (hF:FoOk p) {B:List Int} {v:Int} (hv:v=brE p.bits*262144+brM p.bits) (hM:0<=brM p.bits/\brM p.bits < 262144) (hE:0<=brE p.bits/\brE p.bits<=63) (hB:B=b32 p.sender++b32 0++[82,69,77,66,((p.sources.length % 256:Nat):Int),v / 65536 % 256,v / 256 % 256,v % 256]++p.sources.flatMap b32) (hn:p.sources.length<=255):FmOk p 15 B:=by
 refine ⟨by omega,fun hm=>?_⟩
 refine ⟨WrOk.of12 hk ⟨hF.s,hn,hF.srcs,hF.bits hk⟩,?_⟩
 have hx:B.length=16+4*p.sources.length:=by
  rw [hB,List.length_append,List.length_append,List.length_append,b32_len,b32_len,fl32]
  show 4+4+8+_=_
  omega
 rw [hx,wr_12 hk,ty_12 hk,hB,show v / 65536 % 256=brE p.bits*4+brM p.bits / 65536 by omega,show v / 256 % 256=brM p.bits / 256 % 256 by omega,show v % 256=brM p.bits % 256 by omega,Nat.mod_eq_of_lt (show p.sources.length < 256 by omega)]
 unfold wrRemb
 congr 1
 refine hdrB_eq rfl rfl ?_
 congr 1;omega
theorem tabC {w:World} {b:Nat} {t:TypeId} {L:List Int} {k:Int} (hB:Blk w b t (u8s L)) (h:k.toNat < L.length):w.cell? ((⟨b,0,none⟩:Addr).add (k.toNat*1))=some (.int .u8 (L.getD k.toNat 0)):=by
 rw [add_flat,Nat.zero_add,Nat.mul_one]
 exact hB.cell (tabAt h)
theorem grown_same {w w':World} {b:Nat} {t:TypeId} {l:List Value} (g:w.grownBy w' (some b)) (h:Blk w b t l) (h':Blk w' b t l):w.grownBy w' none:=by
 obtain ⟨g1,g2,g3,g4,g5⟩:=g
 refine ⟨g1,g2,g3,g4,fun k hk _=>?_⟩
 by_cases e:k=b
 ·subst e;rw [h.eq,h'.eq]
 ·exact g5 k hk (fun h=>e (by injection h))
theorem tmod4 {n:Nat} (h:(((n:Nat):Int).tmod (4:Int) == (0:Int))=true):n % 4=0:=by
 have h:((n:Nat):Int).tmod 4=0:=by simpa using h
 rw [Int.tmod_eq_emod_of_nonneg (by omega)] at h
 omega
theorem sli_w {f n p:Int} (hf:0<=f/\f < 8192) (hn:0<=n/\n < 8192) (hp:0<=p/\p < 64) :
  ior .u32 (ior .u32 (ishl .u32 (IntKind.u32.wrap f) (19:Int)) (ishl .u32 (IntKind.u32.wrap n) (6:Int))) (IntKind.u32.wrap p)=f*524288+n*64+p:=by
 rw [wu32,wu32,wu32,show f % 4294967296=f by omega,show n % 4294967296=n by omega,show p % 4294967296=p by omega]
 rw [ishl_of 19 (by rfl) (by decide),ishl_of 6 (by rfl) (by decide),wu32,wu32]
 rw [show f*2 ^ 19 % 4294967296=f*524288 by omega,show n*2 ^ 6 % 4294967296=n*64 by omega]
 rw [ior_add (k:=.u32) (by rfl) 19 f (a:=f*524288) (b:=n*64) (by omega) hf.1 (by omega) (by omega) (by simp only [IntKind.bits];omega)]
 exact ior_add (by rfl) 6 (f*8192+n) (by omega) (by omega) hp.1 (by omega) (by simp only [IntKind.bits];omega)
theorem ior_u32 (a b:Int):0<=ior .u32 a b/\ior .u32 a b < 4294967296:=by
 unfold ior
 rw [wu32]
 omega
theorem ior_u16 (a b:Int):0<=ior .u16 a b/\ior .u16 a b < 65536:=by
 unfold ior
 rw [wu16]
 omega
theorem br_rng {m i:Nat} (h0:0 < m) (h1:m < 262144) (hi:i<=63):(0<=brE (sgl m i:Int)/\brE (sgl m i:Int)<=63)/\0<=brM (sgl m i:Int)/\brM (sgl m i:Int) < 262144:=by
 have hl:m.log2<=17:=(norm_range (k:=23) h0 h1 (by omega)).1
 obtain ⟨e1,e2⟩:=br_sgl (m:=m) (i:=i) (j:=min i (17 - m.log2)) h0 h1 (by omega) (by omega) (by omega)
 obtain ⟨h2,h3⟩:=small_of h0 (min i (17 - m.log2)) (by omega)
 rw [e1,e2]
 omega
theorem met_f {b c:Int} (hb:0<=b/\b < 4) (hc:0<=c/\c < 8192):ior .u16 (ishl .u16 (IntKind.u16.wrap b) (13:Int)) c=metN (false,b,c):=by
 rw [wu16,show b % 65536=b by omega,ishl_of 13 (by rfl) (by decide),wu16,show b*2 ^ 13 % 65536=b*8192 by omega]
 rw [ior_add (k:=.u16) (by rfl) 13 b (a:=b*8192) (b:=c) (by omega) hb.1 hc.1 (by omega) (by simp only [IntKind.bits];omega)]
 simp [metN]
theorem met_t {b c:Int} (hb:0<=b/\b < 4) (hc:0<=c/\c < 8192):ior .u16 (ior .u16 (ishl .u16 (IntKind.u16.wrap b) (13:Int)) c) (32768:Int)=metN (true,b,c):=by
 rw [wu16,show b % 65536=b by omega,ishl_of 13 (by rfl) (by decide),wu16,show b*2 ^ 13 % 65536=b*8192 by omega]
 rw [ior_add (k:=.u16) (by rfl) 13 b (a:=b*8192) (b:=c) (by omega) hb.1 hc.1 (by omega) (by simp only [IntKind.bits];omega)]
 rw [ior_add' (k:=.u16) (by rfl) 15 1 (a:=32768) (b:=b*8192+c) (by decide) (by decide) (by omega) (by omega) (by simp only [IntKind.bits];omega)]
 simp [metN]
 omega
theorem wBlo_le:∀L:List Blo,(L.flatMap wBlo).length<=12*bsz L
 | []=>Nat.le_refl _
 | y::r=>by
  have:=wBlo_le r
  rw [List.flatMap_cons,List.length_append,wBlo_len]
  simp only [bsz,bLen]
  omega
theorem wBlo_4:∀L:List Blo,(L.flatMap wBlo).length % 4=0
 | []=>rfl
 | y::r=>by
  have:=wBlo_4 r
  rw [List.flatMap_cons,List.length_append,wBlo_len]
  unfold bLen
  omega
theorem itLen_isz:∀l:List Itm,itLen l<=2*isz l
 | []=>Nat.le_refl _
 | i::r=>by
  have:=itLen_isz r
  simp only [itLen] at this ⊢
  simp only [List.map_cons,List.sum_cons,isz]
  omega
theorem itLen_tk {l:List Itm} {i:Nat} (h:i < l.length):itLen (l.take i)+(2+l[i].2.size)<=itLen l:=by
 have h2:=pre_le wItm h
 rw [wItm_it,wItm_it,wItm_len] at h2
 exact h2
theorem wChk_le:∀L:List Chk,(L.flatMap wChk).length<=8*csz L
 | []=>Nat.le_refl _
 | y::r=>by
  have:=wChk_le r
  have h2:=itLen_isz y.2
  rw [List.flatMap_cons,List.length_append,wChk_len]
  simp only [csz,up4]
  omega
theorem wChk_4:∀L:List Chk,(L.flatMap wChk).length % 4=0
 | []=>rfl
 | y::r=>by
  have:=wChk_4 r
  rw [List.flatMap_cons,List.length_append,wChk_len]
  unfold up4
  omega
def FmJ (F:Fr) (p:Pk) (ex:List Ex) (R:List Ro) (b5 b3 b1:Nat) (CC:List Value) (b:Option Addr) (bl bc:Nat) (w:World):Prop:=
 ∃(r:Option Nat) (B:List Int) (c:Int) (ok:Bool),bl=B.length/\Sat F w (.own 5 1 b bl bc r (ob B)::.blk b5 4 [.bool ok]::.blk b3 42 [.bool false,.int .u8 c,.int .u8 (typK p.kind),.int .u16 0]::.blk b1 63 CC::ex) R/\(0<=c/\c<=31)/\B.length<=24*p.size+40/\(ok=true->FmOk p c B)
def FmPost (F:Fr) (ex:List Ex) (ro:List Ro) (p:Pk) (en:Ending) (w':World):Prop:=
 ∃c a k r B ok,en=.returned (.tuple #[.agg #[.bool false,.int .u8 c,.int .u8 (typK p.kind),.int .u16 0],.slice a B.length k,.bool ok])/\Sat F w' (.own 5 1 a B.length k r (ob B)::ex) ro/\(0<=c/\c<=31)/\B.length<=24*p.size+40/\(ok=true->FmOk p c B)
theorem c88 {F:Fr} {w:World} {ex:List Ex} {ro:List Ro} {p:Pk} {cells:List Value} (H:Sat F w ex ro) (hp:Ro.deep p.dat cells∈ro) (hF:FoOk p) :
  Calls pg 88 #[.agg cells.toArray] w (FmPost F ex ro p):=by
 have lo:=hF.lo
 have hi:=hF.hi
 have hpz:p.size=p.reports.length+p.ext.length+csz p.chunks+p.sources.length+p.text.size+p.data.length+p.pairs.length+p.slices.length+p.entries.length+bsz p.blocks+ssz p.statuses+p.deltas.length:=rfl
 obtain ⟨a7,a8,a9,a10,a13,a14,a15,a16,a18,a24,a25,c7,c8,c9,c10,c13,c14,c15,c16,c18,c24,c25,R,rfl,hr,H,m7,m8,m9,m10,m13,m14,m15,m16,m18,m24,m25⟩:=H.pkF hp
 apply of88
 refine sNew H ?_;clear H;intro b1 w _ H
 replace H:Sat F w (.blk b1 63 (pkC p a7 a8 a9 a10 a13 a14 a15 a16 a18 a24 a25 c7 c8 c9 c10 c13 c14 c15 c16 c18 c24 c25)::ex) R:=H
 refine sNew H ?_;clear H;intro b3 w _ H
 refine sNew H ?_;clear H;intro b5 w _ H
 refine sSt0 H (by rfl) (by kernel_rfl) (by rfl) (by rfl) ?_;clear H;intro w _ H
 replace H:Sat F w (.blk b5 4 [.bool true]::.blk b3 42 [.bool false,.int .u8 0,.int .u8 0,.int .u16 0]::.blk b1 63 (pkC p a7 a8 a9 a10 a13 a14 a15 a16 a18 a24 a25 c7 c8 c9 c10 c13 c14 c15 c16 c18 c24 c25)::ex) R:=H
 have hkn:p.kind.toNat < 14:=by omega
 refine ⟨fun _ w=>Sat F w (.blk b5 4 [.bool true]::.blk b3 42 [.bool false,.int .u8 (cntK p.kind),.int .u8 (typK p.kind),.int .u16 0]::.blk b1 63 (pkC p a7 a8 a9 a10 a13 a14 a15 a16 a18 a24 a25 c7 c8 c9 c10 c13 c14 c15 c16 c18 c24 c25)::ex) R,?_,?_⟩
 ·refine ⟨none,?_⟩;replace H:=H.drew;generalize w.drew=w at H ⊢;obtain ⟨F2,ex2,S,back1,back2,hm⟩:=H.regN
  refine ⟨(by exact Option.some_ne_none _),(by exact H.b2.row),_,(by exact Ce (by exact add_flat _ _ _) H.b2 rfl),?_⟩
  refine ⟨(by exact Option.some_ne_none _),(by exact H.b2.row),_,(by exact Ce (by exact add_flat _ _ _) H.b2 rfl),?_⟩
  clear H;have H:=S;clear S
  refine ⟨?_,?_⟩
  ·refine sNew H ?_;clear H;intro b14 w _ H
   refine ⟨(back1 H).1,_,rfl,by omega,by omega,?_⟩
   refine ⟨?_,?_⟩
   ·refine ⟨_,(tabC (L:=typL) (by exact H.b0) hkn),(back1 H).1,?_⟩
    refine sNew H ?_;clear H;intro b18 w _ H
    refine ⟨(back2 H).1,_,rfl,by omega,by omega,?_⟩
    refine ⟨_,(tabC (L:=cntL) (by exact H.b0) hkn),(back2 H).1,?_⟩
    replace H:=(back2 H).2;clear back1 back2 hm
    refine sSw3 H rfl (by kernel_rfl) (by rfl) (by rfl) ?_;clear H;intro w _ H
    exact H.sub ((List.sublist_cons_self _ _).trans (List.sublist_cons_self _ _)) (fun _ h=>h)
   ·refine sNew H ?_;clear H;intro b23 w _ H
    refine ⟨(back2 H).1,_,rfl,by omega,by omega,?_⟩
    refine ⟨?_,?_⟩
    ·refine ⟨_,(tabC (L:=typL) (by exact H.b1) hkn),(back2 H).1,_,(tabC (L:=cntL) (by exact H.b0) hkn),(back2 H).1,?_⟩
     replace H:=(back2 H).2;clear back1 back2 hm
     refine sSw3 H rfl (by kernel_rfl) (by rfl) (by rfl) ?_;clear H;intro w _ H
     exact H.sub ((List.sublist_cons_self _ _).trans (List.sublist_cons_self _ _)) (fun _ h=>h)
    ·refine ⟨_,(tabC (L:=cntL) (by exact H.b0) hkn),(back2 H).1,_,(tabC (L:=typL) (by exact H.b1) hkn),(back2 H).1,?_⟩
     replace H:=(back2 H).2;clear back1 back2 hm
     refine sSw3 H rfl (by kernel_rfl) (by rfl) (by rfl) ?_;clear H;intro w _ H
     exact H.sub ((List.sublist_cons_self _ _).trans (List.sublist_cons_self _ _)) (fun _ h=>h)
  ·refine sNew H ?_;clear H;intro b32 w _ H
   refine ⟨(back1 H).1,_,rfl,by omega,by omega,?_⟩
   refine ⟨?_,?_⟩
   ·refine sNew H ?_;clear H;intro b35 w _ H
    refine ⟨(back2 H).1,_,rfl,by omega,by omega,?_⟩
    refine ⟨?_,?_⟩
    ·refine ⟨_,(tabC (L:=typL) (by exact H.b0) hkn),(back2 H).1,_,(tabC (L:=cntL) (by exact H.b1) hkn),(back2 H).1,?_⟩
     replace H:=(back2 H).2;clear back1 back2 hm
     refine sSw3 H rfl (by kernel_rfl) (by rfl) (by rfl) ?_;clear H;intro w _ H
     exact H.sub ((List.sublist_cons_self _ _).trans (List.sublist_cons_self _ _)) (fun _ h=>h)
    ·refine ⟨_,(tabC (L:=cntL) (by exact H.b1) hkn),(back2 H).1,_,(tabC (L:=typL) (by exact H.b0) hkn),(back2 H).1,?_⟩
     replace H:=(back2 H).2;clear back1 back2 hm
     refine sSw3 H rfl (by kernel_rfl) (by rfl) (by rfl) ?_;clear H;intro w _ H
     exact H.sub ((List.sublist_cons_self _ _).trans (List.sublist_cons_self _ _)) (fun _ h=>h)
   ·refine ⟨_,(tabC (L:=cntL) (by exact H.b0) hkn),(back1 H).1,?_⟩
    refine sNew H ?_;clear H;intro b45 w _ H
    refine ⟨(back2 H).1,_,rfl,by omega,by omega,?_⟩
    refine ⟨_,(tabC (L:=typL) (by exact H.b0) hkn),(back2 H).1,?_⟩
    replace H:=(back2 H).2;clear back1 back2 hm
    refine sSw3 H rfl (by kernel_rfl) (by rfl) (by rfl) ?_;clear H;intro w _ H
    exact H.sub ((List.sublist_cons_self _ _).trans (List.sublist_cons_self _ _)) (fun _ h=>h)
 clear H;rintro dd w H
 refine ⟨none,?_⟩;replace H:=H.drew;generalize w.drew=w at H ⊢;obtain ⟨F2,ex2,S,back1,back2,hm⟩:=H.regN
 refine ⟨(by exact Option.some_ne_none _),(by exact H.b2.row),_,(by exact Ce (by exact add_flat _ _ _) H.b2 rfl),?_⟩
 refine ⟨(by exact Option.some_ne_none _),(by exact H.b2.row),_,(by exact Ce (by exact add_flat _ _ _) H.b2 rfl),?_⟩
 clear H;have H:=S;clear S
 refine call_j (c112 (B:=[]) (H.nilOwn 5 1) hF.s (by omega)) ?_
 clear H;rintro _ w ⟨aa,ka,ra,rfl,H⟩
 refine ⟨_,_,_,rfl,(back1 H).1,?_⟩
 refine call_j (c112 H hF.m (by omega)) ?_
 clear H;rintro _ w ⟨ab,kt,rt,rfl,H⟩
 refine ⟨_,_,_,rfl,?_⟩
 replace H:=(back1 H).2;clear back1 back2 hm
 rw [List.nil_append] at H
 refine ⟨fun b bl bc _ w=>FmJ F p ex R b5 b3 b1 (pkC p a7 a8 a9 a10 a13 a14 a15 a16 a18 a24 a25 c7 c8 c9 c10 c13 c14 c15 c16 c18 c24 c25) b bl bc w,?_,?_⟩
 ·have hkk:p.kind=0\/p.kind=1\/p.kind=2\/p.kind=3\/p.kind=4\/p.kind=5\/p.kind=6\/p.kind=7\/p.kind=8\/p.kind=9\/p.kind=10\/p.kind=11\/p.kind=12\/p.kind=13:=by omega
  rcases hkk with hk | hk | hk | hk | hk | hk | hk | hk | hk | hk | hk | hk | hk | hk
  ·
   replace H:=H.sub (List.sublist_cons_self _ _) (fun _ h=>h)
   refine ⟨_,(by exact Ce (by exact add_flat _ _ _) H.b2 rfl),?_⟩
   rw [hk]
   refine ⟨fun b _ w=>b=false/\Sat F w (.blk b5 4 [.bool true]::.blk b3 42 [.bool false,.int .u8 (cntK p.kind),.int .u8 (typK p.kind),.int .u16 0]::.blk b1 63 (pkC p a7 a8 a9 a10 a13 a14 a15 a16 a18 a24 a25 c7 c8 c9 c10 c13 c14 c15 c16 c18 c24 c25)::ex) R,⟨fun hc=>⟨(absurd hc (by decide)),H⟩,fun hc=>⟨(by decide),H⟩⟩,?_⟩
   clear H;rintro ddj bj w ⟨rfl,H⟩
   refine ⟨fun hc=>absurd hc (by decide),fun _=>?_⟩
   refine ⟨fun hc=>absurd hc (by decide),fun _=>?_⟩
   refine ⟨fun hc=>absurd hc (by decide),fun _=>?_⟩
   refine ⟨fun hc=>absurd hc (by decide),fun _=>?_⟩
   refine ⟨fun hc=>absurd hc (by decide),fun _=>?_⟩
   refine ⟨fun b _ w=>b=false/\Sat F w (.blk b5 4 [.bool true]::.blk b3 42 [.bool false,.int .u8 (cntK p.kind),.int .u8 (typK p.kind),.int .u16 0]::.blk b1 63 (pkC p a7 a8 a9 a10 a13 a14 a15 a16 a18 a24 a25 c7 c8 c9 c10 c13 c14 c15 c16 c18 c24 c25)::ex) R,⟨fun hc=>⟨(absurd hc (by decide)),H⟩,fun hc=>⟨(by decide),H⟩⟩,?_⟩
   clear H;rintro ddj bj w ⟨rfl,H⟩
   refine ⟨fun hc=>absurd hc (by decide),fun _=>?_⟩
   refine ⟨fun hc=>absurd hc (by decide),fun _=>?_⟩
   refine ⟨fun hc=>absurd hc (by decide),fun _=>?_⟩
   refine ⟨fun hc=>absurd hc (by decide),fun _=>?_⟩
   refine ⟨fun hc=>absurd hc (by decide),fun _=>?_⟩
   refine sSt0 H (by rfl) (by kernel_rfl) (by rfl) (by rfl) ?_;clear H;intro w _ H
   rw [show cntK p.kind=0 by rw [hk];rfl] at H
   exact ⟨none,[],0,false,rfl,H.nilOwn 5 1,⟨by decide,by decide⟩,Nat.zero_le _,(fun h=>(by cases h))⟩
  ·
   replace H:=H.sub (List.sublist_cons_self _ _) (fun _ h=>h)
   refine ⟨_,(by exact Ce (by exact add_flat _ _ _) H.b2 rfl),?_⟩
   rw [hk]
   refine ⟨fun b _ w=>b=true/\Sat F w (.blk b5 4 [.bool true]::.blk b3 42 [.bool false,.int .u8 (cntK p.kind),.int .u8 (typK p.kind),.int .u16 0]::.blk b1 63 (pkC p a7 a8 a9 a10 a13 a14 a15 a16 a18 a24 a25 c7 c8 c9 c10 c13 c14 c15 c16 c18 c24 c25)::ex) R,⟨fun hc=>⟨(by decide),H⟩,fun hc=>⟨(absurd hc (by decide)),H⟩⟩,?_⟩
   clear H;rintro ddj bj w ⟨rfl,H⟩
   refine ⟨fun _=>?_,fun hc=>absurd hc (by decide)⟩
   refine ⟨_,(by exact Ce (by exact add_flat _ _ _) H.b2 rfl),?_⟩
   refine call_j (c112 (B:=[]) (H.nilOwn 5 1) hF.s (by omega)) ?_
   clear H;rintro _ w ⟨a3,k3,r3,rfl,H⟩
   rw [List.nil_append] at H
   refine ⟨_,_,_,rfl,?_⟩
   obtain ⟨PRE,hPRE⟩:∃PRE:List Int,PRE=b32 p.sender++b64 p.ntp++b32 p.rtp++b32 p.packets++b32 p.octets:=⟨_,rfl⟩
   have hPl:PRE.length=24:=by rw [hPRE];rfl
   have hsz:=hF.sz (by omega)
   unfold Pk.size at hsz
   refine ⟨fun b bl bc _ w=>∃r,bl=PRE.length/\Sat F w (.own 5 1 b bl bc r (ob (PRE))::.blk b5 4 [.bool true]::.blk b3 42 [.bool false,.int .u8 (cntK p.kind),.int .u8 (typK p.kind),.int .u16 0]::.blk b1 63 (pkC p a7 a8 a9 a10 a13 a14 a15 a16 a18 a24 a25 c7 c8 c9 c10 c13 c14 c15 c16 c18 c24 c25)::ex) R,?_,?_⟩
   ·refine ⟨_,(by exact Ce (by exact add_flat _ _ _) H.b3 rfl),?_⟩
    refine ⟨fun _=>?_,fun hc=>absurd hc (by rw [hk];decide)⟩
    have hntp:=hF.ntp
    refine ⟨r3,?_⟩;replace H:=H.drew;generalize w.drew=w at H ⊢;obtain ⟨F2,ex2,S,back1,back2,hm⟩:=H.regO
    refine ⟨(by exact H.ne (by (apply List.mem_cons_of_mem;(apply List.mem_cons_of_mem;(apply List.mem_cons_of_mem;exact List.mem_cons_self)))) (by exact List.mem_cons_self)),(by exact H.b3.row),_,(by exact Ce (by exact add_flat _ _ _) H.b3 rfl),?_⟩
    refine ⟨(by exact H.ne (by (apply List.mem_cons_of_mem;(apply List.mem_cons_of_mem;(apply List.mem_cons_of_mem;exact List.mem_cons_self)))) (by exact List.mem_cons_self)),(by exact H.b3.row),_,(by exact Ce (by exact add_flat _ _ _) H.b3 rfl),?_⟩
    refine ⟨(by exact H.ne (by (apply List.mem_cons_of_mem;(apply List.mem_cons_of_mem;(apply List.mem_cons_of_mem;exact List.mem_cons_self)))) (by exact List.mem_cons_self)),(by exact H.b3.row),_,(by exact Ce (by exact add_flat _ _ _) H.b3 rfl),?_⟩
    refine ⟨(by exact H.ne (by (apply List.mem_cons_of_mem;(apply List.mem_cons_of_mem;(apply List.mem_cons_of_mem;exact List.mem_cons_self)))) (by exact List.mem_cons_self)),(by exact H.b3.row),_,(by exact Ce (by exact add_flat _ _ _) H.b3 rfl),?_⟩
    refine ⟨(by exact H.ne (by (apply List.mem_cons_of_mem;(apply List.mem_cons_of_mem;(apply List.mem_cons_of_mem;exact List.mem_cons_self)))) (by exact List.mem_cons_self)),(by exact H.b3.row),_,(by exact Ce (by exact add_flat _ _ _) H.b3 rfl),?_⟩
    clear H;have H:=S;clear S
    rw [ishr_of (b:=(32:Int)) 32 (by rfl) (by decide),wu32,wu32,show p.ntp / 2 ^ 32 % 4294967296=p.ntp / 4294967296 by omega]
    refine call_j (c112 H (by omega) (by omega)) ?_
    clear H;rintro _ w ⟨a4,k4,r4,rfl,H⟩
    refine ⟨_,_,_,rfl,(back1 H).1,?_⟩
    refine call_j (c112 H (by omega) (by omega)) ?_
    clear H;rintro _ w ⟨a5,k5,r5,rfl,H⟩
    refine ⟨_,_,_,rfl,(back1 H).1,?_⟩
    refine call_j (c112 H hF.rtp (by omega)) ?_
    clear H;rintro _ w ⟨a6,k6,r6,rfl,H⟩
    refine ⟨_,_,_,rfl,(back1 H).1,?_⟩
    refine call_j (c112 H hF.pks (by omega)) ?_
    clear H;rintro _ w ⟨aq,kq,rq,rfl,H⟩
    refine ⟨_,_,_,rfl,(back1 H).1,?_⟩
    refine call_j (c112 H hF.ocs (by omega)) ?_
    clear H;rintro _ w ⟨ar,kr,rr,rfl,H⟩
    refine ⟨_,_,_,rfl,?_⟩
    replace H:=(back1 H).2;clear back1 back2 hm
    refine ⟨rr,by rw [hPl],?_⟩
    rw [hPRE]
    exact H
   clear H;rintro dd2 b bl bc w ⟨r,hbl,H⟩
   refine ⟨_,_,_,(by exact Ce (by exact add_flat _ _ _) H.b3 rfl),?_⟩
   replace H:=H.u2
   refine call_j (c111 H (by omega)) ?_
   clear H;rintro _ w ⟨rfl,ok1,H,hok1⟩
   refine ⟨rfl,?_⟩
   replace H:=H.r2
   refine ⟨_,_,_,(by exact Ce (by exact add_flat _ _ _) H.b3 rfl),?_⟩
   refine ⟨fun b bl bc x q w=>∃(j:Nat) (r:Option Nat) (ok:Bool) (B:List Int),x=(j:Int)/\j+q=p.reports.length/\bl=B.length/\B.length<=24+24*j/\(ok=true->ok1=true/\B=PRE++(p.reports.take j).flatMap wRep/\∀y∈p.reports.take j,y.2.2.1 < 16777216)/\Sat F w (.own 5 1 b bl bc r (ob (B))::.blk b5 4 [.bool ok]::.blk b3 42 [.bool false,.int .u8 ((p.reports.length % 32:Nat):Int),.int .u8 (typK p.kind),.int .u16 0]::.blk b1 63 (pkC p a7 a8 a9 a10 a13 a14 a15 a16 a18 a24 a25 c7 c8 c9 c10 c13 c14 c15 c16 c18 c24 c25)::ex) R,⟨p.reports.length,0,r,ok1,PRE,rfl,by omega,hbl,by omega,fun h=>⟨h,by simp,by simp⟩,H⟩,?_⟩
   clear H;rintro dd3 b bl bc x q w ⟨j,r,ok,B,rfl,hjq,rfl,hBl,hok,H⟩
   refine ⟨fun hc=>?_,fun hc=>?_⟩
   ·rw [decide_eq_true_eq] at hc
    have hjl:j < p.reports.length:=by omega
    obtain ⟨pp,us,e,hus,hcell,H1⟩:=H.eltF Rep.dat_len' (by decide) m7 (j:=j) hjl
    have htk:p.reports.take (j+1)=p.reports.take j++[p.reports[j]]:=by rw [List.take_add_one,List.getElem?_eq_getElem hjl];rfl
    have hRj:=hF.reps p.reports[j] (List.getElem_mem hjl)
    clear H
    generalize p.reports[j]=D at H1 htk hRj
    obtain ⟨d0,d1,d2,d3,d4,d5,d6⟩:=D
    refine ⟨pp,e,by omega,by omega,?_⟩
    obtain rfl:=H1.ones (us:=[.int .u32 d0,.int .u8 d1,.int .u32 d2,.int .u32 d3,.int .u32 d4,.int .u32 d5,.int .u32 d6]) List.mem_cons_self
    refine ⟨_,_,_,_,_,_,_,LdC [.int .u32 d0,.int .u8 d1,.int .u32 d2,.int .u32 d3,.int .u32 d4,.int .u32 d5,.int .u32 d6] (by kernel_rfl) (by rw [show (j:Int).toNat*7=j*7 by omega];exact hcell),?_⟩
    have H:=H1
    clear H1 hcell
    refine sNew H ?_;clear H;intro b4 w _ H
    refine sSw0 H rfl (by kernel_rfl) (by rfl) (by rfl) ?_;clear H;intro w _ H
    refine ⟨_,_,_,_,_,_,_,(by exact Ld0 rfl H.b0 (by kernel_rfl)),?_⟩
    refine call_j (c113 H hRj) ?_
    clear H;rintro _ w ⟨xa,xc,xr,X,okx,rfl,H,hXl,hokx⟩
    refine ⟨_,_,_,_,rfl,?_⟩
    replace H:=H.freeze.r1
    refine ⟨r,?_⟩;replace H:=H.drew;generalize w.drew=w at H ⊢;obtain ⟨F2,ex2,S,back1,back2,hm⟩:=H.regO
    refine ⟨(by exact H.ne (by (apply List.mem_cons_of_mem;(apply List.mem_cons_of_mem;exact List.mem_cons_self))) (by exact List.mem_cons_self)),(by exact H.b2.row),_,(by exact Ce (by rfl) H.b2 rfl),?_⟩
    clear H;have H:=S;clear S
    refine sAppV H List.mem_cons_self (by omega) ?_
    clear H;intro a5 n5 k5 r5 w hn5 _ H
    refine ⟨(back1 H).1,?_⟩
    replace H:=(back1 H).2;clear back1 back2 hm
    have hl2:n5=(B++X).length:=by rw [List.length_append];exact hn5
    have hl3:(B++X).length<=24+24*(j+1):=by rw [List.length_append];omega
    refine ⟨fun ht=>?_,fun ht=>?_⟩
    ·refine sSt2 H (by rfl) (by kernel_rfl) (by rfl) (by rfl) ?_;clear H;intro w _ H
     refine ⟨q - 1,by omega,j+1,r5,okx,B++X,by rw [wi64_of (by omega) (by omega)];simp,by omega,hl2,hl3,fun h=>?_,H.sub (by repeat (first | exact List.Sublist.refl _ | apply List.Sublist.cons_cons | apply List.Sublist.cons)) (fun r h=>by simp [h])⟩
     obtain ⟨h1,h2,h3⟩:=hok ht
     obtain ⟨h4,h5⟩:=hokx h
     refine ⟨h1,?_,?_⟩
     ·rw [h2,h4,htk,List.flatMap_append,List.append_assoc];simp
     ·rw [htk]
      intro y hy
      rcases List.mem_append.1 hy with hy | hy
      ·exact h3 y hy
      ·rw [List.mem_singleton.1 hy];exact h5
    ·refine sSt2 H (by rfl) (by kernel_rfl) (by rfl) (by rfl) ?_;clear H;intro w _ H
     exact ⟨q - 1,by omega,j+1,r5,false,B++X,by rw [wi64_of (by omega) (by omega)];simp,by omega,hl2,hl3,(fun h=>(by cases h)),H.sub (by repeat (first | exact List.Sublist.refl _ | apply List.Sublist.cons_cons | apply List.Sublist.cons)) (fun r h=>by simp [h])⟩
   rw [decide_eq_false_iff_not] at hc
   obtain rfl:j=p.reports.length:=by omega
   rw [List.take_length] at hok
   refine ⟨r,?_⟩;replace H:=H.drew;generalize w.drew=w at H ⊢;obtain ⟨F2,ex2,S,back1,back2,hm⟩:=H.regO
   refine ⟨(by exact H.ne (by (apply List.mem_cons_of_mem;(apply List.mem_cons_of_mem;(apply List.mem_cons_of_mem;exact List.mem_cons_self)))) (by exact List.mem_cons_self)),(by exact H.b3.row),_,_,_,(by exact Ce (by exact add_flat _ _ _) H.b3 rfl),?_⟩
   refine ⟨(by exact H.ne (by (apply List.mem_cons_of_mem;exact List.mem_cons_self)) (by exact List.mem_cons_self)),(by exact H.b1.row),_,(by exact Ce (by rfl) H.b1 rfl),?_⟩
   clear H;have H:=S;clear S
   refine sAppV H m8 (by omega) ?_
   clear H;intro a5 n5 k5 r5 w hn5 _ H
   refine ⟨(back1 H).1,?_⟩
   replace H:=(back1 H).2;clear back1 back2 hm
   have hl2:n5=(B++p.ext).length:=by rw [List.length_append];exact hn5
   have hl3:(B++p.ext).length<=24*p.size+40:=by rw [List.length_append];omega
   refine ⟨fun ht=>?_,fun ht=>?_⟩
   ·refine ⟨_,_,_,(by exact Ce (by exact add_flat _ _ _) H.b3 rfl),?_⟩
    refine ⟨by decide,?_⟩
    refine sSt1 H (by rfl) (by kernel_rfl) (by rfl) (by rfl) ?_;clear H;intro w _ H
    refine ⟨r5,B++p.ext,_,_,hl2,H,⟨by omega,by omega⟩,hl3,fun h=>?_⟩
    obtain ⟨h1,h2,h3⟩:=hok ht
    exact fm1 hk hF (by rw [h2,hPRE]) (hok1 h1).2 h3 (tmod4 h)
   ·refine sSt1 H (by rfl) (by kernel_rfl) (by rfl) (by rfl) ?_;clear H;intro w _ H
    exact ⟨r5,B++p.ext,_,false,hl2,H,⟨by omega,by omega⟩,hl3,(fun h=>(by cases h))⟩
  ·
   replace H:=H.sub (List.sublist_cons_self _ _) (fun _ h=>h)
   refine ⟨_,(by exact Ce (by exact add_flat _ _ _) H.b2 rfl),?_⟩
   rw [hk]
   refine ⟨fun b _ w=>b=true/\Sat F w (.blk b5 4 [.bool true]::.blk b3 42 [.bool false,.int .u8 (cntK p.kind),.int .u8 (typK p.kind),.int .u16 0]::.blk b1 63 (pkC p a7 a8 a9 a10 a13 a14 a15 a16 a18 a24 a25 c7 c8 c9 c10 c13 c14 c15 c16 c18 c24 c25)::ex) R,⟨fun hc=>⟨(absurd hc (by decide)),H⟩,fun hc=>⟨(by decide),H⟩⟩,?_⟩
   clear H;rintro ddj bj w ⟨rfl,H⟩
   refine ⟨fun _=>?_,fun hc=>absurd hc (by decide)⟩
   refine ⟨_,(by exact Ce (by exact add_flat _ _ _) H.b2 rfl),?_⟩
   refine call_j (c112 (B:=[]) (H.nilOwn 5 1) hF.s (by omega)) ?_
   clear H;rintro _ w ⟨a3,k3,r3,rfl,H⟩
   rw [List.nil_append] at H
   refine ⟨_,_,_,rfl,?_⟩
   obtain ⟨PRE,hPRE⟩:∃PRE:List Int,PRE=b32 p.sender:=⟨_,rfl⟩
   have hPl:PRE.length=4:=by rw [hPRE];rfl
   have hsz:=hF.sz (by omega)
   unfold Pk.size at hsz
   refine ⟨fun b bl bc _ w=>∃r,bl=PRE.length/\Sat F w (.own 5 1 b bl bc r (ob (PRE))::.blk b5 4 [.bool true]::.blk b3 42 [.bool false,.int .u8 (cntK p.kind),.int .u8 (typK p.kind),.int .u16 0]::.blk b1 63 (pkC p a7 a8 a9 a10 a13 a14 a15 a16 a18 a24 a25 c7 c8 c9 c10 c13 c14 c15 c16 c18 c24 c25)::ex) R,?_,?_⟩
   ·refine ⟨_,(by exact Ce (by exact add_flat _ _ _) H.b3 rfl),?_⟩
    refine ⟨fun hc=>absurd hc (by rw [hk];decide),fun _=>?_⟩
    refine ⟨r3,by rw [hPl],?_⟩
    rw [hPRE]
    exact H
   clear H;rintro dd2 b bl bc w ⟨r,hbl,H⟩
   refine ⟨_,_,_,(by exact Ce (by exact add_flat _ _ _) H.b3 rfl),?_⟩
   replace H:=H.u2
   refine call_j (c111 H (by omega)) ?_
   clear H;rintro _ w ⟨rfl,ok1,H,hok1⟩
   refine ⟨rfl,?_⟩
   replace H:=H.r2
   refine ⟨_,_,_,(by exact Ce (by exact add_flat _ _ _) H.b3 rfl),?_⟩
   refine ⟨fun b bl bc x q w=>∃(j:Nat) (r:Option Nat) (ok:Bool) (B:List Int),x=(j:Int)/\j+q=p.reports.length/\bl=B.length/\B.length<=24+24*j/\(ok=true->ok1=true/\B=PRE++(p.reports.take j).flatMap wRep/\∀y∈p.reports.take j,y.2.2.1 < 16777216)/\Sat F w (.own 5 1 b bl bc r (ob (B))::.blk b5 4 [.bool ok]::.blk b3 42 [.bool false,.int .u8 ((p.reports.length % 32:Nat):Int),.int .u8 (typK p.kind),.int .u16 0]::.blk b1 63 (pkC p a7 a8 a9 a10 a13 a14 a15 a16 a18 a24 a25 c7 c8 c9 c10 c13 c14 c15 c16 c18 c24 c25)::ex) R,⟨p.reports.length,0,r,ok1,PRE,rfl,by omega,hbl,by omega,fun h=>⟨h,by simp,by simp⟩,H⟩,?_⟩
   clear H;rintro dd3 b bl bc x q w ⟨j,r,ok,B,rfl,hjq,rfl,hBl,hok,H⟩
   refine ⟨fun hc=>?_,fun hc=>?_⟩
   ·rw [decide_eq_true_eq] at hc
    have hjl:j < p.reports.length:=by omega
    obtain ⟨pp,us,e,hus,hcell,H1⟩:=H.eltF Rep.dat_len' (by decide) m7 (j:=j) hjl
    have htk:p.reports.take (j+1)=p.reports.take j++[p.reports[j]]:=by rw [List.take_add_one,List.getElem?_eq_getElem hjl];rfl
    have hRj:=hF.reps p.reports[j] (List.getElem_mem hjl)
    clear H
    generalize p.reports[j]=D at H1 htk hRj
    obtain ⟨d0,d1,d2,d3,d4,d5,d6⟩:=D
    refine ⟨pp,e,by omega,by omega,?_⟩
    obtain rfl:=H1.ones (us:=[.int .u32 d0,.int .u8 d1,.int .u32 d2,.int .u32 d3,.int .u32 d4,.int .u32 d5,.int .u32 d6]) List.mem_cons_self
    refine ⟨_,_,_,_,_,_,_,LdC [.int .u32 d0,.int .u8 d1,.int .u32 d2,.int .u32 d3,.int .u32 d4,.int .u32 d5,.int .u32 d6] (by kernel_rfl) (by rw [show (j:Int).toNat*7=j*7 by omega];exact hcell),?_⟩
    have H:=H1
    clear H1 hcell
    refine sNew H ?_;clear H;intro b4 w _ H
    refine sSw0 H rfl (by kernel_rfl) (by rfl) (by rfl) ?_;clear H;intro w _ H
    refine ⟨_,_,_,_,_,_,_,(by exact Ld0 rfl H.b0 (by kernel_rfl)),?_⟩
    refine call_j (c113 H hRj) ?_
    clear H;rintro _ w ⟨xa,xc,xr,X,okx,rfl,H,hXl,hokx⟩
    refine ⟨_,_,_,_,rfl,?_⟩
    replace H:=H.freeze.r1
    refine ⟨r,?_⟩;replace H:=H.drew;generalize w.drew=w at H ⊢;obtain ⟨F2,ex2,S,back1,back2,hm⟩:=H.regO
    refine ⟨(by exact H.ne (by (apply List.mem_cons_of_mem;(apply List.mem_cons_of_mem;exact List.mem_cons_self))) (by exact List.mem_cons_self)),(by exact H.b2.row),_,(by exact Ce (by rfl) H.b2 rfl),?_⟩
    clear H;have H:=S;clear S
    refine sAppV H List.mem_cons_self (by omega) ?_
    clear H;intro a5 n5 k5 r5 w hn5 _ H
    refine ⟨(back1 H).1,?_⟩
    replace H:=(back1 H).2;clear back1 back2 hm
    have hl2:n5=(B++X).length:=by rw [List.length_append];exact hn5
    have hl3:(B++X).length<=24+24*(j+1):=by rw [List.length_append];omega
    refine ⟨fun ht=>?_,fun ht=>?_⟩
    ·refine sSt2 H (by rfl) (by kernel_rfl) (by rfl) (by rfl) ?_;clear H;intro w _ H
     refine ⟨q - 1,by omega,j+1,r5,okx,B++X,by rw [wi64_of (by omega) (by omega)];simp,by omega,hl2,hl3,fun h=>?_,H.sub (by repeat (first | exact List.Sublist.refl _ | apply List.Sublist.cons_cons | apply List.Sublist.cons)) (fun r h=>by simp [h])⟩
     obtain ⟨h1,h2,h3⟩:=hok ht
     obtain ⟨h4,h5⟩:=hokx h
     refine ⟨h1,?_,?_⟩
     ·rw [h2,h4,htk,List.flatMap_append,List.append_assoc];simp
     ·rw [htk]
      intro y hy
      rcases List.mem_append.1 hy with hy | hy
      ·exact h3 y hy
      ·rw [List.mem_singleton.1 hy];exact h5
    ·refine sSt2 H (by rfl) (by kernel_rfl) (by rfl) (by rfl) ?_;clear H;intro w _ H
     exact ⟨q - 1,by omega,j+1,r5,false,B++X,by rw [wi64_of (by omega) (by omega)];simp,by omega,hl2,hl3,(fun h=>(by cases h)),H.sub (by repeat (first | exact List.Sublist.refl _ | apply List.Sublist.cons_cons | apply List.Sublist.cons)) (fun r h=>by simp [h])⟩
   rw [decide_eq_false_iff_not] at hc
   obtain rfl:j=p.reports.length:=by omega
   rw [List.take_length] at hok
   refine ⟨r,?_⟩;replace H:=H.drew;generalize w.drew=w at H ⊢;obtain ⟨F2,ex2,S,back1,back2,hm⟩:=H.regO
   refine ⟨(by exact H.ne (by (apply List.mem_cons_of_mem;(apply List.mem_cons_of_mem;(apply List.mem_cons_of_mem;exact List.mem_cons_self)))) (by exact List.mem_cons_self)),(by exact H.b3.row),_,_,_,(by exact Ce (by exact add_flat _ _ _) H.b3 rfl),?_⟩
   refine ⟨(by exact H.ne (by (apply List.mem_cons_of_mem;exact List.mem_cons_self)) (by exact List.mem_cons_self)),(by exact H.b1.row),_,(by exact Ce (by rfl) H.b1 rfl),?_⟩
   clear H;have H:=S;clear S
   refine sAppV H m8 (by omega) ?_
   clear H;intro a5 n5 k5 r5 w hn5 _ H
   refine ⟨(back1 H).1,?_⟩
   replace H:=(back1 H).2;clear back1 back2 hm
   have hl2:n5=(B++p.ext).length:=by rw [List.length_append];exact hn5
   have hl3:(B++p.ext).length<=24*p.size+40:=by rw [List.length_append];omega
   refine ⟨fun ht=>?_,fun ht=>?_⟩
   ·refine ⟨_,_,_,(by exact Ce (by exact add_flat _ _ _) H.b3 rfl),?_⟩
    refine ⟨by decide,?_⟩
    refine sSt1 H (by rfl) (by kernel_rfl) (by rfl) (by rfl) ?_;clear H;intro w _ H
    refine ⟨r5,B++p.ext,_,_,hl2,H,⟨by omega,by omega⟩,hl3,fun h=>?_⟩
    obtain ⟨h1,h2,h3⟩:=hok ht
    exact fm2 hk hF (by rw [h2,hPRE]) (hok1 h1).2 h3 (tmod4 h)
   ·refine sSt1 H (by rfl) (by kernel_rfl) (by rfl) (by rfl) ?_;clear H;intro w _ H
    exact ⟨r5,B++p.ext,_,false,hl2,H,⟨by omega,by omega⟩,hl3,(fun h=>(by cases h))⟩
  ·
   replace H:=H.sub (List.sublist_cons_self _ _) (fun _ h=>h)
   refine ⟨_,(by exact Ce (by exact add_flat _ _ _) H.b2 rfl),?_⟩
   rw [hk]
   refine ⟨fun b _ w=>b=false/\Sat F w (.blk b5 4 [.bool true]::.blk b3 42 [.bool false,.int .u8 (cntK p.kind),.int .u8 (typK p.kind),.int .u16 0]::.blk b1 63 (pkC p a7 a8 a9 a10 a13 a14 a15 a16 a18 a24 a25 c7 c8 c9 c10 c13 c14 c15 c16 c18 c24 c25)::ex) R,⟨fun hc=>⟨(absurd hc (by decide)),H⟩,fun hc=>⟨(by decide),H⟩⟩,?_⟩
   clear H;rintro ddj bj w ⟨rfl,H⟩
   refine ⟨fun hc=>absurd hc (by decide),fun _=>?_⟩
   refine ⟨fun _=>?_,fun hc=>absurd hc (by decide)⟩
   have hsz:=hF.sz (by omega)
   unfold Pk.size at hsz
   have hcl:=csz_len p.chunks
   have hcm:=csz_mem p.chunks
   have hbl:=wChk_le p.chunks
   refine ⟨_,_,_,(by exact Ce (by exact add_flat _ _ _) H.b2 rfl),?_⟩
   refine call_j (c111 H (by omega)) ?_
   clear H;rintro _ w ⟨rfl,ok1,H,hok1⟩
   refine ⟨rfl,?_⟩
   refine ⟨_,_,_,(by exact Ce (by exact add_flat _ _ _) H.b2 rfl),?_⟩
   refine ⟨fun b bl bc x q w=>∃(j:Nat) (r:Option Nat) (ok:Bool) (B:List Int),x=(j:Int)/\j+q=p.chunks.length/\bl=B.length/\B.length=((p.chunks.take j).flatMap wChk).length/\(ok=true->ok1=true/\B=(p.chunks.take j).flatMap wChk/\∀y∈p.chunks.take j,∀i∈y.2,ItmR i)/\Sat F w (.own 5 1 b bl bc r (ob (B))::.blk b5 4 [.bool ok]::.blk b3 42 [.bool false,.int .u8 ((p.chunks.length % 32:Nat):Int),.int .u8 (typK p.kind),.int .u16 0]::.blk b1 63 (pkC p a7 a8 a9 a10 a13 a14 a15 a16 a18 a24 a25 c7 c8 c9 c10 c13 c14 c15 c16 c18 c24 c25)::ex) R,⟨p.chunks.length,0,none,ok1,[],rfl,by omega,rfl,by rw [List.take_zero,List.flatMap_nil],fun h=>⟨h,by simp,by simp⟩,H.nilOwn 5 1⟩,?_⟩
   clear H;rintro dd3 b bl bc x q w ⟨j,r,ok,B,rfl,hjq,rfl,hBl,hok,H⟩
   refine ⟨fun hc=>?_,fun hc=>?_⟩
   ·rw [decide_eq_true_eq] at hc
    have hjl:j < p.chunks.length:=by omega
    obtain ⟨pp,us,e,hus,hcell,H1⟩:=H.eltF Chk.dat_len' (by decide) m9 (j:=j) hjl
    have htk:p.chunks.take (j+1)=p.chunks.take j++[p.chunks[j]]:=by rw [List.take_add_one,List.getElem?_eq_getElem hjl];rfl
    have h0:=hF.chks p.chunks[j] (List.getElem_mem hjl)
    have hDm:=hcm p.chunks[j] (List.getElem_mem hjl)
    have hpre:=pre_le wChk hjl
    rw [wChk_len] at hpre
    clear H
    generalize p.chunks[j]=D at H1 htk h0 hDm hpre
    obtain ⟨d0,ms⟩:=D
    replace hDm:ms.length<=csz p.chunks:=hDm
    replace hpre:((p.chunks.take j).flatMap wChk).length+up4 (4+itLen ms+1)<=(p.chunks.flatMap wChk).length:=hpre
    have hup:4+itLen ms+1<=up4 (4+itLen ms+1):=by unfold up4;omega
    refine ⟨pp,e,by omega,by omega,?_⟩
    obtain ⟨x0,us0,rfl,H2⟩:=H1.uncons List.mem_cons_self
    obtain ⟨x1,us1,rfl,H3⟩:=H2.uncons (List.mem_cons_of_mem _ List.mem_cons_self)
    obtain rfl:us1=[]:=by simpa using hus
    obtain rfl:=H2.one1 List.mem_cons_self
    obtain ⟨sa,sn,sc,rfl,hsl⟩:=H3.rowS List.mem_cons_self
    rw [flat_len Itm.dat_len] at hsl
    obtain rfl:sn=ms.length:=by omega
    refine ⟨_,_,_,_,LdC [.int .u32 d0,.slice sa ms.length sc] (by kernel_rfl) (by rw [show (j:Int).toNat*2=j*2 by omega];exact hcell),?_⟩
    have H:Sat F w _ (.deep [.row 2 (ms.flatMap Itm.dat)] [.slice sa ms.length sc]::R):=H3.sub (List.Sublist.refl _) (fun r h=>by rcases List.mem_cons.1 h with rfl | h;exact List.mem_cons_self;simp [h])
    clear H1 H2 H3 hcell
    refine sNew H ?_;clear H;intro b4 w _ H
    refine sSw0 H rfl (by kernel_rfl) (by rfl) (by rfl) ?_;clear H;intro w _ H
    refine ⟨_,(by exact Ce (by exact add_flat _ _ _) H.b0 rfl),?_⟩
    replace H:=H.r1
    refine call_j (c112 H h0 (by omega)) ?_
    clear H;rintro _ w ⟨a4,k4,r4,rfl,H⟩
    refine ⟨_,_,_,rfl,?_⟩
    obtain ⟨B0,hB0⟩:∃B0,B0=B++b32 d0:=⟨_,rfl⟩
    rw [<-hB0] at H
    have hB0l:B0.length=B.length+4:=by rw [hB0];simp only [List.length_append,b32_len]
    refine ⟨_,_,_,(by exact Ce (by exact add_flat _ _ _) H.b1 rfl),?_⟩
    refine ⟨fun b' bl' bc' x' q' w=>∃(i:Nat) (r':Option Nat) (ok3:Bool) (X:List Int),x'=(i:Int)/\i+q'=ms.length/\bl'=(B0++X).length/\X.length=itLen (ms.take i)/\(ok3=true->ok=true/\X=(ms.take i).flatMap wItm/\∀m∈ms.take i,ItmR m)/\Sat F w (.own 5 1 b' bl' bc' r' (ob (B0++X))::.blk b4 147 [.int .u32 d0,.slice sa ms.length sc]::.blk b5 4 [.bool ok3]::.blk b3 42 [.bool false,.int .u8 ((p.chunks.length % 32:Nat):Int),.int .u8 (typK p.kind),.int .u16 0]::.blk b1 63 (pkC p a7 a8 a9 a10 a13 a14 a15 a16 a18 a24 a25 c7 c8 c9 c10 c13 c14 c15 c16 c18 c24 c25)::ex) (.deep [.row 2 (ms.flatMap Itm.dat)] [.slice sa ms.length sc]::R),⟨ms.length,0,r4,ok,[],rfl,by omega,by rw [List.append_nil,hB0l],rfl,fun h=>⟨h,by simp,by simp⟩,by rw [List.append_nil];exact H⟩,?_⟩
    clear H;rintro dd5 b' bl' bc' x' q' w ⟨i,r',ok3,X,rfl,hiq,hbl',hXl,hok3,H⟩
    have hbl2:bl'=B0.length+X.length:=by rw [hbl',List.length_append]
    refine ⟨fun hc2=>?_,fun hc2=>?_⟩
    ·rw [decide_eq_true_eq] at hc2
     have hil:i < ms.length:=by omega
     obtain ⟨p2,us,e2',hus2,hcell,H1⟩:=H.eltF Itm.dat_len (by decide) List.mem_cons_self (j:=i) hil
     have htk2:ms.take (i+1)=ms.take i++[ms[i]]:=by rw [List.take_add_one,List.getElem?_eq_getElem hil];rfl
     have hle:=itLen_tk hil
     clear H
     generalize ms[i]=E at H1 htk2 hle
     obtain ⟨e0,e1⟩:=E
     replace hle:itLen (ms.take i)+(2+e1.size)<=itLen ms:=hle
     refine ⟨p2,e2',by omega,by omega,?_⟩
     obtain rfl:=H1.ones (us:=[.int .u8 e0,.string e1]) List.mem_cons_self
     refine ⟨_,_,LdC [.int .u8 e0,.string e1] (by kernel_rfl) (by rw [show (i:Int).toNat*2=i*2 by omega];exact hcell),?_⟩
     have H:=H1.sub (List.Sublist.refl _) (fun r h=>List.mem_cons_of_mem _ h)
     clear H1 hcell
     refine sNew H ?_;clear H;intro b7 w _ H
     refine sSw0 H rfl (by kernel_rfl) (by rfl) (by rfl) ?_;clear H;intro w _ H
     refine ⟨fun _ w=>∃ok4:Bool,(ok4=true->ok3=true/\e0≠0/\e1.size<=255)/\Sat F w (.blk b7 149 [.int .u8 e0,.string e1]::.own 5 1 b' bl' bc' r' (ob (B0++X))::.blk b4 147 [.int .u32 d0,.slice sa ms.length sc]::.blk b5 4 [.bool ok4]::.blk b3 42 [.bool false,.int .u8 ((p.chunks.length % 32:Nat):Int),.int .u8 (typK p.kind),.int .u16 0]::.blk b1 63 (pkC p a7 a8 a9 a10 a13 a14 a15 a16 a18 a24 a25 c7 c8 c9 c10 c13 c14 c15 c16 c18 c24 c25)::ex) (.deep [.row 2 (ms.flatMap Itm.dat)] [.slice sa ms.length sc]::R),?_,?_⟩
     ·refine ⟨_,(by exact Ce (by rfl) H.b3 rfl),?_⟩
      refine ⟨fun h2=>?_,fun h2=>?_⟩
      ·refine ⟨_,(by exact Ce (by exact add_flat _ _ _) H.b0 rfl),?_⟩
       refine ⟨fun h3=>?_,fun h3=>?_⟩
       ·refine ⟨_,(by exact Ce (by exact add_flat _ _ _) H.b0 rfl),?_⟩
        refine sSt3 H (by rfl) (by kernel_rfl) (by rfl) (by rfl) ?_;clear H;intro w _ H
        exact ⟨decide (((e1.size:Nat):Int)<=(255:Int)),fun h=>⟨h2,by simpa using h3,by rw [decide_eq_true_eq] at h;omega⟩,H⟩
       ·refine sSt3 H (by rfl) (by kernel_rfl) (by rfl) (by rfl) ?_;clear H;intro w _ H
        exact ⟨false,(fun h=>(by cases h)),H⟩
      ·refine sSt3 H (by rfl) (by kernel_rfl) (by rfl) (by rfl) ?_;clear H;intro w _ H
       exact ⟨false,(fun h=>(by cases h)),H⟩
     clear H;rintro dd6 w ⟨ok4,hok4,H⟩
     have w1:IntKind.u8.wrap ((e1.size:Nat):Int)=((e1.size % 256:Nat):Int):=by rw [wu8];omega
     replace H:=H.r1
     refine ⟨r',?_⟩;replace H:=H.drew;generalize w.drew=w at H ⊢;obtain ⟨F2,ex2,S,back1,back2,hm⟩:=H.regO
     refine ⟨(by exact H.ne (by (apply List.mem_cons_of_mem;exact List.mem_cons_self)) (by exact List.mem_cons_self)),(by exact H.b1.row),_,(by exact Ce (by exact add_flat _ _ _) H.b1 rfl),?_⟩
     refine ⟨(by exact H.ne (by (apply List.mem_cons_of_mem;exact List.mem_cons_self)) (by exact List.mem_cons_self)),(by exact H.b1.row),_,(by exact Ce (by exact add_flat _ _ _) H.b1 rfl),?_⟩
     refine ⟨(by exact H.ne (by (apply List.mem_cons_of_mem;exact List.mem_cons_self)) (by exact List.mem_cons_self)),(by exact H.b1.row),_,(by exact Ce (by exact add_flat _ _ _) H.b1 rfl),?_⟩
     clear H;have H:=S;clear S
     rw [w1]
     refine sNew H ?_;clear H;intro b8 w _ H
     refine ⟨(back2 H).1,?_⟩
     refine sApp1 H (bytes:=1) (by kernel_rfl) [.int .u8 e0,.int .u8 ((e1.size % 256:Nat):Int)] (ob [e0,((e1.size % 256:Nat):Int)]) (by rfl) (fun j u hu=>by rw [add_flat,Nat.zero_add];exact H.b0.cell hu) (fun G h=>DeepL.ones [_,_]) (by simp [Value.oneCell']) (by unfold maxLen;omega) (by omega) ?_
     clear H;intro a6 n6 k6 r6 w hn6 _ H
     refine ⟨(back2 H).1,?_⟩
     rw [<-ob_append] at H
     replace H:=H.r1
     refine sAppS H e1 (by omega) (by omega) ?_
     clear H;intro aw kw rw' w H
     replace H:=(back2 H).2;clear back1 back2 hm
     have hX:B0++X++[e0,((e1.size % 256:Nat):Int)]++sbs e1=B0++(X++([e0,((e1.size % 256:Nat):Int)]++sbs e1)):=by simp only [List.append_assoc]
     rw [hX] at H
     have hl1:(X++([e0,((e1.size % 256:Nat):Int)]++sbs e1)).length=X.length+(2+e1.size):=by rw [List.length_append,List.length_append,sbs_len];rfl
     refine ⟨q' - 1,by omega,i+1,rw',ok4,_,by rw [wi64_of (by omega) (by omega)];simp,by omega,by rw [List.length_append,hl1];omega,by rw [hl1,htk2,itLen_snoc,hXl],fun h=>?_,H.sub (by repeat (first | exact List.Sublist.refl _ | apply List.Sublist.cons_cons | apply List.Sublist.cons)) (fun r h=>h)⟩
     obtain ⟨h0,h1,h2⟩:=hok4 h
     obtain ⟨h3,h4,h5⟩:=hok3 h0
     refine ⟨h3,?_,?_⟩
     ·rw [h4,htk2,List.flatMap_append,Nat.mod_eq_of_lt (show e1.size < 256 by omega)]
      simp only [List.flatMap_cons,List.flatMap_nil,List.append_nil]
      rfl
     ·rw [htk2]
      intro y hy
      rcases List.mem_append.1 hy with hy | hy
      ·exact h5 y hy
      ·rw [List.mem_singleton.1 hy];exact ⟨h1,h2⟩
    rw [decide_eq_false_iff_not] at hc2
    obtain rfl:i=ms.length:=by omega
    rw [List.take_length] at hok3 hXl
    refine ⟨rfl,?_⟩
    refine sPush0 H (bytes:=1) (by kernel_rfl) (ob [0]) (by rfl) (fun G h=>DeepL.ones [_]) (by rfl) (by unfold maxLen;omega) (by omega) ?_
    clear H;intro a6 n6 k6 r6 w hn6 _ H
    rw [<-ob_append] at H
    refine call_j (c114 H (by omega)) ?_
    clear H;rintro _ w ⟨a8,k8,r8,rfl,H⟩
    refine ⟨_,_,_,rfl,?_⟩
    have h4:=wChk_4 (p.chunks.take j)
    have hpad:pad4 n6=pad4 (4+itLen ms+1):=by unfold pad4;omega
    have hu4:up4 (4+itLen ms+1)=4+itLen ms+1+pad4 (4+itLen ms+1):=by unfold up4 pad4;omega
    have hl:n6+pad4 n6=(B0++X++[0]++List.replicate (pad4 n6) 0).length:=by rw [List.length_append,List.length_append,List.length_append,List.length_replicate];simp only [List.length_cons,List.length_nil];omega
    refine ⟨q - 1,by omega,j+1,r8,ok3,_,by rw [wi64_of (by omega) (by omega)];simp,by omega,hl,?_,fun h=>?_,H.sub (by repeat (first | exact List.Sublist.refl _ | apply List.Sublist.cons_cons | apply List.Sublist.cons)) (fun r h=>List.mem_cons_of_mem _ h)⟩
    ·rw [<-hl,htk,List.flatMap_append,List.length_append]
     simp only [List.flatMap_cons,List.flatMap_nil,List.append_nil]
     rw [wChk_len]
     show _=_+up4 (4+itLen ms+1)
     omega
    ·obtain ⟨h2,h3,h5⟩:=hok3 h
     obtain ⟨h6,h7,h8⟩:=hok h2
     refine ⟨h6,?_,?_⟩
     ·have hq:(b32 d0++ms.flatMap wItm++[0]).length=4+itLen ms+1:=by rw [List.length_append,List.length_append,b32_len,wItm_it];rfl
      rw [hpad,hB0,h7,h3,htk,List.flatMap_append]
      simp only [List.flatMap_cons,List.flatMap_nil,List.append_nil,wChk]
      rw [hq]
      simp only [List.append_assoc]
     ·rw [htk]
      intro y hy
      rcases List.mem_append.1 hy with hy | hy
      ·exact h8 y hy
      ·rw [List.mem_singleton.1 hy];exact h5
   rw [decide_eq_false_iff_not] at hc
   obtain rfl:j=p.chunks.length:=by omega
   rw [List.take_length] at hBl hok
   exact ⟨r,B,_,ok,rfl,H,⟨by omega,by omega⟩,by omega,fun h=>fm3 hk hF (hok h).2.1 (hok1 (hok h).1).2 (hok h).2.2⟩
  ·
   replace H:=H.sub (List.sublist_cons_self _ _) (fun _ h=>h)
   refine ⟨_,(by exact Ce (by exact add_flat _ _ _) H.b2 rfl),?_⟩
   rw [hk]
   refine ⟨fun b _ w=>b=false/\Sat F w (.blk b5 4 [.bool true]::.blk b3 42 [.bool false,.int .u8 (cntK p.kind),.int .u8 (typK p.kind),.int .u16 0]::.blk b1 63 (pkC p a7 a8 a9 a10 a13 a14 a15 a16 a18 a24 a25 c7 c8 c9 c10 c13 c14 c15 c16 c18 c24 c25)::ex) R,⟨fun hc=>⟨(absurd hc (by decide)),H⟩,fun hc=>⟨(by decide),H⟩⟩,?_⟩
   clear H;rintro ddj bj w ⟨rfl,H⟩
   refine ⟨fun hc=>absurd hc (by decide),fun _=>?_⟩
   refine ⟨fun hc=>absurd hc (by decide),fun _=>?_⟩
   refine ⟨fun _=>?_,fun hc=>absurd hc (by decide)⟩
   have hsz:=hF.sz (by omega)
   unfold Pk.size at hsz
   have w1:IntKind.u8.wrap ((p.text.size:Nat):Int)=((p.text.size % 256:Nat):Int):=by rw [wu8];omega
   refine ⟨_,_,_,(by exact Ce (by exact add_flat _ _ _) H.b2 rfl),?_⟩
   refine call_j (c111 H (by omega)) ?_
   clear H;rintro _ w ⟨rfl,ok1,H,hok1⟩
   refine ⟨rfl,?_⟩
   refine ⟨_,_,_,(by exact Ce (by exact add_flat _ _ _) H.b2 rfl),?_⟩
   refine ⟨fun b bl bc x q w=>∃(j:Nat) (r:Option Nat),x=(j:Int)/\j+q=p.sources.length/\bl=4*j/\Sat F w (.own 5 1 b bl bc r (ob ((p.sources.take j).flatMap b32))::.blk b5 4 [.bool ok1]::.blk b3 42 [.bool false,.int .u8 ((p.sources.length % 32:Nat):Int),.int .u8 (typK p.kind),.int .u16 0]::.blk b1 63 (pkC p a7 a8 a9 a10 a13 a14 a15 a16 a18 a24 a25 c7 c8 c9 c10 c13 c14 c15 c16 c18 c24 c25)::ex) R,⟨p.sources.length,0,none,rfl,by omega,rfl,by rw [List.take_zero,List.flatMap_nil];exact H.nilOwn 5 1⟩,?_⟩
   clear H;rintro dd3 b bl bc x q w ⟨j,r,rfl,hjq,rfl,H⟩
   refine ⟨fun hc=>?_,fun hc=>?_⟩
   ·rw [decide_eq_true_eq] at hc
    have hjl:j < p.sources.length:=by omega
    have htk:p.sources.take (j+1)=p.sources.take j++[p.sources[j]]:=by rw [List.take_add_one,List.getElem?_eq_getElem hjl];rfl
    have hRj:=hF.srcs p.sources[j] (List.getElem_mem hjl)
    obtain ⟨bb,oo,hle,hcell⟩:=H.elt m10 (by omega)
    have hc1:=hcell j (.int .u32 p.sources[j]) (by rw [oi_get _ _ _ hjl];simp [List.getD,List.getElem?_eq_getElem hjl])
    refine ⟨_,hle,by omega,by omega,?_⟩
    refine ⟨_,(by rw [show (j:Int).toNat*1=j by omega,add_flat];exact hc1),?_⟩
    clear hcell hc1
    refine call_j (c112 H hRj (by omega)) ?_
    clear H;rintro _ w ⟨a6,k6,r6,rfl,H⟩
    refine ⟨_,_,_,rfl,?_⟩
    refine ⟨q - 1,by omega,j+1,r6,by rw [wi64_of (by omega) (by omega)];simp,by omega,by omega,?_⟩
    rw [htk,List.flatMap_append]
    simp only [List.flatMap_cons,List.flatMap_nil,List.append_nil]
    exact H
   rw [decide_eq_false_iff_not] at hc
   obtain rfl:j=p.sources.length:=by omega
   rw [List.take_length] at H
   refine ⟨_,(by exact Ce (by rfl) H.b1 rfl),?_⟩
   refine ⟨fun hok=>?_,fun hok=>?_⟩
   ·refine ⟨_,(by exact Ce (by exact add_flat _ _ _) H.b3 rfl),?_⟩
    refine sSt1 H (by rfl) (by kernel_rfl) (by rfl) (by rfl) ?_;clear H;intro w _ H
    obtain ⟨ok2,hok2e⟩:∃ok2,ok2=decide (((p.text.size:Nat):Int)<=(255:Int)):=⟨_,rfl⟩
    have hok2:ok2=true->p.text.size<=255:=fun h=>by rw [hok2e,decide_eq_true_eq] at h;omega
    rw [<-hok2e] at H
    clear hok2e
    refine ⟨_,(by exact Ce (by exact add_flat _ _ _) H.b3 rfl),?_⟩
    rw [noStr]
    refine ⟨fun h0=>?_,fun h0=>?_⟩
    ·have hs0:p.text.size≠0:=by simpa using h0
     refine ⟨r,?_⟩;replace H:=H.drew;generalize w.drew=w at H ⊢;obtain ⟨F2,ex2,S,back1,back2,hm⟩:=H.regO
     refine ⟨(by exact H.ne (by (apply List.mem_cons_of_mem;(apply List.mem_cons_of_mem;(apply List.mem_cons_of_mem;exact List.mem_cons_self)))) (by exact List.mem_cons_self)),(by exact H.b3.row),_,(by exact Ce (by exact add_flat _ _ _) H.b3 rfl),?_⟩
     refine ⟨(by exact H.ne (by (apply List.mem_cons_of_mem;(apply List.mem_cons_of_mem;(apply List.mem_cons_of_mem;exact List.mem_cons_self)))) (by exact List.mem_cons_self)),(by exact H.b3.row),_,(by exact Ce (by exact add_flat _ _ _) H.b3 rfl),?_⟩
     clear H;have H:=S;clear S
     refine ⟨rfl,?_⟩
     refine sNew H ?_;clear H;intro b6 w _ H
     refine ⟨(back2 H).1,?_⟩
     rw [w1] at H
     refine sApp1 H (bytes:=1) (by kernel_rfl) [.int .u8 ((p.text.size % 256:Nat):Int)] (ob [((p.text.size % 256:Nat):Int)]) (by rfl) (fun j u hu=>by rw [add_flat,Nat.zero_add];exact H.b0.cell hu) (fun G h=>DeepL.ones [_]) (by simp [Value.oneCell']) (by unfold maxLen;omega) (by omega) ?_
     clear H;intro a6 n6 k6 r6 w hn6 _ H
     refine ⟨(back2 H).1,?_⟩
     rw [<-ob_append] at H
     replace H:=H.r1
     refine sAppS H p.text (by omega) (by omega) ?_
     clear H;intro a7' k7 r7 w H
     replace H:=(back2 H).2;clear back1 back2 hm
     refine call_j (c114 H (by omega)) ?_
     clear H;rintro _ w ⟨a8',k8,r8,rfl,H⟩
     refine ⟨_,_,_,rfl,?_⟩
     have hl:n6+p.text.size+pad4 (n6+p.text.size)=(p.sources.flatMap b32++[((p.text.size % 256:Nat):Int)]++sbs p.text++List.replicate (pad4 (n6+p.text.size)) 0).length:=by
      rw [List.length_append,List.length_append,List.length_append,fl32,sbs_len,List.length_replicate];simp only [List.length_cons,List.length_nil];omega
     have hp3:pad4 (n6+p.text.size)<=3:=by unfold pad4;omega
     refine ⟨r8,_,_,ok2,hl,H.sub (by repeat (first | exact List.Sublist.refl _ | apply List.Sublist.cons_cons | apply List.Sublist.cons)) (fun r h=>h),⟨by omega,by omega⟩,by rw [<-hl];omega,fun h=>?_⟩
     have hts:=hok2 h
     refine fm4 hk hF ?_ (hok1 hok).2 hts
     unfold wBye
     rw [if_neg hs0,Nat.mod_eq_of_lt (show p.text.size < 256 by omega),show pad4 (n6+p.text.size)=pad4 (1+p.text.size) by unfold pad4;omega]
     simp only [List.append_assoc]
    ·have hs0:p.text.size=0:=by simpa using h0
     exact ⟨r,_,_,ok2,by rw [fl32],H,⟨by omega,by omega⟩,by rw [fl32];omega,fun h=>fm4 hk hF (by unfold wBye;rw [if_pos hs0,List.append_nil]) (hok1 hok).2 (hok2 h)⟩

   ·refine sSt1 H (by rfl) (by kernel_rfl) (by rfl) (by rfl) ?_;clear H;intro w _ H
    refine ⟨_,(by exact Ce (by exact add_flat _ _ _) H.b3 rfl),?_⟩
    rw [noStr]
    refine ⟨fun h0=>?_,fun h0=>?_⟩
    ·have hs0:p.text.size≠0:=by simpa using h0
     refine ⟨r,?_⟩;replace H:=H.drew;generalize w.drew=w at H ⊢;obtain ⟨F2,ex2,S,back1,back2,hm⟩:=H.regO
     refine ⟨(by exact H.ne (by (apply List.mem_cons_of_mem;(apply List.mem_cons_of_mem;(apply List.mem_cons_of_mem;exact List.mem_cons_self)))) (by exact List.mem_cons_self)),(by exact H.b3.row),_,(by exact Ce (by exact add_flat _ _ _) H.b3 rfl),?_⟩
     refine ⟨(by exact H.ne (by (apply List.mem_cons_of_mem;(apply List.mem_cons_of_mem;(apply List.mem_cons_of_mem;exact List.mem_cons_self)))) (by exact List.mem_cons_self)),(by exact H.b3.row),_,(by exact Ce (by exact add_flat _ _ _) H.b3 rfl),?_⟩
     clear H;have H:=S;clear S
     refine ⟨rfl,?_⟩
     refine sNew H ?_;clear H;intro b6 w _ H
     refine ⟨(back2 H).1,?_⟩
     rw [w1] at H
     refine sApp1 H (bytes:=1) (by kernel_rfl) [.int .u8 ((p.text.size % 256:Nat):Int)] (ob [((p.text.size % 256:Nat):Int)]) (by rfl) (fun j u hu=>by rw [add_flat,Nat.zero_add];exact H.b0.cell hu) (fun G h=>DeepL.ones [_]) (by simp [Value.oneCell']) (by unfold maxLen;omega) (by omega) ?_
     clear H;intro a6 n6 k6 r6 w hn6 _ H
     refine ⟨(back2 H).1,?_⟩
     rw [<-ob_append] at H
     replace H:=H.r1
     refine sAppS H p.text (by omega) (by omega) ?_
     clear H;intro a7' k7 r7 w H
     replace H:=(back2 H).2;clear back1 back2 hm
     refine call_j (c114 H (by omega)) ?_
     clear H;rintro _ w ⟨a8',k8,r8,rfl,H⟩
     refine ⟨_,_,_,rfl,?_⟩
     have hl:n6+p.text.size+pad4 (n6+p.text.size)=(p.sources.flatMap b32++[((p.text.size % 256:Nat):Int)]++sbs p.text++List.replicate (pad4 (n6+p.text.size)) 0).length:=by
      rw [List.length_append,List.length_append,List.length_append,fl32,sbs_len,List.length_replicate];simp only [List.length_cons,List.length_nil];omega
     have hp3:pad4 (n6+p.text.size)<=3:=by unfold pad4;omega
     refine ⟨r8,_,_,false,hl,H.sub (by repeat (first | exact List.Sublist.refl _ | apply List.Sublist.cons_cons | apply List.Sublist.cons)) (fun r h=>h),⟨by omega,by omega⟩,by rw [<-hl];omega,(fun h=>(by cases h))⟩
    ·have hs0:p.text.size=0:=by simpa using h0
     exact ⟨r,_,_,false,by rw [fl32],H,⟨by omega,by omega⟩,by rw [fl32];omega,(fun h=>(by cases h))⟩
  ·
   replace H:=H.sub (List.sublist_cons_self _ _) (fun _ h=>h)
   refine ⟨_,(by exact Ce (by exact add_flat _ _ _) H.b2 rfl),?_⟩
   rw [hk]
   refine ⟨fun b _ w=>b=false/\Sat F w (.blk b5 4 [.bool true]::.blk b3 42 [.bool false,.int .u8 (cntK p.kind),.int .u8 (typK p.kind),.int .u16 0]::.blk b1 63 (pkC p a7 a8 a9 a10 a13 a14 a15 a16 a18 a24 a25 c7 c8 c9 c10 c13 c14 c15 c16 c18 c24 c25)::ex) R,⟨fun hc=>⟨(absurd hc (by decide)),H⟩,fun hc=>⟨(by decide),H⟩⟩,?_⟩
   clear H;rintro ddj bj w ⟨rfl,H⟩
   refine ⟨fun hc=>absurd hc (by decide),fun _=>?_⟩
   refine ⟨fun hc=>absurd hc (by decide),fun _=>?_⟩
   refine ⟨fun hc=>absurd hc (by decide),fun _=>?_⟩
   refine ⟨fun _=>?_,fun hc=>absurd hc (by decide)⟩
   have hsz:=hF.sz (by omega)
   unfold Pk.size at hsz
   have hsub:=hF.sub
   refine ⟨_,(by exact Ce (by exact add_flat _ _ _) H.b2 rfl),?_⟩
   rw [show IntKind.i64.wrap p.sub=((p.sub.toNat:Nat):Int) by rw [wi64_of (by omega) (by omega)];omega]
   refine call_j (c111 H (by omega)) ?_
   clear H;rintro _ w ⟨rfl,ok1,H,hok1⟩
   refine ⟨rfl,?_⟩
   refine ⟨none,?_⟩;replace H:=H.drew;generalize w.drew=w at H ⊢;obtain ⟨F2,ex2,S,back1,back2,hm⟩:=H.regN
   refine ⟨(by exact Option.some_ne_none _),(by exact H.b2.row),_,(by exact Ce (by exact add_flat _ _ _) H.b2 rfl),?_⟩
   refine ⟨(by exact Option.some_ne_none _),(by exact H.b2.row),_,(by exact Ce (by exact add_flat _ _ _) H.b2 rfl),?_⟩
   refine ⟨(by exact Option.some_ne_none _),(by exact H.b2.row),_,_,_,(by exact Ce (by exact add_flat _ _ _) H.b2 rfl),?_⟩
   refine ⟨(by exact Option.some_ne_none _),(by exact H.b0.row),_,(by exact Ce (by rfl) H.b0 rfl),?_⟩
   clear H;have H:=S;clear S
   refine call_j (c112 (B:=[]) (H.nilOwn 5 1) hF.s (by omega)) ?_
   clear H;rintro _ w ⟨a4,k4,r4,rfl,H⟩
   refine ⟨_,_,_,rfl,(back1 H).1,?_⟩
   rw [List.nil_append] at H
   refine sAppS H p.text (by omega) (by omega) ?_
   clear H;intro a5 k5 r5 w H
   refine ⟨(back1 H).1,?_⟩
   refine sAppV H m13 (by omega) ?_
   clear H;intro a6 n6 k6 r6 w hn6 _ H
   refine ⟨(back1 H).1,?_⟩
   replace H:=(back1 H).2;clear back1 back2 hm
   have hl:n6=(b32 p.sender++sbs p.text++p.data).length:=by rw [List.length_append,List.length_append,b32_len,sbs_len];omega
   have hl2:(b32 p.sender++sbs p.text++p.data).length<=24*p.size+40:=by omega
   refine ⟨fun hok=>?_,fun hok=>?_⟩
   ·refine ⟨_,(by exact Ce (by exact add_flat _ _ _) H.b3 rfl),?_⟩
    refine ⟨fun ht=>?_,fun ht=>?_⟩
    ·have ht:((p.text.size:Nat):Int)=4:=by simpa using ht
     refine ⟨_,_,_,(by exact Ce (by exact add_flat _ _ _) H.b3 rfl),?_⟩
     refine ⟨by decide,?_⟩
     refine ⟨fun hd=>?_,fun hd=>?_⟩
     ·refine ⟨_,_,_,(by exact Ce (by exact add_flat _ _ _) H.b3 rfl),?_⟩
      refine sSt1 H (by rfl) (by kernel_rfl) (by rfl) (by rfl) ?_;clear H;intro w _ H
      exact ⟨r6,_,_,_,hl,H,⟨by omega,by omega⟩,hl2,fun h=>fm5 hk hF rfl (hok1 hok).2 (by omega) (tmod4 hd) (by rw [decide_eq_true_eq] at h;omega)⟩
     ·refine sSt1 H (by rfl) (by kernel_rfl) (by rfl) (by rfl) ?_;clear H;intro w _ H
      exact ⟨r6,_,_,false,hl,H,⟨by omega,by omega⟩,hl2,(fun h=>(by cases h))⟩
    ·refine sSt1 H (by rfl) (by kernel_rfl) (by rfl) (by rfl) ?_;clear H;intro w _ H
     exact ⟨r6,_,_,false,hl,H,⟨by omega,by omega⟩,hl2,(fun h=>(by cases h))⟩
   ·refine sSt1 H (by rfl) (by kernel_rfl) (by rfl) (by rfl) ?_;clear H;intro w _ H
    exact ⟨r6,_,_,false,hl,H,⟨by omega,by omega⟩,hl2,(fun h=>(by cases h))⟩
  ·
   refine ⟨_,(by exact Ce (by exact add_flat _ _ _) H.b3 rfl),?_⟩
   rw [hk]
   refine ⟨fun b _ w=>b=false/\Sat F w (.own 5 1 ab (0+4+4) kt rt (ob (b32 p.sender++b32 p.media))::.blk b5 4 [.bool true]::.blk b3 42 [.bool false,.int .u8 (cntK p.kind),.int .u8 (typK p.kind),.int .u16 0]::.blk b1 63 (pkC p a7 a8 a9 a10 a13 a14 a15 a16 a18 a24 a25 c7 c8 c9 c10 c13 c14 c15 c16 c18 c24 c25)::ex) R,⟨fun hc=>⟨(absurd hc (by decide)),H⟩,fun hc=>⟨(by decide),H⟩⟩,?_⟩
   clear H;rintro ddj bj w ⟨rfl,H⟩
   refine ⟨fun hc=>absurd hc (by decide),fun _=>?_⟩
   refine ⟨fun hc=>absurd hc (by decide),fun _=>?_⟩
   refine ⟨fun hc=>absurd hc (by decide),fun _=>?_⟩
   refine ⟨fun hc=>absurd hc (by decide),fun _=>?_⟩
   refine ⟨fun _=>?_,fun hc=>absurd hc (by decide)⟩
   rw [show cntK p.kind=1 by rw [hk];rfl] at H
   have hsz:=hF.sz (by omega)
   unfold Pk.size at hsz
   refine ⟨fun b bl bc _ w=>∃(r:Option Nat) (ok:Bool),bl=8/\(ok=true->p.pairs.length<=253)/\Sat F w (.own 5 1 b bl bc r (ob (b32 p.sender++b32 p.media))::.blk b5 4 [.bool ok]::.blk b3 42 [.bool false,.int .u8 1,.int .u8 (typK p.kind),.int .u16 0]::.blk b1 63 (pkC p a7 a8 a9 a10 a13 a14 a15 a16 a18 a24 a25 c7 c8 c9 c10 c13 c14 c15 c16 c18 c24 c25)::ex) R,?_,?_⟩
   ·replace H:=H.drew;generalize w.drew=w at H ⊢
    refine ⟨_,_,_,(by exact Ce (by exact add_flat _ _ _) H.b3 rfl),?_⟩
    refine ⟨fun hc=>?_,fun hc=>?_⟩
    ·refine ⟨_,_,_,(by exact Ce (by exact add_flat _ _ _) H.b3 rfl),?_⟩
     refine sSt1 H (by rfl) (by kernel_rfl) (by rfl) (by rfl) ?_;clear H;intro w _ H
     exact ⟨rt,_,rfl,fun h=>by rw [decide_eq_true_eq] at h;omega,H⟩
    ·refine sSt1 H (by rfl) (by kernel_rfl) (by rfl) (by rfl) ?_;clear H;intro w _ H
     exact ⟨rt,false,rfl,(fun h=>(by cases h)),H⟩
   clear H;rintro dd2 b bl bc w ⟨r,ok1,rfl,hok1,H⟩
   refine ⟨_,_,_,(by exact Ce (by exact add_flat _ _ _) H.b3 rfl),?_⟩
   refine ⟨fun b bl bc x q w=>∃(j:Nat) (r:Option Nat),x=(j:Int)/\j+q=p.pairs.length/\bl=8+4*j/\Sat F w (.own 5 1 b bl bc r (ob (b32 p.sender++b32 p.media++(p.pairs.take j).flatMap wPar))::.blk b5 4 [.bool ok1]::.blk b3 42 [.bool false,.int .u8 1,.int .u8 (typK p.kind),.int .u16 0]::.blk b1 63 (pkC p a7 a8 a9 a10 a13 a14 a15 a16 a18 a24 a25 c7 c8 c9 c10 c13 c14 c15 c16 c18 c24 c25)::ex) R,⟨p.pairs.length,0,r,rfl,by omega,rfl,by rw [List.take_zero,List.flatMap_nil,List.append_nil];exact H⟩,?_⟩
   clear H;rintro dd3 b bl bc x q w ⟨j,r,rfl,hjq,rfl,H⟩
   refine ⟨fun hc=>?_,fun hc=>?_⟩
   ·rw [decide_eq_true_eq] at hc
    have hjl:j < p.pairs.length:=by omega
    obtain ⟨pp,us,e,hus,hcell,H1⟩:=H.eltF Par.dat_lenK (by decide) m14 (j:=j) hjl
    have htk:p.pairs.take (j+1)=p.pairs.take j++[p.pairs[j]]:=by rw [List.take_add_one,List.getElem?_eq_getElem hjl];rfl
    have hRj:=hF.prs p.pairs[j] (List.getElem_mem hjl)
    clear H
    generalize p.pairs[j]=D at H1 htk hRj
    obtain ⟨e0,e1⟩:=D
    refine ⟨pp,e,by omega,by omega,?_⟩
    obtain rfl:=H1.ones (us:=[.int .u16 e0,.int .u16 e1]) List.mem_cons_self
    refine ⟨_,_,LdC [.int .u16 e0,.int .u16 e1] (by kernel_rfl) (by rw [show (j:Int).toNat*2=j*2 by omega];exact hcell),?_⟩
    have H:=H1.sub (List.Sublist.refl _) (fun r h=>List.mem_cons_of_mem _ h)
    clear H1 hcell
    refine sNew H ?_;clear H;intro b4 w _ H
    refine sSw0 H rfl (by kernel_rfl) (by rfl) (by rfl) ?_;clear H;intro w _ H
    replace H:=H.r1
    refine ⟨r,?_⟩;replace H:=H.drew;generalize w.drew=w at H ⊢;obtain ⟨F2,ex2,S,back1,back2,hm⟩:=H.regO
    refine ⟨(by exact H.ne (by (apply List.mem_cons_of_mem;exact List.mem_cons_self)) (by exact List.mem_cons_self)),(by exact H.b1.row),_,(by exact Ce (by exact add_flat _ _ _) H.b1 rfl),?_⟩
    refine ⟨(by exact H.ne (by (apply List.mem_cons_of_mem;exact List.mem_cons_self)) (by exact List.mem_cons_self)),(by exact H.b1.row),_,(by exact Ce (by exact add_flat _ _ _) H.b1 rfl),?_⟩
    clear H;have H:=S;clear S
    refine call_j (c49 H hRj.1 (by omega)) ?_
    clear H;rintro _ w ⟨a5,k5,r5,rfl,H⟩
    refine ⟨_,_,_,rfl,(back1 H).1,?_⟩
    refine call_j (c49 H hRj.2 (by omega)) ?_
    clear H;rintro _ w ⟨a6,k6,r6,rfl,H⟩
    refine ⟨_,_,_,rfl,?_⟩
    replace H:=(back1 H).2;clear back1 back2 hm
    refine ⟨q - 1,by omega,j+1,r6,by rw [wi64_of (by omega) (by omega)];simp,by omega,by omega,?_⟩
    rw [htk,List.flatMap_append]
    simp only [List.flatMap_cons,List.flatMap_nil,List.append_nil]
    rw [List.append_assoc,List.append_assoc] at H
    exact H.sub (by repeat (first | exact List.Sublist.refl _ | apply List.Sublist.cons_cons | apply List.Sublist.cons)) (fun r h=>h)
   rw [decide_eq_false_iff_not] at hc
   obtain rfl:j=p.pairs.length:=by omega
   rw [List.take_length] at H
   exact ⟨r,_,1,ok1,by rw [List.length_append,flat_bd wPar_len];rfl,H,⟨by decide,by decide⟩,by rw [List.length_append,flat_bd wPar_len];show 8+_<=_;omega,fun h=>fm6 hk hF rfl (hok1 h)⟩
  ·
   refine ⟨_,(by exact Ce (by exact add_flat _ _ _) H.b3 rfl),?_⟩
   rw [hk]
   refine ⟨fun b _ w=>b=false/\Sat F w (.own 5 1 ab (0+4+4) kt rt (ob (b32 p.sender++b32 p.media))::.blk b5 4 [.bool true]::.blk b3 42 [.bool false,.int .u8 (cntK p.kind),.int .u8 (typK p.kind),.int .u16 0]::.blk b1 63 (pkC p a7 a8 a9 a10 a13 a14 a15 a16 a18 a24 a25 c7 c8 c9 c10 c13 c14 c15 c16 c18 c24 c25)::ex) R,⟨fun hc=>⟨(absurd hc (by decide)),H⟩,fun hc=>⟨(by decide),H⟩⟩,?_⟩
   clear H;rintro ddj bj w ⟨rfl,H⟩
   refine ⟨fun hc=>absurd hc (by decide),fun _=>?_⟩
   refine ⟨fun hc=>absurd hc (by decide),fun _=>?_⟩
   refine ⟨fun hc=>absurd hc (by decide),fun _=>?_⟩
   refine ⟨fun hc=>absurd hc (by decide),fun _=>?_⟩
   refine ⟨fun hc=>absurd hc (by decide),fun _=>?_⟩
   refine ⟨fun b _ w=>b=true/\Sat F w (.own 5 1 ab (0+4+4) kt rt (ob (b32 p.sender++b32 p.media))::.blk b5 4 [.bool true]::.blk b3 42 [.bool false,.int .u8 (cntK p.kind),.int .u8 (typK p.kind),.int .u16 0]::.blk b1 63 (pkC p a7 a8 a9 a10 a13 a14 a15 a16 a18 a24 a25 c7 c8 c9 c10 c13 c14 c15 c16 c18 c24 c25)::ex) R,⟨fun hc=>⟨(by decide),H⟩,fun hc=>⟨(absurd hc (by decide)),H⟩⟩,?_⟩
   clear H;rintro ddj bj w ⟨rfl,H⟩
   refine ⟨fun _=>?_,fun hc=>absurd hc (by decide)⟩
   rw [show cntK p.kind=5 by rw [hk];rfl] at H
   exact ⟨rt,b32 p.sender++b32 p.media,5,true,rfl,H,⟨by decide,by decide⟩,by show 8<=24*p.size+40;omega,fun _=>fm7 hk hF rfl⟩
  ·
   replace H:=H.sub (List.sublist_cons_self _ _) (fun _ h=>h)
   refine ⟨_,(by exact Ce (by exact add_flat _ _ _) H.b2 rfl),?_⟩
   rw [hk]
   refine ⟨fun b _ w=>b=false/\Sat F w (.blk b5 4 [.bool true]::.blk b3 42 [.bool false,.int .u8 (cntK p.kind),.int .u8 (typK p.kind),.int .u16 0]::.blk b1 63 (pkC p a7 a8 a9 a10 a13 a14 a15 a16 a18 a24 a25 c7 c8 c9 c10 c13 c14 c15 c16 c18 c24 c25)::ex) R,⟨fun hc=>⟨(absurd hc (by decide)),H⟩,fun hc=>⟨(by decide),H⟩⟩,?_⟩
   clear H;rintro ddj bj w ⟨rfl,H⟩
   refine ⟨fun hc=>absurd hc (by decide),fun _=>?_⟩
   refine ⟨fun hc=>absurd hc (by decide),fun _=>?_⟩
   refine ⟨fun hc=>absurd hc (by decide),fun _=>?_⟩
   refine ⟨fun hc=>absurd hc (by decide),fun _=>?_⟩
   refine ⟨fun hc=>absurd hc (by decide),fun _=>?_⟩
   refine ⟨fun b _ w=>b=false/\Sat F w (.blk b5 4 [.bool true]::.blk b3 42 [.bool false,.int .u8 (cntK p.kind),.int .u8 (typK p.kind),.int .u16 0]::.blk b1 63 (pkC p a7 a8 a9 a10 a13 a14 a15 a16 a18 a24 a25 c7 c8 c9 c10 c13 c14 c15 c16 c18 c24 c25)::ex) R,⟨fun hc=>⟨(absurd hc (by decide)),H⟩,fun hc=>⟨(by decide),H⟩⟩,?_⟩
   clear H;rintro ddj bj w ⟨rfl,H⟩
   refine ⟨fun hc=>absurd hc (by decide),fun _=>?_⟩
   refine ⟨fun hc=>absurd hc (by decide),fun _=>?_⟩
   refine ⟨fun hc=>absurd hc (by decide),fun _=>?_⟩
   refine ⟨fun hc=>absurd hc (by decide),fun _=>?_⟩
   refine ⟨fun _=>?_,fun hc=>absurd hc (by decide)⟩
   rw [show cntK p.kind=11 by rw [hk];rfl] at H
   have hsz:=hF.sz (by omega)
   unfold Pk.size at hsz
   have hcl:=bsz_len p.blocks
   have hcm:=bsz_mem p.blocks
   have hbl:=wBlo_le p.blocks
   refine ⟨none,?_⟩;replace H:=H.drew;generalize w.drew=w at H ⊢;obtain ⟨F2,ex2,S,back1,back2,hm⟩:=H.regN
   refine ⟨(by exact Option.some_ne_none _),(by exact H.b2.row),_,(by exact Ce (by exact add_flat _ _ _) H.b2 rfl),?_⟩
   refine ⟨(by exact Option.some_ne_none _),(by exact H.b2.row),_,_,_,(by exact Ce (by exact add_flat _ _ _) H.b2 rfl),?_⟩
   clear H;have H:=S;clear S
   refine call_j (c112 (B:=[]) (H.nilOwn 5 1) hF.s (by omega)) ?_
   clear H;rintro _ w ⟨a3,k3,r3,rfl,H⟩
   refine ⟨_,_,_,rfl,(back1 H).1,?_⟩
   replace H:=(back1 H).2;clear back1 back2 hm
   rw [List.nil_append] at H
   refine sSt1 H (by rfl) (by kernel_rfl) (by rfl) (by rfl) ?_;clear H;intro w _ H
   generalize decide (((p.blocks.length:Nat):Int) > (0:Int))=ok0 at H
   refine ⟨_,_,_,(by exact Ce (by exact add_flat _ _ _) H.b3 rfl),?_⟩
   refine ⟨fun b bl bc x q w=>∃(j:Nat) (r:Option Nat) (ok:Bool) (B:List Int),x=(j:Int)/\j+q=p.blocks.length/\bl=B.length/\B.length=4+((p.blocks.take j).flatMap wBlo).length/\(ok=true->B=b32 p.sender++(p.blocks.take j).flatMap wBlo/\∀y∈p.blocks.take j,y.2.2.length<=16384/\∀m∈y.2.2,m.2.1 < 4/\m.2.2 < 8192)/\Sat F w (.own 5 1 b bl bc r (ob (B))::.blk b5 4 [.bool ok]::.blk b3 42 [.bool false,.int .u8 11,.int .u8 (typK p.kind),.int .u16 0]::.blk b1 63 (pkC p a7 a8 a9 a10 a13 a14 a15 a16 a18 a24 a25 c7 c8 c9 c10 c13 c14 c15 c16 c18 c24 c25)::ex) R,⟨p.blocks.length,0,r3,ok0,b32 p.sender,rfl,by omega,rfl,by rw [List.take_zero,List.flatMap_nil];rfl,fun _=>⟨by simp,by simp⟩,H⟩,?_⟩
   clear H;rintro dd3 b bl bc x q w ⟨j,r,ok,B,rfl,hjq,rfl,hBl,hok,H⟩
   refine ⟨fun hc=>?_,fun hc=>?_⟩
   ·rw [decide_eq_true_eq] at hc
    have hjl:j < p.blocks.length:=by omega
    obtain ⟨pp,us,e,hus,hcell,H1⟩:=H.eltF Blo.dat_len' (by decide) m18 (j:=j) hjl
    have htk:p.blocks.take (j+1)=p.blocks.take j++[p.blocks[j]]:=by rw [List.take_add_one,List.getElem?_eq_getElem hjl];rfl
    have hRj:=hF.bls p.blocks[j] (List.getElem_mem hjl)
    have hDm:=hcm p.blocks[j] (List.getElem_mem hjl)
    have hpre:=pre_le wBlo hjl
    rw [wBlo_len] at hpre
    clear H
    generalize p.blocks[j]=D at H1 htk hRj hDm hpre
    obtain ⟨d0,d1,ms⟩:=D
    replace hDm:ms.length<=bsz p.blocks:=hDm
    replace hpre:((p.blocks.take j).flatMap wBlo).length+bLen ms.length<=(p.blocks.flatMap wBlo).length:=hpre
    have hbL:bLen ms.length=8+2*(ms.length+ms.length % 2):=rfl
    obtain ⟨h0,h1,hms⟩:u32R d0/\(0<=d1/\d1 < 65536)/\∀m∈ms,(0<=m.2.1/\m.2.1 < 256)/\0<=m.2.2/\m.2.2 < 65536:=hRj
    refine ⟨pp,e,by omega,by omega,?_⟩
    obtain ⟨x0,us0,rfl,H2⟩:=H1.uncons List.mem_cons_self
    obtain ⟨x1,us1,rfl,H3⟩:=H2.uncons (List.mem_cons_of_mem _ List.mem_cons_self)
    obtain ⟨x2,us2,rfl,H4⟩:=H3.uncons (List.mem_cons_of_mem _ List.mem_cons_self)
    obtain rfl:us2=[]:=by simpa using hus
    obtain rfl:=H2.one1 List.mem_cons_self
    obtain rfl:=H3.one1 List.mem_cons_self
    obtain ⟨sa,sn,sc,rfl,hsl⟩:=H4.rowS List.mem_cons_self
    rw [flat_len Met.dat_len'] at hsl
    obtain rfl:sn=ms.length:=by omega
    refine ⟨_,_,_,_,_,LdC [.int .u32 d0,.int .u16 d1,.slice sa ms.length sc] (by kernel_rfl) (by rw [show (j:Int).toNat*3=j*3 by omega];exact hcell),?_⟩
    have H:Sat F w _ (.deep [.row 3 (ms.flatMap Met.dat)] [.slice sa ms.length sc]::R):=H4.sub (List.Sublist.refl _) (fun r h=>by rcases List.mem_cons.1 h with rfl | h;exact List.mem_cons_self;simp [h])
    clear H1 H2 H3 H4 hcell
    refine sNew H ?_;clear H;intro b4 w _ H
    refine sSw0 H rfl (by kernel_rfl) (by rfl) (by rfl) ?_;clear H;intro w _ H
    refine ⟨fun _ w=>∃ok2:Bool,(ok2=true->ok=true/\ms.length<=16384)/\Sat F w (.blk b4 158 [.int .u32 d0,.int .u16 d1,.slice sa ms.length sc]::.own 5 1 b B.length bc r (ob (B))::.blk b5 4 [.bool ok2]::.blk b3 42 [.bool false,.int .u8 11,.int .u8 (typK p.kind),.int .u16 0]::.blk b1 63 (pkC p a7 a8 a9 a10 a13 a14 a15 a16 a18 a24 a25 c7 c8 c9 c10 c13 c14 c15 c16 c18 c24 c25)::ex) (.deep [.row 3 (ms.flatMap Met.dat)] [.slice sa ms.length sc]::R),?_,?_⟩
    ·refine ⟨_,(by exact Ce (by rfl) H.b2 rfl),?_⟩
     refine ⟨fun h2=>?_,fun h2=>?_⟩
     ·refine ⟨_,_,_,(by exact Ce (by exact add_flat _ _ _) H.b0 rfl),?_⟩
      refine sSt2 H (by rfl) (by kernel_rfl) (by rfl) (by rfl) ?_;clear H;intro w _ H
      exact ⟨decide (((ms.length:Nat):Int)<=(16384:Int)),fun h=>⟨h2,by rw [decide_eq_true_eq] at h;omega⟩,H⟩
     ·refine sSt2 H (by rfl) (by kernel_rfl) (by rfl) (by rfl) ?_;clear H;intro w _ H
      exact ⟨false,(fun h=>(by cases h)),H⟩
    clear H;rintro dd4 w ⟨ok2,hok2,H⟩
    have w1:IntKind.u16.wrap ((ms.length:Nat):Int)=((ms.length % 65536:Nat):Int):=by rw [wu16];omega
    replace H:=H.r1
    refine ⟨r,?_⟩;replace H:=H.drew;generalize w.drew=w at H ⊢;obtain ⟨F2,ex2,S,back1,back2,hm⟩:=H.regO
    refine ⟨(by exact H.ne (by (apply List.mem_cons_of_mem;exact List.mem_cons_self)) (by exact List.mem_cons_self)),(by exact H.b1.row),_,(by exact Ce (by exact add_flat _ _ _) H.b1 rfl),?_⟩
    refine ⟨(by exact H.ne (by (apply List.mem_cons_of_mem;exact List.mem_cons_self)) (by exact List.mem_cons_self)),(by exact H.b1.row),_,(by exact Ce (by exact add_flat _ _ _) H.b1 rfl),?_⟩
    refine ⟨(by exact H.ne (by (apply List.mem_cons_of_mem;exact List.mem_cons_self)) (by exact List.mem_cons_self)),(by exact H.b1.row),_,_,_,(by exact Ce (by exact add_flat _ _ _) H.b1 rfl),?_⟩
    clear H;have H:=S;clear S
    rw [w1]
    refine call_j (c112 H h0 (by omega)) ?_
    clear H;rintro _ w ⟨a4,k4,r4,rfl,H⟩
    refine ⟨_,_,_,rfl,(back1 H).1,?_⟩
    refine call_j (c49 H h1 (by omega)) ?_
    clear H;rintro _ w ⟨a5,k5,r5,rfl,H⟩
    refine ⟨_,_,_,rfl,(back1 H).1,?_⟩
    refine call_j (c49 H (by omega) (by omega)) ?_
    clear H;rintro _ w ⟨a6,k6,r6,rfl,H⟩
    refine ⟨_,_,_,rfl,?_⟩
    replace H:=(back1 H).2;clear back1 back2 hm
    obtain ⟨B0,hB0⟩:∃B0,B0=B++b32 d0++b16 d1++b16 ((ms.length % 65536:Nat):Int):=⟨_,rfl⟩
    rw [<-hB0] at H
    have hB0l:B0.length=B.length+8:=by rw [hB0];simp only [List.length_append,b32_len,b16_len]
    refine ⟨_,_,_,(by exact Ce (by exact add_flat _ _ _) H.b1 rfl),?_⟩
    refine ⟨fun b' bl' bc' x' q' w=>∃(i:Nat) (r':Option Nat) (ok3:Bool) (X:List Int),x'=(i:Int)/\i+q'=ms.length/\bl'=(B0++X).length/\X.length=2*i/\(ok3=true->ok2=true/\X=(ms.take i).flatMap wMet/\∀m∈ms.take i,m.2.1 < 4/\m.2.2 < 8192)/\Sat F w (.own 5 1 b' bl' bc' r' (ob (B0++X))::.blk b4 158 [.int .u32 d0,.int .u16 d1,.slice sa ms.length sc]::.blk b5 4 [.bool ok3]::.blk b3 42 [.bool false,.int .u8 11,.int .u8 (typK p.kind),.int .u16 0]::.blk b1 63 (pkC p a7 a8 a9 a10 a13 a14 a15 a16 a18 a24 a25 c7 c8 c9 c10 c13 c14 c15 c16 c18 c24 c25)::ex) (.deep [.row 3 (ms.flatMap Met.dat)] [.slice sa ms.length sc]::R),⟨ms.length,0,r6,ok2,[],rfl,by omega,by rw [List.append_nil,hB0l],rfl,fun h=>⟨h,by simp,by simp⟩,by rw [List.append_nil];exact H⟩,?_⟩
    clear H;rintro dd5 b' bl' bc' x' q' w ⟨i,r',ok3,X,rfl,hiq,hbl',hXl,hok3,H⟩
    have hbl2:bl'=B0.length+X.length:=by rw [hbl',List.length_append]
    refine ⟨fun hc2=>?_,fun hc2=>?_⟩
    ·rw [decide_eq_true_eq] at hc2
     have hil:i < ms.length:=by omega
     obtain ⟨p2,us,e2',hus2,hcell,H1⟩:=H.eltF Met.dat_len' (by decide) List.mem_cons_self (j:=i) hil
     have htk2:ms.take (i+1)=ms.take i++[ms[i]]:=by rw [List.take_add_one,List.getElem?_eq_getElem hil];rfl
     have hEj:=hms ms[i] (List.getElem_mem hil)
     clear H
     generalize ms[i]=E at H1 htk2 hEj
     obtain ⟨e0,e1,e2⟩:=E
     refine ⟨p2,e2',by omega,by omega,?_⟩
     obtain rfl:=H1.ones (us:=[.bool e0,.int .u8 e1,.int .u16 e2]) List.mem_cons_self
     refine ⟨_,_,_,LdC [.bool e0,.int .u8 e1,.int .u16 e2] (by kernel_rfl) (by rw [show (i:Int).toNat*3=i*3 by omega];exact hcell),?_⟩
     have H:=H1.sub (List.Sublist.refl _) (fun r h=>List.mem_cons_of_mem _ h)
     clear H1 hcell
     refine sNew H ?_;clear H;intro b7 w _ H
     refine sSw0 H rfl (by kernel_rfl) (by rfl) (by rfl) ?_;clear H;intro w _ H
     refine ⟨fun _ w=>∃ok4:Bool,(ok4=true->ok3=true/\e1 < 4/\e2 < 8192)/\Sat F w (.blk b7 160 [.bool e0,.int .u8 e1,.int .u16 e2]::.own 5 1 b' bl' bc' r' (ob (B0++X))::.blk b4 158 [.int .u32 d0,.int .u16 d1,.slice sa ms.length sc]::.blk b5 4 [.bool ok4]::.blk b3 42 [.bool false,.int .u8 11,.int .u8 (typK p.kind),.int .u16 0]::.blk b1 63 (pkC p a7 a8 a9 a10 a13 a14 a15 a16 a18 a24 a25 c7 c8 c9 c10 c13 c14 c15 c16 c18 c24 c25)::ex) (.deep [.row 3 (ms.flatMap Met.dat)] [.slice sa ms.length sc]::R),?_,?_⟩
     ·refine ⟨_,(by exact Ce (by rfl) H.b3 rfl),?_⟩
      refine ⟨fun h2=>?_,fun h2=>?_⟩
      ·refine ⟨_,(by exact Ce (by exact add_flat _ _ _) H.b0 rfl),?_⟩
       refine ⟨fun h3=>?_,fun h3=>?_⟩
       ·refine ⟨_,(by exact Ce (by exact add_flat _ _ _) H.b0 rfl),?_⟩
        refine ⟨fun h4=>?_,fun h4=>?_⟩
        ·rw [decide_eq_true_eq] at h3 h4
         refine ⟨_,(by exact Ce (by exact add_flat _ _ _) H.b0 rfl),?_⟩
         refine ⟨fun h5=>?_,fun h5=>?_⟩
         ·refine sSt3 H (by rfl) (by kernel_rfl) (by rfl) (by rfl) ?_;clear H;intro w _ H
          exact ⟨true,fun _=>⟨h2,h3,h4⟩,H⟩
         ·refine ⟨_,(by exact Ce (by exact add_flat _ _ _) H.b0 rfl),?_⟩
          refine ⟨fun h6=>?_,fun h6=>?_⟩
          ·refine ⟨_,(by exact Ce (by exact add_flat _ _ _) H.b0 rfl),?_⟩
           refine sSt3 H (by rfl) (by kernel_rfl) (by rfl) (by rfl) ?_;clear H;intro w _ H
           exact ⟨e2 == (0:Int),fun _=>⟨h2,h3,h4⟩,H⟩
          ·refine sSt3 H (by rfl) (by kernel_rfl) (by rfl) (by rfl) ?_;clear H;intro w _ H
           exact ⟨false,(fun h=>(by cases h)),H⟩
        ·refine sSt3 H (by rfl) (by kernel_rfl) (by rfl) (by rfl) ?_;clear H;intro w _ H
         exact ⟨false,(fun h=>(by cases h)),H⟩
       ·refine sSt3 H (by rfl) (by kernel_rfl) (by rfl) (by rfl) ?_;clear H;intro w _ H
        exact ⟨false,(fun h=>(by cases h)),H⟩
      ·refine sSt3 H (by rfl) (by kernel_rfl) (by rfl) (by rfl) ?_;clear H;intro w _ H
       exact ⟨false,(fun h=>(by cases h)),H⟩
     clear H;rintro dd6 w ⟨ok4,hok4,H⟩
     refine ⟨_,(by exact Ce (by exact add_flat _ _ _) H.b0 rfl),?_⟩
     refine ⟨_,(by exact Ce (by exact add_flat _ _ _) H.b0 rfl),?_⟩
     refine ⟨_,(by exact Ce (by exact add_flat _ _ _) H.b0 rfl),?_⟩
     refine ⟨fun he=>?_,fun he=>?_⟩
     ·
      have ev:ok4=true->ior .u16 (ior .u16 (ishl .u16 (IntKind.u16.wrap e1) (13:Int)) e2) (32768:Int)=metN (e0,e1,e2):=by
       intro h
       obtain ⟨_,h1,h2⟩:=hok4 h
       rw [he]
       exact met_t ⟨hEj.1.1,h1⟩ ⟨hEj.2.1,h2⟩
      have hvr:0<=ior .u16 (ior .u16 (ishl .u16 (IntKind.u16.wrap e1) (13:Int)) e2) (32768:Int)/\ior .u16 (ior .u16 (ishl .u16 (IntKind.u16.wrap e1) (13:Int)) e2) (32768:Int) < 65536:=ior_u16 _ _
      generalize ior .u16 (ior .u16 (ishl .u16 (IntKind.u16.wrap e1) (13:Int)) e2) (32768:Int)=V at ev hvr ⊢
      replace H:=H.r1
      refine call_j (c49 H hvr (by omega)) ?_
      clear H;rintro _ w ⟨a6,k6,r6,rfl,H⟩
      refine ⟨_,_,_,rfl,?_⟩
      rw [List.append_assoc] at H
      refine ⟨q' - 1,by omega,i+1,r6,ok4,X++b16 V,by rw [wi64_of (by omega) (by omega)];simp,by omega,by rw [hbl',List.length_append,List.length_append,List.length_append,b16_len];omega,by rw [List.length_append,b16_len];omega,fun h=>?_,H.sub (by repeat (first | exact List.Sublist.refl _ | apply List.Sublist.cons_cons | apply List.Sublist.cons)) (fun r h=>h)⟩
      obtain ⟨h0,h1⟩:=hok4 h
      obtain ⟨h2,h3,h4⟩:=hok3 h0
      refine ⟨h2,?_,?_⟩
      ·rw [h3,htk2,List.flatMap_append,ev h]
       simp only [List.flatMap_cons,List.flatMap_nil,List.append_nil]
       rfl
      ·rw [htk2]
       intro y hy
       rcases List.mem_append.1 hy with hy | hy
       ·exact h4 y hy
       ·rw [List.mem_singleton.1 hy];exact h1

     ·
      have ev:ok4=true->ior .u16 (ishl .u16 (IntKind.u16.wrap e1) (13:Int)) e2=metN (e0,e1,e2):=by
       intro h
       obtain ⟨_,h1,h2⟩:=hok4 h
       rw [he]
       exact met_f ⟨hEj.1.1,h1⟩ ⟨hEj.2.1,h2⟩
      have hvr:0<=ior .u16 (ishl .u16 (IntKind.u16.wrap e1) (13:Int)) e2/\ior .u16 (ishl .u16 (IntKind.u16.wrap e1) (13:Int)) e2 < 65536:=ior_u16 _ _
      generalize ior .u16 (ishl .u16 (IntKind.u16.wrap e1) (13:Int)) e2=V at ev hvr ⊢
      replace H:=H.r1
      refine call_j (c49 H hvr (by omega)) ?_
      clear H;rintro _ w ⟨a6,k6,r6,rfl,H⟩
      refine ⟨_,_,_,rfl,?_⟩
      rw [List.append_assoc] at H
      refine ⟨q' - 1,by omega,i+1,r6,ok4,X++b16 V,by rw [wi64_of (by omega) (by omega)];simp,by omega,by rw [hbl',List.length_append,List.length_append,List.length_append,b16_len];omega,by rw [List.length_append,b16_len];omega,fun h=>?_,H.sub (by repeat (first | exact List.Sublist.refl _ | apply List.Sublist.cons_cons | apply List.Sublist.cons)) (fun r h=>h)⟩
      obtain ⟨h0,h1⟩:=hok4 h
      obtain ⟨h2,h3,h4⟩:=hok3 h0
      refine ⟨h2,?_,?_⟩
      ·rw [h3,htk2,List.flatMap_append,ev h]
       simp only [List.flatMap_cons,List.flatMap_nil,List.append_nil]
       rfl
      ·rw [htk2]
       intro y hy
       rcases List.mem_append.1 hy with hy | hy
       ·exact h4 y hy
       ·rw [List.mem_singleton.1 hy];exact h1

    rw [decide_eq_false_iff_not] at hc2
    obtain rfl:i=ms.length:=by omega
    rw [List.take_length] at hok3
    refine call_j (c114 H (by omega)) ?_
    clear H;rintro _ w ⟨a8,k8,r8,rfl,H⟩
    refine ⟨_,_,_,rfl,?_⟩
    have h4:=wBlo_4 (p.blocks.take j)
    have hpad:pad4 bl'=2*(ms.length % 2):=by unfold pad4;omega
    have hl:bl'+pad4 bl'=(B0++X++List.replicate (pad4 bl') 0).length:=by rw [List.length_append,List.length_append,List.length_replicate];omega
    refine ⟨q - 1,by omega,j+1,r8,ok3,_,by rw [wi64_of (by omega) (by omega)];simp,by omega,hl,?_,fun h=>?_,H.sub (by repeat (first | exact List.Sublist.refl _ | apply List.Sublist.cons_cons | apply List.Sublist.cons)) (fun r h=>List.mem_cons_of_mem _ h)⟩
    ·rw [<-hl,htk,List.flatMap_append,List.length_append]
     simp only [List.flatMap_cons,List.flatMap_nil,List.append_nil]
     rw [wBlo_len]
     show _=4+(_+bLen ms.length)
     omega
    ·obtain ⟨h2,h3,h5⟩:=hok3 h
     obtain ⟨h6,h7⟩:=hok2 h2
     obtain ⟨h8,h9⟩:=hok h6
     refine ⟨?_,?_⟩
     ·rw [hpad,hB0,h8,h3,htk,List.flatMap_append,Nat.mod_eq_of_lt (show ms.length < 65536 by omega)]
      simp only [List.flatMap_cons,List.flatMap_nil,List.append_nil,wBlo,List.append_assoc]
     ·rw [htk]
      intro y hy
      rcases List.mem_append.1 hy with hy | hy
      ·exact h9 y hy
      ·rw [List.mem_singleton.1 hy];exact ⟨h7,h5⟩
   rw [decide_eq_false_iff_not] at hc
   obtain rfl:j=p.blocks.length:=by omega
   rw [List.take_length] at hBl hok
   refine ⟨_,(by exact Ce (by exact add_flat _ _ _) H.b3 rfl),?_⟩
   refine call_j (c112 H hF.tim (by omega)) ?_
   clear H;rintro _ w ⟨a8,k8,r8,rfl,H⟩
   refine ⟨_,_,_,rfl,?_⟩
   exact ⟨r8,B++b32 p.time,11,ok,by rw [List.length_append];rfl,H,⟨by decide,by decide⟩,by rw [List.length_append,b32_len];omega,fun h=>fm8 hk hF (by rw [(hok h).1]) (hok h).2⟩
  ·
   refine ⟨_,(by exact Ce (by exact add_flat _ _ _) H.b3 rfl),?_⟩
   rw [hk]
   refine ⟨fun b _ w=>b=false/\Sat F w (.own 5 1 ab (0+4+4) kt rt (ob (b32 p.sender++b32 p.media))::.blk b5 4 [.bool true]::.blk b3 42 [.bool false,.int .u8 (cntK p.kind),.int .u8 (typK p.kind),.int .u16 0]::.blk b1 63 (pkC p a7 a8 a9 a10 a13 a14 a15 a16 a18 a24 a25 c7 c8 c9 c10 c13 c14 c15 c16 c18 c24 c25)::ex) R,⟨fun hc=>⟨(absurd hc (by decide)),H⟩,fun hc=>⟨(by decide),H⟩⟩,?_⟩
   clear H;rintro ddj bj w ⟨rfl,H⟩
   refine ⟨fun hc=>absurd hc (by decide),fun _=>?_⟩
   refine ⟨fun hc=>absurd hc (by decide),fun _=>?_⟩
   refine ⟨fun hc=>absurd hc (by decide),fun _=>?_⟩
   refine ⟨fun hc=>absurd hc (by decide),fun _=>?_⟩
   refine ⟨fun hc=>absurd hc (by decide),fun _=>?_⟩
   refine ⟨fun b _ w=>b=true/\Sat F w (.own 5 1 ab (0+4+4) kt rt (ob (b32 p.sender++b32 p.media))::.blk b5 4 [.bool true]::.blk b3 42 [.bool false,.int .u8 (cntK p.kind),.int .u8 (typK p.kind),.int .u16 0]::.blk b1 63 (pkC p a7 a8 a9 a10 a13 a14 a15 a16 a18 a24 a25 c7 c8 c9 c10 c13 c14 c15 c16 c18 c24 c25)::ex) R,⟨fun hc=>⟨(absurd hc (by decide)),H⟩,fun hc=>⟨(by decide),H⟩⟩,?_⟩
   clear H;rintro ddj bj w ⟨rfl,H⟩
   refine ⟨fun _=>?_,fun hc=>absurd hc (by decide)⟩
   rw [show cntK p.kind=1 by rw [hk];rfl] at H
   exact ⟨rt,b32 p.sender++b32 p.media,1,true,rfl,H,⟨by decide,by decide⟩,by show 8<=24*p.size+40;omega,fun _=>fm9 hk hF rfl⟩
  ·
   refine ⟨_,(by exact Ce (by exact add_flat _ _ _) H.b3 rfl),?_⟩
   rw [hk]
   refine ⟨fun b _ w=>b=false/\Sat F w (.own 5 1 ab (0+4+4) kt rt (ob (b32 p.sender++b32 p.media))::.blk b5 4 [.bool true]::.blk b3 42 [.bool false,.int .u8 (cntK p.kind),.int .u8 (typK p.kind),.int .u16 0]::.blk b1 63 (pkC p a7 a8 a9 a10 a13 a14 a15 a16 a18 a24 a25 c7 c8 c9 c10 c13 c14 c15 c16 c18 c24 c25)::ex) R,⟨fun hc=>⟨(absurd hc (by decide)),H⟩,fun hc=>⟨(by decide),H⟩⟩,?_⟩
   clear H;rintro ddj bj w ⟨rfl,H⟩
   refine ⟨fun hc=>absurd hc (by decide),fun _=>?_⟩
   refine ⟨fun hc=>absurd hc (by decide),fun _=>?_⟩
   refine ⟨fun hc=>absurd hc (by decide),fun _=>?_⟩
   refine ⟨fun hc=>absurd hc (by decide),fun _=>?_⟩
   refine ⟨fun hc=>absurd hc (by decide),fun _=>?_⟩
   refine ⟨fun b _ w=>b=false/\Sat F w (.own 5 1 ab (0+4+4) kt rt (ob (b32 p.sender++b32 p.media))::.blk b5 4 [.bool true]::.blk b3 42 [.bool false,.int .u8 (cntK p.kind),.int .u8 (typK p.kind),.int .u16 0]::.blk b1 63 (pkC p a7 a8 a9 a10 a13 a14 a15 a16 a18 a24 a25 c7 c8 c9 c10 c13 c14 c15 c16 c18 c24 c25)::ex) R,⟨fun hc=>⟨(absurd hc (by decide)),H⟩,fun hc=>⟨(by decide),H⟩⟩,?_⟩
   clear H;rintro ddj bj w ⟨rfl,H⟩
   refine ⟨fun hc=>absurd hc (by decide),fun _=>?_⟩
   refine ⟨fun _=>?_,fun hc=>absurd hc (by decide)⟩
   rw [show cntK p.kind=2 by rw [hk];rfl] at H
   have hsz:=hF.sz (by omega)
   unfold Pk.size at hsz
   refine ⟨fun b bl bc _ w=>∃(r:Option Nat) (ok:Bool),bl=8/\(ok=true->p.slices.length<=253)/\Sat F w (.own 5 1 b bl bc r (ob (b32 p.sender++b32 p.media))::.blk b5 4 [.bool ok]::.blk b3 42 [.bool false,.int .u8 2,.int .u8 (typK p.kind),.int .u16 0]::.blk b1 63 (pkC p a7 a8 a9 a10 a13 a14 a15 a16 a18 a24 a25 c7 c8 c9 c10 c13 c14 c15 c16 c18 c24 c25)::ex) R,?_,?_⟩
   ·replace H:=H.drew;generalize w.drew=w at H ⊢
    refine ⟨_,_,_,(by exact Ce (by exact add_flat _ _ _) H.b3 rfl),?_⟩
    refine ⟨fun hc=>?_,fun hc=>?_⟩
    ·refine ⟨_,_,_,(by exact Ce (by exact add_flat _ _ _) H.b3 rfl),?_⟩
     refine sSt1 H (by rfl) (by kernel_rfl) (by rfl) (by rfl) ?_;clear H;intro w _ H
     exact ⟨rt,_,rfl,fun h=>by rw [decide_eq_true_eq] at h;omega,H⟩
    ·refine sSt1 H (by rfl) (by kernel_rfl) (by rfl) (by rfl) ?_;clear H;intro w _ H
     exact ⟨rt,false,rfl,(fun h=>(by cases h)),H⟩
   clear H;rintro dd2 b bl bc w ⟨r,ok1,rfl,hok1,H⟩
   refine ⟨_,_,_,(by exact Ce (by exact add_flat _ _ _) H.b3 rfl),?_⟩
   refine ⟨fun b bl bc x q w=>∃(j:Nat) (r:Option Nat) (ok:Bool) (B:List Int),x=(j:Int)/\j+q=p.slices.length/\bl=B.length/\B.length=8+4*j/\(ok=true->ok1=true/\B=b32 p.sender++b32 p.media++(p.slices.take j).flatMap wSli/\∀x∈p.slices.take j,x.1 < 8192/\x.2.1 < 8192/\x.2.2 < 64)/\Sat F w (.own 5 1 b bl bc r (ob (B))::.blk b5 4 [.bool ok]::.blk b3 42 [.bool false,.int .u8 2,.int .u8 (typK p.kind),.int .u16 0]::.blk b1 63 (pkC p a7 a8 a9 a10 a13 a14 a15 a16 a18 a24 a25 c7 c8 c9 c10 c13 c14 c15 c16 c18 c24 c25)::ex) R,⟨p.slices.length,0,r,ok1,b32 p.sender++b32 p.media,rfl,by omega,rfl,rfl,fun h=>⟨h,by simp,by simp⟩,H⟩,?_⟩
   clear H;rintro dd3 b bl bc x q w ⟨j,r,ok,B,rfl,hjq,rfl,hBl,hok,H⟩
   refine ⟨fun hc=>?_,fun hc=>?_⟩
   ·rw [decide_eq_true_eq] at hc
    have hjl:j < p.slices.length:=by omega
    obtain ⟨pp,us,e,hus,hcell,H1⟩:=H.eltF Sli.dat_lenK (by decide) m15 (j:=j) hjl
    have htk:p.slices.take (j+1)=p.slices.take j++[p.slices[j]]:=by rw [List.take_add_one,List.getElem?_eq_getElem hjl];rfl
    have hRj:=hF.sls p.slices[j] (List.getElem_mem hjl)
    clear H
    generalize p.slices[j]=D at H1 htk hRj
    obtain ⟨e0,e1,e2⟩:=D
    refine ⟨pp,e,by omega,by omega,?_⟩
    obtain rfl:=H1.ones (us:=[.int .u16 e0,.int .u16 e1,.int .u8 e2]) List.mem_cons_self
    refine ⟨_,_,_,LdC [.int .u16 e0,.int .u16 e1,.int .u8 e2] (by kernel_rfl) (by rw [show (j:Int).toNat*3=j*3 by omega];exact hcell),?_⟩
    have H:=H1.sub (List.Sublist.refl _) (fun r h=>List.mem_cons_of_mem _ h)
    clear H1 hcell
    refine sNew H ?_;clear H;intro b4 w _ H
    refine sSw0 H rfl (by kernel_rfl) (by rfl) (by rfl) ?_;clear H;intro w _ H
    refine ⟨fun _ w=>∃ok2:Bool,(ok2=true->ok=true/\e0 < 8192/\e1 < 8192/\e2 < 64)/\Sat F w (.blk b4 153 [.int .u16 e0,.int .u16 e1,.int .u8 e2]::.own 5 1 b B.length bc r (ob (B))::.blk b5 4 [.bool ok2]::.blk b3 42 [.bool false,.int .u8 2,.int .u8 (typK p.kind),.int .u16 0]::.blk b1 63 (pkC p a7 a8 a9 a10 a13 a14 a15 a16 a18 a24 a25 c7 c8 c9 c10 c13 c14 c15 c16 c18 c24 c25)::ex) R,?_,?_⟩
    ·refine ⟨_,(by exact Ce (by rfl) H.b2 rfl),?_⟩
     refine ⟨fun h1=>?_,fun h1=>?_⟩
     ·refine ⟨_,(by exact Ce (by exact add_flat _ _ _) H.b0 rfl),?_⟩
      refine ⟨fun h2=>?_,fun h2=>?_⟩
      ·refine ⟨_,(by exact Ce (by exact add_flat _ _ _) H.b0 rfl),?_⟩
       refine ⟨fun h3=>?_,fun h3=>?_⟩
       ·refine ⟨_,(by exact Ce (by exact add_flat _ _ _) H.b0 rfl),?_⟩
        refine sSt2 H (by rfl) (by kernel_rfl) (by rfl) (by rfl) ?_;clear H;intro w _ H
        exact ⟨_,fun h=>⟨h1,by rw [decide_eq_true_eq] at h2;exact h2,by rw [decide_eq_true_eq] at h3;exact h3,by rw [decide_eq_true_eq] at h;exact h⟩,H⟩
       ·refine sSt2 H (by rfl) (by kernel_rfl) (by rfl) (by rfl) ?_;clear H;intro w _ H
        exact ⟨false,(fun h=>(by cases h)),H⟩
      ·refine sSt2 H (by rfl) (by kernel_rfl) (by rfl) (by rfl) ?_;clear H;intro w _ H
       exact ⟨false,(fun h=>(by cases h)),H⟩
     ·refine sSt2 H (by rfl) (by kernel_rfl) (by rfl) (by rfl) ?_;clear H;intro w _ H
      exact ⟨false,(fun h=>(by cases h)),H⟩
    clear H;rintro dd4 w ⟨ok2,hok2,H⟩
    refine ⟨_,(by exact Ce (by exact add_flat _ _ _) H.b0 rfl),?_⟩
    refine ⟨_,(by exact Ce (by exact add_flat _ _ _) H.b0 rfl),?_⟩
    refine ⟨_,(by exact Ce (by exact add_flat _ _ _) H.b0 rfl),?_⟩
    have ev:ok2=true->ior .u32 (ior .u32 (ishl .u32 (IntKind.u32.wrap e0) (19:Int)) (ishl .u32 (IntKind.u32.wrap e1) (6:Int))) (IntKind.u32.wrap e2)=e0*524288+e1*64+e2:=by
     intro h
     obtain ⟨_,h0,h1,h2⟩:=hok2 h
     exact sli_w ⟨hRj.1.1,h0⟩ ⟨hRj.2.1.1,h1⟩ ⟨hRj.2.2.1,h2⟩
    have hvr:=ior_u32 (ior .u32 (ishl .u32 (IntKind.u32.wrap e0) (19:Int)) (ishl .u32 (IntKind.u32.wrap e1) (6:Int))) (IntKind.u32.wrap e2)
    generalize ior .u32 (ior .u32 (ishl .u32 (IntKind.u32.wrap e0) (19:Int)) (ishl .u32 (IntKind.u32.wrap e1) (6:Int))) (IntKind.u32.wrap e2)=V at ev hvr ⊢
    replace H:=H.r1
    refine call_j (c112 H hvr (by omega)) ?_
    clear H;rintro _ w ⟨a6,k6,r6,rfl,H⟩
    refine ⟨_,_,_,rfl,?_⟩
    refine ⟨q - 1,by omega,j+1,r6,ok2,B++b32 V,by rw [wi64_of (by omega) (by omega)];simp,by omega,by rw [List.length_append];rfl,by rw [List.length_append,b32_len];omega,fun h=>?_,H.sub (by repeat (first | exact List.Sublist.refl _ | apply List.Sublist.cons_cons | apply List.Sublist.cons)) (fun r h=>h)⟩
    obtain ⟨h0,h1⟩:=hok2 h
    obtain ⟨h2,h3,h4⟩:=hok h0
    refine ⟨h2,?_,?_⟩
    ·rw [h3,htk,List.flatMap_append,ev h,List.append_assoc]
     simp only [List.flatMap_cons,List.flatMap_nil,List.append_nil]
     rfl
    ·rw [htk]
     intro y hy
     rcases List.mem_append.1 hy with hy | hy
     ·exact h4 y hy
     ·rw [List.mem_singleton.1 hy];exact h1
   rw [decide_eq_false_iff_not] at hc
   obtain rfl:j=p.slices.length:=by omega
   rw [List.take_length] at hok
   exact ⟨r,B,2,ok,rfl,H,⟨by decide,by decide⟩,by omega,fun h=>fm10 hk hF (hok h).2.1 (hok1 (hok h).1) (hok h).2.2⟩
  ·
   refine ⟨_,(by exact Ce (by exact add_flat _ _ _) H.b3 rfl),?_⟩
   rw [hk]
   refine ⟨fun b _ w=>b=false/\Sat F w (.own 5 1 ab (0+4+4) kt rt (ob (b32 p.sender++b32 p.media))::.blk b5 4 [.bool true]::.blk b3 42 [.bool false,.int .u8 (cntK p.kind),.int .u8 (typK p.kind),.int .u16 0]::.blk b1 63 (pkC p a7 a8 a9 a10 a13 a14 a15 a16 a18 a24 a25 c7 c8 c9 c10 c13 c14 c15 c16 c18 c24 c25)::ex) R,⟨fun hc=>⟨(absurd hc (by decide)),H⟩,fun hc=>⟨(by decide),H⟩⟩,?_⟩
   clear H;rintro ddj bj w ⟨rfl,H⟩
   refine ⟨fun hc=>absurd hc (by decide),fun _=>?_⟩
   refine ⟨fun hc=>absurd hc (by decide),fun _=>?_⟩
   refine ⟨fun hc=>absurd hc (by decide),fun _=>?_⟩
   refine ⟨fun hc=>absurd hc (by decide),fun _=>?_⟩
   refine ⟨fun hc=>absurd hc (by decide),fun _=>?_⟩
   refine ⟨fun b _ w=>b=false/\Sat F w (.own 5 1 ab (0+4+4) kt rt (ob (b32 p.sender++b32 p.media))::.blk b5 4 [.bool true]::.blk b3 42 [.bool false,.int .u8 (cntK p.kind),.int .u8 (typK p.kind),.int .u16 0]::.blk b1 63 (pkC p a7 a8 a9 a10 a13 a14 a15 a16 a18 a24 a25 c7 c8 c9 c10 c13 c14 c15 c16 c18 c24 c25)::ex) R,⟨fun hc=>⟨(absurd hc (by decide)),H⟩,fun hc=>⟨(by decide),H⟩⟩,?_⟩
   clear H;rintro ddj bj w ⟨rfl,H⟩
   refine ⟨fun hc=>absurd hc (by decide),fun _=>?_⟩
   refine ⟨fun hc=>absurd hc (by decide),fun _=>?_⟩
   refine ⟨fun _=>?_,fun hc=>absurd hc (by decide)⟩
   rw [show cntK p.kind=4 by rw [hk];rfl] at H
   have hsz:=hF.sz (by omega)
   unfold Pk.size at hsz
   replace H:=H.drew;generalize w.drew=w at H ⊢
   refine ⟨_,_,_,(by exact Ce (by exact add_flat _ _ _) H.b3 rfl),?_⟩
   refine sSt1 H (by rfl) (by kernel_rfl) (by rfl) (by rfl) ?_;clear H;intro w _ H
   generalize decide (((p.entries.length:Nat):Int) > (0:Int))=ok1 at H
   refine ⟨_,_,_,(by exact Ce (by exact add_flat _ _ _) H.b3 rfl),?_⟩
   refine ⟨fun b bl bc x q w=>∃(j:Nat) (r:Option Nat),x=(j:Int)/\j+q=p.entries.length/\bl=8+8*j/\Sat F w (.own 5 1 b bl bc r (ob (b32 p.sender++b32 p.media++(p.entries.take j).flatMap wEnt))::.blk b5 4 [.bool ok1]::.blk b3 42 [.bool false,.int .u8 4,.int .u8 (typK p.kind),.int .u16 0]::.blk b1 63 (pkC p a7 a8 a9 a10 a13 a14 a15 a16 a18 a24 a25 c7 c8 c9 c10 c13 c14 c15 c16 c18 c24 c25)::ex) R,⟨p.entries.length,0,rt,rfl,by omega,rfl,by rw [List.take_zero,List.flatMap_nil,List.append_nil];exact H⟩,?_⟩
   clear H;rintro dd3 b bl bc x q w ⟨j,r,rfl,hjq,rfl,H⟩
   refine ⟨fun hc=>?_,fun hc=>?_⟩
   ·rw [decide_eq_true_eq] at hc
    have hjl:j < p.entries.length:=by omega
    obtain ⟨pp,us,e,hus,hcell,H1⟩:=H.eltF Ent.dat_lenK (by decide) m16 (j:=j) hjl
    have htk:p.entries.take (j+1)=p.entries.take j++[p.entries[j]]:=by rw [List.take_add_one,List.getElem?_eq_getElem hjl];rfl
    have hRj:=hF.ens p.entries[j] (List.getElem_mem hjl)
    clear H
    generalize p.entries[j]=D at H1 htk hRj
    obtain ⟨e0,e1⟩:=D
    refine ⟨pp,e,by omega,by omega,?_⟩
    obtain rfl:=H1.ones (us:=[.int .u32 e0,.int .u8 e1]) List.mem_cons_self
    refine ⟨_,_,LdC [.int .u32 e0,.int .u8 e1] (by kernel_rfl) (by rw [show (j:Int).toNat*2=j*2 by omega];exact hcell),?_⟩
    have H:=H1.sub (List.Sublist.refl _) (fun r h=>List.mem_cons_of_mem _ h)
    clear H1 hcell
    refine sNew H ?_;clear H;intro b4 w _ H
    refine sSw0 H rfl (by kernel_rfl) (by rfl) (by rfl) ?_;clear H;intro w _ H
    replace H:=H.r1
    refine ⟨r,?_⟩;replace H:=H.drew;generalize w.drew=w at H ⊢;obtain ⟨F2,ex2,S,back1,back2,hm⟩:=H.regO
    refine ⟨(by exact H.ne (by (apply List.mem_cons_of_mem;exact List.mem_cons_self)) (by exact List.mem_cons_self)),(by exact H.b1.row),_,(by exact Ce (by exact add_flat _ _ _) H.b1 rfl),?_⟩
    refine ⟨(by exact H.ne (by (apply List.mem_cons_of_mem;exact List.mem_cons_self)) (by exact List.mem_cons_self)),(by exact H.b1.row),_,(by exact Ce (by exact add_flat _ _ _) H.b1 rfl),?_⟩
    clear H;have H:=S;clear S
    refine ⟨?_,?_⟩
    ·refine call_j (c112 H hRj (by omega)) ?_
     clear H;rintro _ w ⟨a5,k5,r5,rfl,H⟩
     refine ⟨_,_,_,rfl,(back1 H).1,?_⟩
     refine sNew H ?_;clear H;intro b6 w _ H
     refine ⟨(back2 H).1,?_⟩
     refine sApp1 H (bytes:=1) (by kernel_rfl) [.int .u8 e1,.int .u8 0,.int .u8 0,.int .u8 0] (ob [e1,0,0,0]) (by rfl) (fun j u hu=>by rw [add_flat,Nat.zero_add];exact H.b0.cell hu) (fun G h=>DeepL.ones [_,_,_,_]) (by simp [Value.oneCell']) (by unfold maxLen;omega) (by omega) ?_
     clear H;intro a6 n6 k6 r6 w hn6 _ H
     replace H:=(back2 H).2;clear back1 back2 hm
     rw [<-ob_append] at H
     refine ⟨q - 1,by omega,j+1,r6,by rw [wi64_of (by omega) (by omega)];simp,by omega,by omega,?_⟩
     rw [htk,List.flatMap_append]
     simp only [List.flatMap_cons,List.flatMap_nil,List.append_nil]
     have e:b32 p.sender++b32 p.media++(p.entries.take j).flatMap wEnt++b32 e0++[e1,0,0,0]=b32 p.sender++b32 p.media++((p.entries.take j).flatMap wEnt++wEnt (e0,e1)):=by simp only [List.append_assoc,wEnt]
     rw [e] at H
     exact H.sub (by repeat (first | exact List.Sublist.refl _ | apply List.Sublist.cons_cons | apply List.Sublist.cons)) (fun r h=>h)

    ·refine sNew H ?_;clear H;intro b6 w _ H
     refine ⟨(back2 H).1,?_⟩
     replace H:=H.r1
     refine call_j (c112 H hRj (by omega)) ?_
     clear H;rintro _ w ⟨a5,k5,r5,rfl,H⟩
     refine ⟨_,_,_,rfl,(back2 H).1,?_⟩
     replace H:=H.u1
     refine sApp1 H (bytes:=1) (by kernel_rfl) [.int .u8 e1,.int .u8 0,.int .u8 0,.int .u8 0] (ob [e1,0,0,0]) (by rfl) (fun j u hu=>by rw [add_flat,Nat.zero_add];exact H.b0.cell hu) (fun G h=>DeepL.ones [_,_,_,_]) (by simp [Value.oneCell']) (by unfold maxLen;omega) (by omega) ?_
     clear H;intro a6 n6 k6 r6 w hn6 _ H
     replace H:=(back2 H).2;clear back1 back2 hm
     rw [<-ob_append] at H
     refine ⟨q - 1,by omega,j+1,r6,by rw [wi64_of (by omega) (by omega)];simp,by omega,by omega,?_⟩
     rw [htk,List.flatMap_append]
     simp only [List.flatMap_cons,List.flatMap_nil,List.append_nil]
     have e:b32 p.sender++b32 p.media++(p.entries.take j).flatMap wEnt++b32 e0++[e1,0,0,0]=b32 p.sender++b32 p.media++((p.entries.take j).flatMap wEnt++wEnt (e0,e1)):=by simp only [List.append_assoc,wEnt]
     rw [e] at H
     exact H.sub (by repeat (first | exact List.Sublist.refl _ | apply List.Sublist.cons_cons | apply List.Sublist.cons)) (fun r h=>h)

   rw [decide_eq_false_iff_not] at hc
   obtain rfl:j=p.entries.length:=by omega
   rw [List.take_length] at H
   exact ⟨r,_,4,ok1,by rw [List.length_append,flat_bd wEnt_len];rfl,H,⟨by decide,by decide⟩,by rw [List.length_append,flat_bd wEnt_len];show 8+_<=_;omega,fun h=>fm11 hk hF rfl⟩
  ·
   replace H:=H.sub (List.sublist_cons_self _ _) (fun _ h=>h)
   refine ⟨_,(by exact Ce (by exact add_flat _ _ _) H.b2 rfl),?_⟩
   rw [hk]
   refine ⟨fun b _ w=>b=false/\Sat F w (.blk b5 4 [.bool true]::.blk b3 42 [.bool false,.int .u8 (cntK p.kind),.int .u8 (typK p.kind),.int .u16 0]::.blk b1 63 (pkC p a7 a8 a9 a10 a13 a14 a15 a16 a18 a24 a25 c7 c8 c9 c10 c13 c14 c15 c16 c18 c24 c25)::ex) R,⟨fun hc=>⟨(absurd hc (by decide)),H⟩,fun hc=>⟨(by decide),H⟩⟩,?_⟩
   clear H;rintro ddj bj w ⟨rfl,H⟩
   refine ⟨fun hc=>absurd hc (by decide),fun _=>?_⟩
   refine ⟨fun hc=>absurd hc (by decide),fun _=>?_⟩
   refine ⟨fun hc=>absurd hc (by decide),fun _=>?_⟩
   refine ⟨fun hc=>absurd hc (by decide),fun _=>?_⟩
   refine ⟨fun hc=>absurd hc (by decide),fun _=>?_⟩
   refine ⟨fun b _ w=>b=false/\Sat F w (.blk b5 4 [.bool true]::.blk b3 42 [.bool false,.int .u8 (cntK p.kind),.int .u8 (typK p.kind),.int .u16 0]::.blk b1 63 (pkC p a7 a8 a9 a10 a13 a14 a15 a16 a18 a24 a25 c7 c8 c9 c10 c13 c14 c15 c16 c18 c24 c25)::ex) R,⟨fun hc=>⟨(absurd hc (by decide)),H⟩,fun hc=>⟨(by decide),H⟩⟩,?_⟩
   clear H;rintro ddj bj w ⟨rfl,H⟩
   refine ⟨fun hc=>absurd hc (by decide),fun _=>?_⟩
   refine ⟨fun hc=>absurd hc (by decide),fun _=>?_⟩
   refine ⟨fun hc=>absurd hc (by decide),fun _=>?_⟩
   refine ⟨fun _=>?_,fun hc=>absurd hc (by decide)⟩
   rw [show cntK p.kind=15 by rw [hk];rfl] at H
   have hsz:=hF.sz (by omega)
   unfold Pk.size at hsz
   obtain ⟨m,i,h0,h1,hi',hb⟩:=hF.bits hk
   obtain ⟨hE,hM⟩:=br_rng h0 h1 hi'
   refine ⟨_,(by exact Ce (by exact add_flat _ _ _) H.b2 rfl),?_⟩
   rw [hb]
   refine call_j (c115 h0 h1 hi') ?_
   rintro _ w' ⟨rfl,rfl⟩
   refine ⟨_,_,rfl,?_⟩
   rw [<-hb] at hE hM ⊢
   clear hb
   obtain ⟨v,hv⟩:∃v,v=brE p.bits*262144+brM p.bits:=⟨_,rfl⟩
   rw [<-hv]
   have w1:IntKind.u8.wrap ((p.sources.length:Nat):Int)=((p.sources.length % 256:Nat):Int):=by rw [wu8];omega
   have w2:IntKind.u8.wrap (ishr .u32 v (16:Int))=v / 65536 % 256:=by rw [ishr_of (b:=(16:Int)) 16 (by rfl) (by decide),wu8];rfl
   have w3:IntKind.u8.wrap (ishr .u32 v (8:Int))=v / 256 % 256:=by rw [ishr_of (b:=(8:Int)) 8 (by rfl) (by decide),wu8];rfl
   have w4:IntKind.u8.wrap v=v % 256:=wu8 _
   obtain ⟨PRE,hPRE⟩:∃PRE:List Int,PRE=b32 p.sender++b32 0++[82,69,77,66,((p.sources.length % 256:Nat):Int),v / 65536 % 256,v / 256 % 256,v % 256]:=⟨_,rfl⟩
   have hPl:PRE.length=16:=by rw [hPRE];rfl
   refine ⟨fun b bl bc _ w=>∃(r:Option Nat) (ok:Bool),bl=16/\(ok=true->p.sources.length<=255)/\Sat F w (.own 5 1 b bl bc r (ob (PRE))::.blk b5 4 [.bool ok]::.blk b3 42 [.bool false,.int .u8 15,.int .u8 (typK p.kind),.int .u16 0]::.blk b1 63 (pkC p a7 a8 a9 a10 a13 a14 a15 a16 a18 a24 a25 c7 c8 c9 c10 c13 c14 c15 c16 c18 c24 c25)::ex) R,?_,?_⟩
   ·rw [hPRE]
    refine ⟨none,?_⟩;replace H:=H.drew;generalize w.drew=w at H ⊢;obtain ⟨F2,ex2,S,back1,back2,hm⟩:=H.regN
    refine ⟨(by exact Option.some_ne_none _),(by exact H.b2.row),_,(by exact Ce (by exact add_flat _ _ _) H.b2 rfl),?_⟩
    refine ⟨(by exact Option.some_ne_none _),(by exact H.b2.row),_,_,_,(by exact Ce (by exact add_flat _ _ _) H.b2 rfl),?_⟩
    clear H;have H:=S;clear S
    rw [w1,w2,w3,w4]
    refine ⟨?_,?_⟩
    ·refine call_j (c112 (B:=[]) (H.nilOwn 5 1) hF.s (by omega)) ?_
     clear H;rintro _ w ⟨a4,k4,r4,rfl,H⟩
     refine ⟨_,_,_,rfl,(back1 H).1,?_⟩
     rw [List.nil_append] at H
     refine ⟨?_,?_⟩
     ·refine call_j (c112 H (by decide) (by omega)) ?_
      clear H;rintro _ w ⟨a5,k5,r5,rfl,H⟩
      refine ⟨_,_,_,rfl,(back1 H).1,?_⟩
      refine sNew H ?_;clear H;intro b6 w _ H
      refine ⟨(back2 H).1,?_⟩
      refine sApp1 H (bytes:=1) (by kernel_rfl) [.int .u8 82,.int .u8 69,.int .u8 77,.int .u8 66,.int .u8 ((p.sources.length % 256:Nat):Int),.int .u8 (v / 65536 % 256),.int .u8 (v / 256 % 256),.int .u8 (v % 256)] (ob [82,69,77,66,((p.sources.length % 256:Nat):Int),(v / 65536 % 256),(v / 256 % 256),(v % 256)]) (by rfl) (fun j u hu=>by rw [add_flat,Nat.zero_add];exact H.b0.cell hu) (fun G h=>DeepL.ones [_,_,_,_,_,_,_,_]) (by simp [Value.oneCell']) (by unfold maxLen;omega) (by omega) ?_
      clear H;intro a6 n6 k6 r6 w hn6 _ H
      refine ⟨(back2 H).1,?_⟩
      replace H:=(back2 H).2;clear back1 back2 hm
      rw [<-ob_append] at H
      subst hn6
      refine ⟨fun _=>?_,fun h=>(by cases h)⟩
      refine ⟨_,_,_,(by exact Ce (by exact add_flat _ _ _) H.b4 rfl),?_⟩
      refine sSt2 H (by rfl) (by kernel_rfl) (by rfl) (by rfl) ?_;clear H;intro w _ H
      exact ⟨r6,decide (((p.sources.length:Nat):Int)<=(255:Int)),rfl,fun h=>by rw [decide_eq_true_eq] at h;omega,H.sub (by repeat (first | exact List.Sublist.refl _ | apply List.Sublist.cons)) (fun r h=>h)⟩
     ·refine sNew H ?_;clear H;intro b6 w _ H
      refine ⟨(back2 H).1,?_⟩
      replace H:=H.r1
      refine call_j (c112 H (by decide) (by omega)) ?_
      clear H;rintro _ w ⟨a5,k5,r5,rfl,H⟩
      refine ⟨_,_,_,rfl,(back2 H).1,?_⟩
      replace H:=H.u1
      refine sApp1 H (bytes:=1) (by kernel_rfl) [.int .u8 82,.int .u8 69,.int .u8 77,.int .u8 66,.int .u8 ((p.sources.length % 256:Nat):Int),.int .u8 (v / 65536 % 256),.int .u8 (v / 256 % 256),.int .u8 (v % 256)] (ob [82,69,77,66,((p.sources.length % 256:Nat):Int),(v / 65536 % 256),(v / 256 % 256),(v % 256)]) (by rfl) (fun j u hu=>by rw [add_flat,Nat.zero_add];exact H.b0.cell hu) (fun G h=>DeepL.ones [_,_,_,_,_,_,_,_]) (by simp [Value.oneCell']) (by unfold maxLen;omega) (by omega) ?_
      clear H;intro a6 n6 k6 r6 w hn6 _ H
      refine ⟨(back2 H).1,?_⟩
      replace H:=(back2 H).2;clear back1 back2 hm
      rw [<-ob_append] at H
      subst hn6
      refine ⟨fun _=>?_,fun h=>(by cases h)⟩
      refine ⟨_,_,_,(by exact Ce (by exact add_flat _ _ _) H.b4 rfl),?_⟩
      refine sSt2 H (by rfl) (by kernel_rfl) (by rfl) (by rfl) ?_;clear H;intro w _ H
      exact ⟨r6,decide (((p.sources.length:Nat):Int)<=(255:Int)),rfl,fun h=>by rw [decide_eq_true_eq] at h;omega,H.sub (by repeat (first | exact List.Sublist.refl _ | apply List.Sublist.cons)) (fun r h=>h)⟩
    ·refine sNew H ?_;clear H;intro b6 w _ H
     refine ⟨(back1 H).1,?_⟩
     refine call_j (c112 (B:=[]) (H.nilOwn 5 1) hF.s (by omega)) ?_
     clear H;rintro _ w ⟨a4,k4,r4,rfl,H⟩
     refine ⟨_,_,_,rfl,(back2 H).1,?_⟩
     rw [List.nil_append] at H
     ·refine call_j (c112 H (by decide) (by omega)) ?_
      clear H;rintro _ w ⟨a5,k5,r5,rfl,H⟩
      refine ⟨_,_,_,rfl,(back2 H).1,?_⟩
      replace H:=H.u1
      refine sApp1 H (bytes:=1) (by kernel_rfl) [.int .u8 82,.int .u8 69,.int .u8 77,.int .u8 66,.int .u8 ((p.sources.length % 256:Nat):Int),.int .u8 (v / 65536 % 256),.int .u8 (v / 256 % 256),.int .u8 (v % 256)] (ob [82,69,77,66,((p.sources.length % 256:Nat):Int),(v / 65536 % 256),(v / 256 % 256),(v % 256)]) (by rfl) (fun j u hu=>by rw [add_flat,Nat.zero_add];exact H.b0.cell hu) (fun G h=>DeepL.ones [_,_,_,_,_,_,_,_]) (by simp [Value.oneCell']) (by unfold maxLen;omega) (by omega) ?_
      clear H;intro a6 n6 k6 r6 w hn6 _ H
      refine ⟨(back2 H).1,?_⟩
      replace H:=(back2 H).2;clear back1 back2 hm
      rw [<-ob_append] at H
      subst hn6
      refine ⟨fun _=>?_,fun h=>(by cases h)⟩
      refine ⟨_,_,_,(by exact Ce (by exact add_flat _ _ _) H.b4 rfl),?_⟩
      refine sSt2 H (by rfl) (by kernel_rfl) (by rfl) (by rfl) ?_;clear H;intro w _ H
      exact ⟨r6,decide (((p.sources.length:Nat):Int)<=(255:Int)),rfl,fun h=>by rw [decide_eq_true_eq] at h;omega,H.sub (by repeat (first | exact List.Sublist.refl _ | apply List.Sublist.cons)) (fun r h=>h)⟩
   clear H;rintro dd2 b bl bc w ⟨r,ok1,rfl,hok1,H⟩
   refine ⟨_,_,_,(by exact Ce (by exact add_flat _ _ _) H.b3 rfl),?_⟩
   refine ⟨fun b bl bc x q w=>∃(j:Nat) (r:Option Nat),x=(j:Int)/\j+q=p.sources.length/\bl=16+4*j/\Sat F w (.own 5 1 b bl bc r (ob (PRE++(p.sources.take j).flatMap b32))::.blk b5 4 [.bool ok1]::.blk b3 42 [.bool false,.int .u8 15,.int .u8 (typK p.kind),.int .u16 0]::.blk b1 63 (pkC p a7 a8 a9 a10 a13 a14 a15 a16 a18 a24 a25 c7 c8 c9 c10 c13 c14 c15 c16 c18 c24 c25)::ex) R,⟨p.sources.length,0,r,rfl,by omega,rfl,by rw [List.take_zero,List.flatMap_nil,List.append_nil];exact H⟩,?_⟩
   clear H;rintro dd3 b bl bc x q w ⟨j,r,rfl,hjq,rfl,H⟩
   refine ⟨fun hc=>?_,fun hc=>?_⟩
   ·rw [decide_eq_true_eq] at hc
    have hjl:j < p.sources.length:=by omega
    have htk:p.sources.take (j+1)=p.sources.take j++[p.sources[j]]:=by rw [List.take_add_one,List.getElem?_eq_getElem hjl];rfl
    have hRj:=hF.srcs p.sources[j] (List.getElem_mem hjl)
    obtain ⟨bb,oo,hle,hcell⟩:=H.elt m10 (by omega)
    have hc1:=hcell j (.int .u32 p.sources[j]) (by rw [oi_get _ _ _ hjl];simp [List.getD,List.getElem?_eq_getElem hjl])
    refine ⟨_,hle,by omega,by omega,?_⟩
    refine ⟨_,(by rw [show (j:Int).toNat*1=j by omega,add_flat];exact hc1),?_⟩
    clear hcell hc1
    refine call_j (c112 H hRj (by omega)) ?_
    clear H;rintro _ w ⟨a6,k6,r6,rfl,H⟩
    refine ⟨_,_,_,rfl,?_⟩
    refine ⟨q - 1,by omega,j+1,r6,by rw [wi64_of (by omega) (by omega)];simp,by omega,by omega,?_⟩
    rw [htk,List.flatMap_append]
    simp only [List.flatMap_cons,List.flatMap_nil,List.append_nil]
    rw [List.append_assoc] at H
    exact H
   rw [decide_eq_false_iff_not] at hc
   obtain rfl:j=p.sources.length:=by omega
   rw [List.take_length] at H
   exact ⟨r,_,15,ok1,by rw [List.length_append,fl32,hPl],H,⟨by decide,by decide⟩,by rw [List.length_append,fl32,hPl];omega,fun h=>fm12 hk hF hv hM hE (by rw [hPRE]) (hok1 h)⟩
  ·
   replace H:=H.sub (List.sublist_cons_self _ _) (fun _ h=>h)
   refine ⟨_,(by exact Ce (by exact add_flat _ _ _) H.b2 rfl),?_⟩
   rw [hk]
   refine ⟨fun b _ w=>b=false/\Sat F w (.blk b5 4 [.bool true]::.blk b3 42 [.bool false,.int .u8 (cntK p.kind),.int .u8 (typK p.kind),.int .u16 0]::.blk b1 63 (pkC p a7 a8 a9 a10 a13 a14 a15 a16 a18 a24 a25 c7 c8 c9 c10 c13 c14 c15 c16 c18 c24 c25)::ex) R,⟨fun hc=>⟨(absurd hc (by decide)),H⟩,fun hc=>⟨(by decide),H⟩⟩,?_⟩
   clear H;rintro ddj bj w ⟨rfl,H⟩
   refine ⟨fun hc=>absurd hc (by decide),fun _=>?_⟩
   refine ⟨fun hc=>absurd hc (by decide),fun _=>?_⟩
   refine ⟨fun hc=>absurd hc (by decide),fun _=>?_⟩
   refine ⟨fun hc=>absurd hc (by decide),fun _=>?_⟩
   refine ⟨fun hc=>absurd hc (by decide),fun _=>?_⟩
   refine ⟨fun b _ w=>b=false/\Sat F w (.blk b5 4 [.bool true]::.blk b3 42 [.bool false,.int .u8 (cntK p.kind),.int .u8 (typK p.kind),.int .u16 0]::.blk b1 63 (pkC p a7 a8 a9 a10 a13 a14 a15 a16 a18 a24 a25 c7 c8 c9 c10 c13 c14 c15 c16 c18 c24 c25)::ex) R,⟨fun hc=>⟨(absurd hc (by decide)),H⟩,fun hc=>⟨(by decide),H⟩⟩,?_⟩
   clear H;rintro ddj bj w ⟨rfl,H⟩
   refine ⟨fun hc=>absurd hc (by decide),fun _=>?_⟩
   refine ⟨fun hc=>absurd hc (by decide),fun _=>?_⟩
   refine ⟨fun hc=>absurd hc (by decide),fun _=>?_⟩
   refine ⟨fun hc=>absurd hc (by decide),fun _=>?_⟩
   refine ⟨fun hc=>absurd hc (by decide),fun _=>?_⟩
   refine sSt0 H (by rfl) (by kernel_rfl) (by rfl) (by rfl) ?_;clear H;intro w _ H
   rw [show cntK p.kind=15 by rw [hk];rfl] at H
   exact ⟨none,[],15,false,rfl,H.nilOwn 5 1,⟨by decide,by decide⟩,Nat.zero_le _,(fun h=>(by cases h))⟩
 clear H;rintro dd58 b bl bc w ⟨r,B,c,ok,rfl,H,hc,hB,hok⟩
 refine ⟨none,?_⟩
 replace H:=H.drew
 generalize w.drew=wd at H ⊢
 refine ⟨Option.some_ne_none _,(by exact H.b2.row),_,_,_,_,(by exact Ld0 rfl H.b2 (by kernel_rfl)),?_⟩
 refine ⟨Option.some_ne_none _,(by exact H.b1.row),_,(by exact Ce (by rfl) H.b1 rfl),?_⟩
 have B0:=H.b2
 refine sSw2 H rfl (by kernel_rfl) (by rfl) (by rfl) ?_
 clear H;intro w g H
 refine ⟨grown_same g B0 H.b2,?_⟩
 refine sSt1 H (by rfl) (by kernel_rfl) (by rfl) (by rfl) ?_;clear H;intro w _ H
 refine ⟨_,_,_,_,(by exact Ld0 rfl H.b2 (by kernel_rfl)),?_⟩
 refine ⟨_,(by exact Ce (by rfl) H.b1 rfl),?_⟩
 exact ⟨c,b,bc,r,B,ok,rfl,H.sub (by repeat (first | exact List.Sublist.refl _ | apply List.Sublist.cons_cons | apply List.Sublist.cons)) hr,hc,hB,hok⟩
def pcD (x:List Int):Dat:=.row 1 (ob x)
def SplPost (F:Fr) (ex:List Ex) (ro:List Ro) (xs:List Int) (en:Ending) (w':World):Prop:=
 ((xs=[]\/okSplit xs.length xs=false)/\∃o l oc,en=.returned (.tuple #[.slice o l oc,.bool false])/\Sat F w' ex ro) \/
 (xs≠[]/\okSplit xs.length xs=true/\∃o oc,en=.returned (.tuple #[.slice o (pcs xs.length xs).length oc,.bool true])/\Sat F w' ex (.deep [.row 1 ((pcs xs.length xs).map pcD)] [.slice o (pcs xs.length xs).length oc]::ro))
theorem c27 {F:Fr} {w:World} {ex:List Ex} {ro:List Ro} {xs:List Int} {a:Option Addr} {n c:Nat} (H:Sat F w ex ro) (hx:Ro.B xs a n c∈ro) (hb:By xs) (hn:n<=1000000) :
  Calls pg 27 #[.slice a n c] w (SplPost F ex ro xs):=by
 apply of27
 have hlen:=H.lenB hx
 refine ⟨fun a' l' c' oa ol oc m w=>∃(ys:List Int) (f:Nat) (Q:List (List Int)) (r:Option Nat),l'=m/\ys.length=l'/\l'<=f/\l'+ol<=n/\By ys/\(xs=[]->ys=[])/\(xs≠[]->ys=[]->ol≠0)/\(ol≠0->xs≠[])/\okSplit xs.length xs=okSplit f ys /\
   ol=Q.length/\Q++pcs f ys=pcs xs.length xs/\Sat F w (.own 22 1 oa ol oc r (Q.map pcD)::ex) (Ro.B ys a' l' c'::ro),
  ⟨n,xs,n,[],none,rfl,hlen,Nat.le_refl _,by omega,hb,id,fun h1 h2=>absurd h2 h1,fun h=>absurd rfl h,by rw [hlen],rfl,by rw [hlen];rfl,(H.nilOwn 22 1).sub (List.Sublist.refl _) (fun r hr=>by rcases List.mem_cons.1 hr with rfl | h;exact hx;exact h)⟩,?_⟩
 clear H;rintro dd2 a' l' c' oa ol oc m w ⟨ys,f,Q,r,rfl,hyl,hlf,hol,hby,hxy,hxo,hox,hok,hoq,hQ,H⟩
 refine ⟨fun hc=>?_,fun hc=>?_⟩
 ·have hl0:l'≠0:=by
   rw [decide_eq_true_eq] at hc
   omega
  have hne:ys≠[]:=by rintro rfl;exact hl0 hyl.symm
  have hxne:xs≠[]:=fun h=>hne (hxy h)
  have hlc:l'<=c':=(H.deep1 ms).len.2.1
  cases f with
  | zero=>omega
  | succ f=>
  have hbad:¬hFit ys->okSplit xs.length xs=false:=fun hnf=>by
   rw [hok]
   unfold okSplit
   rw [if_neg hne,if_neg hnf]
  refine call_j (c23 (Sat.rd H ms) hby) ?_
  rintro _ w ⟨rfl,g⟩
  replace H:=H.grow g;clear g
  cases ho:hdrOk ys with
  | false=>
   refine ⟨_,_,_,_,false,by unfold hdrVal;rw [ho];rfl,?_⟩
   refine sNew H ?_;clear H;intro b15 w _ H
   refine sSw0 H rfl (by kernel_rfl) (by rfl) (by rfl) ?_;clear H;intro w _ H
   refine ⟨_,(H.b0.at0 rfl),?_⟩
   refine ⟨fun _=>?_,fun h=>(by cases h)⟩
   exact .inl ⟨.inr (hbad (by rintro ⟨h1,_⟩;rw [ho] at h1;cases h1)),none,0,0,rfl,H.sub ((List.sublist_cons_self _ _).trans (List.sublist_cons_self _ _)) (fun r h=>mt h)⟩
  | true=>
   refine ⟨_,_,_,_,true,by unfold hdrVal;rw [ho];rfl,?_⟩
   refine sNew H ?_;clear H;intro b15 w _ H
   refine sSw0 H rfl (by kernel_rfl) (by rfl) (by rfl) ?_;clear H;intro w _ H
   refine ⟨_,(H.b0.at0 rfl),?_⟩
   refine ⟨fun h=>(by cases h),fun _=>?_⟩
   have hLr:0<=hL ys/\hL ys < 65536:=by unfold hL;exact n16_lt (hby.drop 2)
   rw [wi64_of (n:=hL ys) (by omega) (by omega),wi64_of (n:=hL ys+1) (by omega) (by omega),wi64_of (n:=4*(hL ys+1)) (by omega) (by omega)]
   have hNe:4*(hL ys+1)=((hN ys:Nat):Int):=by unfold hN;omega
   rw [hNe,Int.toNat_natCast]
   refine ⟨fun hc2=>?_,fun hc2=>?_⟩
   ·rw [decide_eq_true_eq] at hc2
    exact .inl ⟨.inr (hbad (by rintro ⟨_,h2⟩;omega)),none,0,0,rfl,H.sub ((List.sublist_cons_self _ _).trans (List.sublist_cons_self _ _)) (fun r h=>mt h)⟩
   ·rw [decide_eq_false_iff_not] at hc2
    have hfit:hFit ys:=⟨ho,by omega⟩
    refine ⟨by omega,by omega,?_⟩
    refine ⟨by omega,by omega,?_⟩
    refine ⟨rfl,?_⟩
    have h1:=H.cutRo (sz:=1) (ds:=ob ys) (a:=a') (n:=l') (c:=c') ms 0 (hN ys) (hN ys) (Nat.zero_le _) (by omega) (Nat.le_refl _) (by omega)
    rw [Nat.zero_mul,List.drop_zero,Nat.sub_zero,Nat.mul_one,ob_take] at h1
    refine sPush1 h1 (bytes:=24) (by kernel_rfl) [pcD (ys.take (hN ys))] (by rfl) (fun G h=>dc (h (.deep [_] [_]) ms).head dn) (by rfl) (by unfold maxLen;omega) (by omega) ?_
    clear H h1;intro o2 ol2 oc2 r2 w ex2 _ H
    subst ex2
    refine ⟨by omega,by omega,?_⟩
    have hN4:4<=hN ys:=by omega
    refine ⟨l' - hN ys,by omega,ys.drop (hN ys),f,Q++[ys.take (hN ys)],r2,rfl,by rw [List.length_drop,hyl],by omega,by omega,hby.drop _,fun h=>absurd h hxne,fun _ _=>by omega,fun _=>hxne,?_,?_,?_,?_⟩
    ·rw [hok]
     conv=>lhs;unfold okSplit
     rw [if_neg hne,if_pos hfit]
    ·rw [List.length_append,hoq];rfl
    ·rw [<-hQ]
     conv=>rhs;unfold pcs
     rw [if_neg hne,if_pos hfit,List.append_assoc]
     rfl
    ·have H3:=H.skipB (mt ms) (hN ys) (by omega)
     rw [List.map_append]
     exact H3.sub (List.sublist_cons_self _ _) (fun r h=>by rcases List.mem_cons.1 h with rfl | h;exact ms;simp [h])
 ·rw [decide_eq_false_iff_not] at hc
  have hl0:l'=0:=by omega
  subst hl0
  obtain rfl:ys=[]:=List.eq_nil_of_length_eq_zero hyl
  by_cases h0:ol=0
  ·have hxe:xs=[]:=Classical.byContradiction fun h=>hxo h rfl h0
   rw [decide_eq_false (by omega)]
   exact .inl ⟨.inl hxe,_,_,_,rfl,H.sub (List.sublist_cons_self _ _) (fun r h=>mt h)⟩
  ·rw [decide_eq_true (by omega)]
   have hp0:pcs f []=[]:=by cases f<;>simp [pcs]
   rw [hp0,List.append_nil] at hQ
   subst hQ
   subst hoq
   refine .inr ⟨hox h0,?_,oa,oc,rfl,H.freeze.sub (List.Sublist.refl _) (fun r h=>by rcases List.mem_cons.1 h with rfl | h;exact ms;simp [h])⟩
   rw [hok]
   cases f<;>simp [okSplit]
theorem allGo_append:∀(A B:List (List Int)),allGo (A++B)=(allGo A).bind fun a=>(allGo B).map (a++·)
 | [],B=>by simp [allGo]
 | x::A,B=>by
  have ih:=allGo_append A B
  simp only [List.cons_append,allGo]
  cases go x with
  | none=>rfl
  | some p=>
   simp only
   rw [ih]
   cases allGo A with
   | none=>rfl
   | some a=>
    cases allGo B with
    | none=>rfl
    | some b=>rfl
def RdPostAll (F:Fr) (ex:List Ex) (ro:List Ro) (xs:List Int) (en:Ending) (w':World):Prop:=
 ((xs=[]\/okSplit xs.length xs=false)/\en=.returned (.tuple #[.slice none 0 0,.int .i64 1])/\Sat F w' ex ro) \/
 (xs≠[]/\okSplit xs.length xs=true/\allGo (pcs xs.length xs)=none/\en=.returned (.tuple #[.slice none 0 0,.int .i64 2])/\Sat F w' ex ro) \/
 (xs≠[]/\okSplit xs.length xs=true/\∃L o oc,allGo (pcs xs.length xs)=some L/\en=.returned (.tuple #[.slice o L.length oc,.int .i64 0])/\Sat F w' ex (.deep [.row 30 (L.flatMap Pk.dat)] [.slice o L.length oc]::ro))
theorem c11 {F:Fr} {w:World} {ex:List Ex} {ro:List Ro} {xs:List Int} {a:Option Addr} {n c:Nat} (H:Sat F w ex ro) (hx:Ro.B xs a n c∈ro) (hb:By xs) (hn:n<=1000000) :
  Calls pg 11 #[.slice a n c] w (RdPostAll F ex ro xs):=by
 apply of11
 have hlen:=H.lenB hx
 refine call_j (c27 H hx hb hn) ?_
 clear H
 rintro _ w (⟨hbad,o,l,oc,rfl,H⟩ | ⟨hne,hok,o,oc,rfl,H⟩)
 ·refine ⟨_,_,_,_,rfl,?_⟩
  exact ⟨fun _=>.inl ⟨hbad,rfl,H⟩,fun h=>(by cases h)⟩
 refine ⟨_,_,_,_,rfl,?_⟩
 refine ⟨fun h=>(by cases h),fun _=>?_⟩
 have hPm:=pcs_mem xs.length xs
 have hPl:=pcs_len xs.length xs
 rw [hlen] at hPm hPl
 have hok':=hok
 have hxl:(pcs xs.length xs)=pcs n xs:=by rw [hlen]
 rw [hxl] at H
 unfold RdPostAll
 rw [hxl]
 generalize pcs n xs=P at H hPm hPl
 refine ⟨fun oa ol oc' x m w=>∃(j:Nat) (L:List Pk) (r:Option Nat),x=(j:Int)/\j+m=P.length/\ol=j/\L.length=j/\allGo (P.take j)=some L/\Sat F w (.own 63 30 oa ol oc' r (L.flatMap Pk.dat)::ex) (.deep [.row 1 (P.map pcD)] [.slice o P.length oc]::ro),
  ⟨P.length,0,[],none,rfl,by omega,rfl,rfl,rfl,H.nilOwn 63 30⟩,?_⟩
 clear H;rintro dd5 oa ol oc' x m w ⟨j,L,r,rfl,hjm,rfl,hLl,hall,H⟩
 refine ⟨fun hc=>?_,fun hc=>?_⟩
 ·rw [decide_eq_true_eq] at hc
  have hjl:ol < P.length:=by omega
  obtain ⟨bb,oo,us,rfl,hul,hcell,H1⟩:=H.elts ms (by omega)
  rw [List.length_map] at hul
  have H2:=H1.splitRo ms ol (d:=pcD P[ol]) (v:=us[ol]) (by rw [List.getElem?_map,List.getElem?_eq_getElem hjl];rfl) (List.getElem?_eq_getElem (by omega))
  have hcl:=hcell ol us[ol] (List.getElem?_eq_getElem (by omega))
  have htk:P.take (ol+1)=P.take ol++[P[ol]]:=by rw [List.take_add_one,List.getElem?_eq_getElem hjl];rfl
  have hdr:P=P.take ol++(P[ol]::P.drop (ol+1)):=by rw [<-List.drop_eq_getElem_cons hjl,List.take_append_drop]
  have hmem:=hPm P[ol] (List.getElem_mem hjl)
  clear hcell H H1
  generalize us[ol]=u at H2 hcl
  have hdr2:allGo P=(allGo (P.take ol)).bind fun a=>(allGo (P[ol]::P.drop (ol+1))).map (a++·):=by rw [<-allGo_append,<-hdr]
  generalize P[ol]=ys at H2 htk hmem hdr2
  clear hdr
  obtain ⟨sa,sn,sc,rfl,hsl⟩:=H2.rowS ms
  rw [ob_length] at hsl
  refine ⟨_,rfl,by omega,by omega,?_⟩
  refine ⟨_,_,_,(by rw [show (ol:Int).toNat*1=ol by omega,add_flat];exact hcl),?_⟩
  refine call_j (c25 H2 ms (hmem.2 hb) (by omega)) ?_
  clear H2
  rintro _ w ⟨cells,rfl,H⟩
  refine ⟨_,_,rfl,?_⟩
  have hd:=H.deep ms
  obtain ⟨a7,a8,a9,a10,a13,a14,a15,a16,a18,a24,a25,c7,c8,c9,c10,c13,c14,c15,c16,c18,c24,c25,rfl,_⟩:=H.pk ms
  refine sNew H ?_;clear H;intro b17 w _ H
  refine sSw0 H rfl (by kernel_rfl) (by rfl) (by rfl) ?_;clear H;intro w _ H
  refine ⟨fun hv=>?_,fun hv=>?_⟩
  ·have hv0:¬(rdOne ys).1=0:=by simpa using hv
   refine .inr (.inl ⟨hne,hok,?_,rfl,H.sub ((List.sublist_cons_self _ _).trans (List.sublist_cons_self _ _)) (fun r h=>by simp [h])⟩)
   rw [hdr2,hall]
   have:go ys=none:=by unfold go;rw [if_neg hv0]
   simp [allGo,this]
  ·have hv0:(rdOne ys).1=0:=by simpa using hv
   have hg:go ys=some (rdOne ys).2:=by unfold go;rw [if_pos hv0]
   refine ⟨_,H.b0.ld,?_⟩
   refine ⟨rfl,?_⟩
   refine sPush1 H (bytes:=360) (by kernel_rfl) (rdOne ys).2.dat (by rfl) (fun G h=>h _ ms) (by rfl) (by unfold maxLen;omega) (by omega) ?_
   clear H;intro o2 ol2 oc2 r2 w ex2 _ H
   subst ex2
   refine ⟨m - 1,by omega,ol+1,L++[(rdOne ys).2],r2,?_,by omega,rfl,by rw [List.length_append,hLl];rfl,?_,?_⟩
   ·rw [wi64_of (by omega) (by omega)];simp
   ·rw [htk,allGo_append,hall]
    simp [allGo,hg]
   ·rw [List.flatMap_append]
    simp only [List.flatMap_cons,List.flatMap_nil,List.append_nil]
    exact H.sub (List.sublist_cons_self _ _) (fun r h=>by rcases List.mem_cons.1 h with rfl | h;simp;simp [h])
 ·rw [decide_eq_false_iff_not] at hc
  obtain rfl:ol=P.length:=by omega
  rw [List.take_length] at hall
  refine .inr (.inr ⟨hne,hok,L,oa,oc',hall,?_,?_⟩)
  ·rw [hLl]
  ·have H1:=H.freeze
   rw [<-hLl] at H1
   exact H1.sub (List.Sublist.refl _) (fun r h=>by rcases List.mem_cons.1 h with rfl | h;exact ms;simp [h])
def RawOk (xs:List Int):Prop:=hdrOk xs=true/\kindOf (hT xs) (hC xs)=0/\hT xs≠207/\4*(hL xs+1)=(xs.length:Int)
theorem WrOk.of0 {p:Pk} (h:p.kind=0):WrOk p:=
 ⟨by omega,by omega,fun e=>by omega,fun e=>by omega,fun e=>by omega,fun e=>by omega,fun e=>by omega,fun e=>by omega,fun e=>by omega,fun e=>by omega,fun e=>by omega,fun e=>by omega,fun e=>by omega,fun e=>by omega⟩
theorem wr_0 {p:Pk} (h:p.kind=0):wrOne p=p.data:=by unfold wrOne;simp [h]
def F1Post (F:Fr) (ex:List Ex) (ro:List Ro) (p:Pk) (en:Ending) (w':World):Prop:=
 ∃a c X ok ro',en=.returned (.tuple #[.slice a X.length c,.bool ok])/\(∀r∈ro,r∈ro')/\Sat F w' ex ro'/\Ro.B X a X.length c∈ro'/\(ok=true->p.kind≠13/\X.length<=24*p.size+44/\(p.kind=0->RawOk p.data)/\(X.length<=240000->WrOk p/\X=wrOne p))
theorem F1Post.no {F:Fr} {ex exs:List Ex} {ro:List Ro} {p:Pk} {w:World} (H:Sat F w exs ro) (hs:ex.Sublist exs):F1Post F ex ro p (.returned (.tuple #[.slice none 0 0,.bool false])) w:=
 ⟨none,0,[],false,_,rfl,fun r h=>mt h,((H.sub hs (fun _ h=>h)).nilOwn 5 1).freeze,ms,fun h=>by cases h⟩
theorem F1Post.raw {F:Fr} {ex exs:List Ex} {ro ro':List Ro} {p:Pk} {w:World} {a:Option Addr} {c:Nat} {ok:Bool} (H:Sat F w exs ro') (hs:ex.Sublist exs) (hr:∀r∈ro,r∈ro') (hk:p.kind=0) (hm:Ro.B p.data a p.data.length c∈ro') (hok:ok=true->RawOk p.data):F1Post F ex ro p (.returned (.tuple #[.slice a p.data.length c,.bool ok])) w:=
 ⟨a,c,p.data,ok,_,rfl,hr,H.sub hs (fun _ h=>h),hm,fun h=>⟨by omega,by unfold Pk.size;omega,fun _=>hok h,fun _=>⟨WrOk.of0 hk,(wr_0 hk).symm⟩⟩⟩
theorem c48 {F:Fr} {w:World} {ex:List Ex} {ro:List Ro} {p:Pk} {cells:List Value} (H:Sat F w ex ro) (hp:Ro.deep p.dat cells∈ro) (hF:FoOk p) :
  Calls pg 48 #[.agg cells.toArray] w (F1Post F ex ro p):=by
 have lo:=hF.lo
 have hi:=hF.hi
 have hp0:=hp
 obtain ⟨a7,a8,a9,a10,a13,a14,a15,a16,a18,a24,a25,c7,c8,c9,c10,c13,c14,c15,c16,c18,c24,c25,R,rfl,hr,H,m7,m8,m9,m10,m13,m14,m15,m16,m18,m24,m25⟩:=H.pkF hp
 apply of48
 refine sNew H ?_;clear H;intro b1 w _ H
 replace H:Sat F w (.blk b1 63 (pkC p a7 a8 a9 a10 a13 a14 a15 a16 a18 a24 a25 c7 c8 c9 c10 c13 c14 c15 c16 c18 c24 c25)::ex) R:=H
 refine ⟨_,(H.b0.at0 rfl),?_⟩
 refine ⟨fun h=>by rw [decide_eq_true_eq] at h;omega,fun _=>?_⟩
 refine ⟨_,(H.b0.at0 rfl),?_⟩
 refine ⟨fun h=>by rw [decide_eq_true_eq] at h;omega,fun _=>?_⟩
 refine ⟨_,(H.b0.at0 rfl),?_⟩
 refine ⟨fun hk=>?_,fun hk=>?_⟩
 ·have hk:p.kind=0:=by simpa using hk
  have hby:=hF.dat hk
  refine ⟨_,_,_,(H.b0.at0 rfl),?_⟩
  have hrd:=H.rd (show Ro.B p.data a13 p.data.length c13∈R from m13)
  refine call_j (c23 hrd hby) ?_
  rintro _ w ⟨rfl,g⟩
  replace H:=H.grow g;clear g hrd
  by_cases hok:hdrOk p.data=true
  ·have hv:hdrVal p.data=.agg #[.bool (hP p.data),.int .u8 (hC p.data),.int .u8 (hT p.data),.int .u16 (hL p.data)]:=by unfold hdrVal;rw [if_pos hok]
   rw [hv,hok]
   refine ⟨_,_,_,_,_,rfl,?_⟩
   refine sNew H ?_;clear H;intro b13 w _ H
   refine sSw0 H rfl (by kernel_rfl) (by rfl) (by rfl) ?_;clear H;intro w _ H
   refine ⟨none,?_⟩;replace H:=H.drew;generalize w.drew=w at H ⊢;obtain ⟨F2,ex2,S,back1,back2,hm⟩:=H.regN
   refine ⟨nn,H.b1.row,_,_,_,(H.b1.at0 rfl),?_⟩
   refine fT ?_
   refine ⟨nn,H.b0.row,_,_,_,_,H.b0.ld,?_⟩
   refine call_j c57 ?_
   clear S back1 back2 hm
   rintro _ w ⟨rfl,K⟩
   replace H:=H.grow K
   refine ⟨_,rfl,K,?_⟩
   have hlb:hL p.data=n16 (p.data.drop 2):=rfl
   have hlr:=n16_lt (hby.drop 2)
   rw [<-hlb] at hlr
   have e1:IntKind.i64.wrap ((4:Int)*(IntKind.i64.wrap ((IntKind.i64.wrap (hL p.data))+(1:Int))))=4*(hL p.data+1):=by
    rw [wi64_of (n:=hL p.data) (by omega) (by omega),wi64_of (n:=hL p.data+1) (by omega) (by omega),wi64_of (by omega) (by omega)]
   refine ⟨fun h0=>?_,fun h0=>?_⟩
   ·have h0:kindOf (hT p.data) (hC p.data)=0:=by simpa using h0
    refine ⟨_,(H.b0.at0 rfl),K,?_⟩
    refine ⟨fun h1=>?_,fun h1=>?_⟩
    ·have h1:hT p.data≠207:=by simpa using h1
     refine ⟨⟨_,(H.b0.at0 rfl),K,_,_,_,(H.b1.at0 rfl),K,?_⟩,⟨_,_,_,(H.b1.at0 rfl),K,_,(H.b0.at0 rfl),K,?_⟩⟩
     ·rw [e1]
      exact F1Post.raw H (by repeat (first | exact List.Sublist.refl _ | apply List.Sublist.cons)) hr hk m13 (fun h=>⟨hok,h0,h1,by simpa using h⟩)
     ·rw [e1]
      exact F1Post.raw H (by repeat (first | exact List.Sublist.refl _ | apply List.Sublist.cons)) hr hk m13 (fun h=>⟨hok,h0,h1,by simpa using h⟩)
    ·exact ⟨F1Post.raw H (by repeat (first | exact List.Sublist.refl _ | apply List.Sublist.cons)) hr hk m13 (fun h=>by cases h),F1Post.raw H (by repeat (first | exact List.Sublist.refl _ | apply List.Sublist.cons)) hr hk m13 (fun h=>by cases h)⟩
   ·exact ⟨F1Post.raw H (by repeat (first | exact List.Sublist.refl _ | apply List.Sublist.cons)) hr hk m13 (fun h=>by cases h),F1Post.raw H (by repeat (first | exact List.Sublist.refl _ | apply List.Sublist.cons)) hr hk m13 (fun h=>by cases h)⟩
  ·have hok:hdrOk p.data=false:=by simpa using hok
   have hv:hdrVal p.data=.agg #[.bool false,.int .u8 0,.int .u8 0,.int .u16 0]:=by unfold hdrVal;rw [hok];rfl
   rw [hv,hok]
   refine ⟨_,_,_,_,_,rfl,?_⟩
   refine sNew H ?_;clear H;intro b13 w _ H
   refine sSw0 H rfl (by kernel_rfl) (by rfl) (by rfl) ?_;clear H;intro w _ H
   refine ⟨none,?_⟩;replace H:=H.drew;generalize w.drew=w at H ⊢;obtain ⟨F2,ex2,S,back1,back2,hm⟩:=H.regN
   refine ⟨nn,H.b1.row,_,_,_,(H.b1.at0 rfl),?_⟩
   refine fF ?_
   exact ⟨F1Post.raw H (by repeat (first | exact List.Sublist.refl _ | apply List.Sublist.cons)) hr hk m13 (fun h=>by cases h),F1Post.raw H (by repeat (first | exact List.Sublist.refl _ | apply List.Sublist.cons)) hr hk m13 (fun h=>by cases h)⟩
 ·have hk:p.kind≠0:=by simpa using hk
  refine ⟨_,H.b0.ld,?_⟩
  refine call_j (c88 H (hr _ hp0) hF) ?_
  clear H;rintro _ w ⟨c,a,k,r,B,ok,rfl,H,hc,hB,hok⟩
  refine ⟨_,_,_,_,_,_,_,_,rfl,?_⟩
  refine sNew H ?_;clear H;intro b37 w _ H
  refine sSw0 H rfl (by kernel_rfl) (by rfl) (by rfl) ?_;clear H;intro w _ H
  refine ⟨fun _=>F1Post.no (H.sub (ro':=ro) (List.Sublist.refl _) hr) (by repeat (first | exact List.Sublist.refl _ | apply List.Sublist.cons)),fun h1=>?_⟩
  have h1:ok=true:=by simpa using h1
  refine ⟨fun _=>F1Post.no (H.sub (ro':=ro) (List.Sublist.refl _) hr) (by repeat (first | exact List.Sublist.refl _ | apply List.Sublist.cons)),fun h2=>?_⟩
  rw [decide_eq_false_iff_not] at h2
  refine ⟨by decide,?_⟩
  have e1:IntKind.u16.wrap (IntKind.i64.wrap (((B.length:Nat):Int).tdiv (4:Int)))=((B.length / 4:Nat):Int):=by
   rw [Int.tdiv_eq_ediv_of_nonneg (by omega),wi64_of (by omega) (by omega),wu16]
   omega
  rw [e1]
  refine sSt0 H (by exact add_flat _ _ _) (by kernel_rfl) (by rfl) (by rfl) ?_;clear H;intro w _ H
  refine ⟨_,_,_,_,H.b0.ld,?_⟩
  refine call_j (c21 H hc (by omega)) ?_
  clear H;rintro _ w ⟨a5,k5,r5,rfl,H⟩
  refine ⟨_,_,_,_,rfl,?_⟩
  replace H:=H.r2.freeze
  refine sAppV H ms (by omega) ?_
  clear H;intro a6 n6 k6 r6 w hn6 _ H
  have hl:n6=(hdrB c (typK p.kind) ((B.length / 4:Nat):Int)++B).length:=by rw [List.length_append];exact hn6
  subst hl
  refine ⟨a6,k6,_,true,_,rfl,fun r h=>mt (mt (hr r h)),H.freeze.sub (by repeat (first | exact List.Sublist.refl _ | apply List.Sublist.cons)) (fun _ h=>h),ms,fun _=>⟨(hok h1).1,by omega,fun h=>absurd h hk,fun hl=>(hok h1).2 (by omega)⟩⟩
def FmtPost (F:Fr) (ex:List Ex) (ro:List Ro) (L:List Pk) (en:Ending) (w':World):Prop:=
 ∃a c X ok ro',en=.returned (.tuple #[.slice a X.length c,.bool ok])/\(∀r∈ro,r∈ro')/\Sat F w' ex ro'/\Ro.B X a X.length c∈ro'/\(ok=true->L≠[]/\(∀p∈L,p.kind=0->RawOk p.data)/\(X.length<=240000->(∀p∈L,WrOk p)/\X=L.flatMap wrOne))
def fmB (p:Pk):Nat:=if p.kind=13 then 0 else 24*p.size+44
theorem c20 {F:Fr} {w:World} {ex:List Ex} {ro:List Ro} {L:List Pk} {l:Option Addr} {c:Nat} (H:Sat F w ex ro) (hl:Ro.deep [.row 30 (L.flatMap Pk.dat)] [.slice l L.length c]∈ro) (hL:L.length<=1000000) (hF:∀p∈L,FoOk p) (hS:(L.map fmB).sum<=90000000) :
  Calls pg 20 #[.slice l L.length c] w (FmtPost F ex ro L):=by
 apply of20
 refine ⟨fun o ol oc x m w=>∃(j:Nat) (r:Option Nat) (X:List Int),x=(j:Int)/\j+m=L.length/\ol=X.length/\X.length<=((L.take j).map fmB).sum/\((∀p∈L.take j,p.kind=0->RawOk p.data)/\(X.length<=240000->(∀p∈L.take j,WrOk p)/\X=(L.take j).flatMap wrOne))/\Sat F w (.own 5 1 o ol oc r (ob X)::ex) ro,⟨L.length,0,none,[],rfl,by omega,rfl,by simp,⟨by simp,fun _=>⟨by simp,by simp⟩⟩,H.nilOwn 5 1⟩,?_⟩
 clear H;rintro dd2 o ol oc x m w ⟨j,r,X,rfl,hjm,rfl,hXl,hX,H⟩
 refine ⟨fun hc=>?_,fun hc=>?_⟩
 ·rw [decide_eq_true_eq] at hc
  have hjl:j < L.length:=by omega
  obtain ⟨p,us,e,hus,hcell,H1⟩:=H.eltF Pk.dat_lenN (by decide) hl (j:=j) hjl
  have htk:L.take (j+1)=L.take j++[L[j]]:=by rw [List.take_add_one,List.getElem?_eq_getElem hjl];rfl
  have hFj:=hF L[j] (List.getElem_mem hjl)
  have hsum:((L.take j).map fmB).sum+fmB L[j]<=(L.map fmB).sum:=by
   have e:L=L.take j++(L[j]::L.drop (j+1)):=by rw [<-List.drop_eq_getElem_cons hjl,List.take_append_drop]
   have e2:=congrArg (fun l=>(l.map fmB).sum) e
   simp only [List.map_append,List.map_cons,List.sum_append,List.sum_cons] at e2
   omega
  clear H
  generalize L[j]=D at H1 htk hFj hsum
  obtain ⟨a7,a8,a9,a10,a13,a14,a15,a16,a18,a24,a25,c7,c8,c9,c10,c13,c14,c15,c16,c18,c24,c25,R,rfl,hr,H,_⟩:=H1.pkF ms
  clear H1
  refine ⟨p,e,by omega,by omega,?_⟩
  refine ⟨_,LdC (pkC D a7 a8 a9 a10 a13 a14 a15 a16 a18 a24 a25 c7 c8 c9 c10 c13 c14 c15 c16 c18 c24 c25) (by kernel_rfl) (by rw [show (j:Int).toNat*30=j*30 by omega];exact hcell),?_⟩
  clear hcell
  refine sNew H ?_;clear H;intro b11 w _ H
  refine sSw0 H rfl (by kernel_rfl) (by rfl) (by rfl) ?_;clear H;intro w _ H
  refine ⟨_,H.b0.ld,?_⟩
  refine call_j (c48 H (hr _ ms) hFj) ?_
  clear H
  rintro _ w ⟨a,k,Y,ok,ro',rfl,hr',H,hm,hY⟩
  refine ⟨_,_,_,_,rfl,?_⟩
  refine ⟨fun _=>⟨none,0,[],false,_,rfl,fun r h=>mt h,(((H.sub (ex':=ex) (by repeat (first | exact List.Sublist.refl _ | apply List.Sublist.cons)) (fun r h=>hr' r (hr r (mt h)))).nilOwn 5 1).freeze),ms,fun h=>by cases h⟩,fun h1=>?_⟩
  have h1:ok=true:=by simpa using h1
  obtain ⟨hk13,h2,h3,h4⟩:=hY h1
  have hfm:fmB D=24*D.size+44:=if_neg hk13
  replace H:=H.r1
  refine sAppV H hm (by omega) ?_
  clear H;intro o2 ol2 oc2 r2 w hol2 _ H
  refine ⟨m - 1,by omega,j+1,r2,X++Y,?_,by omega,by rw [List.length_append];exact hol2,?_,⟨?_,?_⟩,H.ds (fun r h=>hr' r (hr r (mt h)))⟩
  ·rw [wi64_of (by omega) (by omega)];simp
  ·rw [htk,List.map_append,List.sum_append,List.length_append]
   simp only [List.map_cons,List.map_nil,List.sum_cons,List.sum_nil]
   omega
  ·rw [htk]
   intro y hy
   rcases List.mem_append.1 hy with hy | hy
   ·exact hX.1 y hy
   ·rw [List.mem_singleton.1 hy];exact h3
  ·intro hle
   rw [List.length_append] at hle
   obtain ⟨h5,h6⟩:=hX.2 (by omega)
   obtain ⟨h7,h8⟩:=h4 (by omega)
   rw [htk]
   refine ⟨?_,?_⟩
   ·intro y hy
    rcases List.mem_append.1 hy with hy | hy
    ·exact h5 y hy
    ·rw [List.mem_singleton.1 hy];exact h7
   ·rw [List.flatMap_append,<-h6,h8]
    simp only [List.flatMap_cons,List.flatMap_nil,List.append_nil]
 ·rw [decide_eq_false_iff_not] at hc
  obtain rfl:j=L.length:=by omega
  rw [List.take_length] at hX
  refine ⟨o,oc,X,_,_,rfl,fun r h=>mt h,H.freeze,ms,fun h=>⟨fun hn=>?_,hX.1,hX.2⟩⟩
  rw [decide_eq_true_eq,hn] at h
  simp at h
structure FoR (p:Pk):Prop where
 s:u32R p.sender
 m:u32R p.media
 ntp:0<=p.ntp/\p.ntp < 18446744073709551616
 rtp:u32R p.rtp
 pks:u32R p.packets
 ocs:u32R p.octets
 tim:u32R p.time
 reps:∀y∈p.reports,RepW y
 chks:∀y∈p.chunks,u32R y.1
 srcs:∀y∈p.sources,u32R y
 sub:0<=p.sub/\p.sub < 256
 prs:∀x∈p.pairs,(0<=x.1/\x.1 < 65536)/\0<=x.2/\x.2 < 65536
 sls:∀x∈p.slices,(0<=x.1/\x.1 < 65536)/\(0<=x.2.1/\x.2.1 < 65536)/\0<=x.2.2/\x.2.2 < 256
 ens:∀x∈p.entries,u32R x.1
 bls:∀y∈p.blocks,u32R y.1/\(0<=y.2.1/\y.2.1 < 65536)/\∀m∈y.2.2,(0<=m.2.1/\m.2.1 < 256)/\0<=m.2.2/\m.2.2 < 65536
 bits:p.kind=12->∃m i:Nat,0 < m/\m < 262144/\i<=63/\p.bits=(sgl m i:Int)
 dat:p.kind=0->By p.data
theorem u32z:u32R 0:=by decide
theorem u64z:(0:Int)<=0/\(0:Int) < 18446744073709551616:=by decide
theorem u8z:(0:Int)<=0/\(0:Int) < 256:=by decide
theorem rep1_R {xs:List Int} (hb:By xs):RepW (rep1 xs):=by
 have h0:=n24_lt (hb.drop 5)
 refine ⟨n32_lt hb,⟨h0.1,by have:=h0.2;unfold rep1;simp only;omega⟩,n32_lt (hb.drop 8),n32_lt (hb.drop 12),n32_lt (hb.drop 16),n32_lt (hb.drop 20)⟩
theorem reps_R:∀(n:Nat) (xs:List Int),By xs->∀y∈reps n xs,RepW y
 | 0,_,_,y,h=>by cases h
 | n+1,xs,hb,y,h=>by
  rcases List.mem_cons.1 h with rfl | h
  ·exact rep1_R hb
  ·exact reps_R n _ (hb.drop 24) y h
theorem chks_R:∀(n:Nat) (xs:List Int) (l:List Chk),chks n xs=some l->By xs->∀y∈l,u32R y.1
 | 0,xs,l,h,_,y,hy=>by
  unfold chks at h
  split at h
  ·cases h;cases hy
  ·cases h
 | n+1,xs,l,h,hb,y,hy=>by
  unfold chks at h
  split at h
  ·cases h
  split at h
  ·cases h
  split at h
  ·cases h
  rename_i j _
  cases hq:chks n (xs.drop j) with
  | none=>rw [hq] at h;cases h
  | some r=>
   rw [hq] at h
   cases h
   rcases List.mem_cons.1 hy with rfl | hy
   ·exact n32_lt hb
   ·exact chks_R n _ _ hq (hb.drop _) y hy
theorem words_R:∀(n:Nat) (xs:List Int),By xs->∀y∈words n xs,u32R y
 | 0,_,_,y,h=>by cases h
 | n+1,xs,hb,y,h=>by
  rcases List.mem_cons.1 h with rfl | h
  ·exact n32_lt hb
  ·exact words_R n _ (hb.drop 4) y h
theorem pairsL_R:∀(n:Nat) (xs:List Int),By xs->∀x∈pairsL n xs,(0<=x.1/\x.1 < 65536)/\0<=x.2/\x.2 < 65536
 | 0,_,_,y,h=>by cases h
 | n+1,xs,hb,y,h=>by
  rcases List.mem_cons.1 h with rfl | h
  ·exact ⟨n16_lt hb,n16_lt (hb.drop 2)⟩
  ·exact pairsL_R n _ (hb.drop 4) y h
theorem sliceL_R:∀(n:Nat) (xs:List Int),By xs->∀x∈sliceL n xs,(0<=x.1/\x.1 < 65536)/\(0<=x.2.1/\x.2.1 < 65536)/\0<=x.2.2/\x.2.2 < 256
 | 0,_,_,y,h=>by cases h
 | n+1,xs,hb,y,h=>by
  rcases List.mem_cons.1 h with rfl | h
  ·have:=n32_lt hb
   refine ⟨⟨?_,?_⟩,⟨?_,?_⟩,?_,?_⟩<;>simp only<;>omega
  ·exact sliceL_R n _ (hb.drop 4) y h
theorem entryL_R:∀(n:Nat) (xs:List Int) (l:List Ent),entryL n xs=some l->By xs->∀y∈l,u32R y.1
 | 0,xs,l,h,_,y,hy=>by
  unfold entryL at h
  split at h
  ·cases h;cases hy
  ·cases h
 | n+1,xs,l,h,hb,y,hy=>by
  unfold entryL at h
  split at h
  ·cases h
  cases hq:entryL n (xs.drop 8) with
  | none=>rw [hq] at h;cases h
  | some r=>
   rw [hq] at h
   cases h
   rcases List.mem_cons.1 hy with rfl | hy
   ·exact n32_lt hb
   ·exact entryL_R n _ _ hq (hb.drop _) y hy
theorem metsL_R:∀(n:Nat) (xs:List Int) (l:List Met),metsL n xs=some l->By xs->∀m∈l,(0<=m.2.1/\m.2.1 < 256)/\0<=m.2.2/\m.2.2 < 65536
 | 0,xs,l,h,_,y,hy=>by
  cases h;cases hy
 | n+1,xs,l,h,hb,y,hy=>by
  unfold metsL at h
  simp only at h
  split at h
  ·cases h
  cases hq:metsL n (xs.drop 2) with
  | none=>rw [hq] at h;cases h
  | some r=>
   rw [hq] at h
   cases h
   rcases List.mem_cons.1 hy with rfl | hy
   ·have:=n16_lt hb
    refine ⟨⟨?_,?_⟩,?_,?_⟩<;>simp only [met1]<;>omega
   ·exact metsL_R n _ _ hq (hb.drop _) y hy
theorem blocksL_R:∀(f:Nat) (xs:List Int) (l:List Blo) (ys:List Int),blocksL f xs=some (l,ys)->By xs->(∀y∈l,u32R y.1/\(0<=y.2.1/\y.2.1 < 65536)/\∀m∈y.2.2,(0<=m.2.1/\m.2.1 < 256)/\0<=m.2.2/\m.2.2 < 65536)/\By ys
 | 0,_,_,_,h,_=>by cases h
 | f+1,xs,l,ys,h,hb=>by
  unfold blocksL at h
  split at h
  ·cases h;exact ⟨(by intro y hy;cases hy),hb⟩
  split at h
  ·cases h
  simp only at h
  split at h
  ·cases h
  split at h
  ·cases h
  rename_i ms hms
  split at h
  ·cases h
  cases hq:blocksL f (xs.drop (8+2*((n16 (xs.drop 6)).toNat+(n16 (xs.drop 6)).toNat % 2))) with
  | none=>rw [hq] at h;cases h
  | some r=>
   obtain ⟨l',ys'⟩:=r
   rw [hq] at h
   cases h
   obtain ⟨h1,h2⟩:=blocksL_R f _ _ _ hq (hb.drop _)
   refine ⟨fun y hy=>?_,h2⟩
   rcases List.mem_cons.1 hy with rfl | hy
   ·exact ⟨n32_lt hb,n16_lt (hb.drop 4),metsL_R _ _ _ hms (hb.drop 8)⟩
   ·exact h1 y hy
theorem body_FoR {xs:List Int} {p:Pk} (hb:By xs) (h:rdBody xs=some p):FoR p:=by
 have b4:=hb.drop 4
 have b44:=b4.drop 4
 have b8:=b4.drop 8
 have b12:=b4.drop 12
 have b16':=b4.drop 16
 have b20:=b4.drop 20
 have b24:=b4.drop 24
 unfold rdBody at h
 simp only at h
 have hs:=n32_lt b4
 have hm:=n32_lt b44
 have hC:0<=hC xs/\hC xs < 256:=by unfold Go.Proofs.YtkdialecadjedaaGreatDoor.hC;omega
 generalize kindOf (hT xs) (Go.Proofs.YtkdialecadjedaaGreatDoor.hC xs)=k at h
 split at h
 ·split at h
  ·cases h
  ·cases h
   have e1:=n64_lt b44
   have e2:=n32_lt b12
   have e3:=n32_lt b16'
   have e4:=n32_lt b20
   have e5:=reps_R (Go.Proofs.YtkdialecadjedaaGreatDoor.hC xs).toNat _ b24
   exact (by constructor<;>first | assumption | exact u32z | exact u64z | exact u8z | (intro _ h;cases h;done) | (intro h;exact absurd h (by simp)))
 split at h
 ·split at h
  ·cases h
  ·cases h
   have e5:=reps_R (Go.Proofs.YtkdialecadjedaaGreatDoor.hC xs).toNat _ b44
   exact (by constructor<;>first | assumption | exact u32z | exact u64z | exact u8z | (intro _ h;cases h;done) | (intro h;exact absurd h (by simp)))
 split at h
 ·cases hq:chks (Go.Proofs.YtkdialecadjedaaGreatDoor.hC xs).toNat (xs.drop 4) with
  | none=>rw [hq] at h;cases h
  | some l=>
   rw [hq] at h
   simp only [Option.map_some,Option.some.injEq] at h
   subst h
   have e1:=chks_R _ _ _ hq b4
   exact (by constructor<;>first | assumption | exact u32z | exact u64z | exact u8z | (intro _ h;cases h;done) | (intro h;exact absurd h (by simp)))
 split at h
 ·unfold rdBye at h
  simp only at h
  have e1:=words_R (Go.Proofs.YtkdialecadjedaaGreatDoor.hC xs).toNat _ b4
  split at h
  ·cases h
  split at h
  ·cases h
   exact (by constructor<;>first | assumption | exact u32z | exact u64z | exact u8z | (intro _ h;cases h;done) | (intro h;exact absurd h (by simp)))
  split at h
  ·cases h
  split at h
  ·cases h
  split at h
  ·cases h
  split at h
  ·cases h
   exact (by constructor<;>first | assumption | exact u32z | exact u64z | exact u8z | (intro _ h;cases h;done) | (intro h;exact absurd h (by simp)))
  ·cases h
 split at h
 ·split at h
  ·cases h
  ·cases h
   exact (by constructor<;>first | assumption | exact u32z | exact u64z | exact u8z | (intro _ h;cases h;done) | (intro h;exact absurd h (by simp)))
 split at h
 ·cases h
 unfold rdFb at h
 simp only at h
 split at h
 ·rename_i hk
  split at h
  ·cases h
   rcases hk with rfl | rfl
   ·exact (by constructor<;>first | assumption | exact u32z | exact u64z | exact u8z | (intro _ h;cases h;done) | (intro h;exact absurd h (by simp)))
   ·exact (by constructor<;>first | assumption | exact u32z | exact u64z | exact u8z | (intro _ h;cases h;done) | (intro h;exact absurd h (by simp)))
  ·cases h
 split at h
 ·split at h
  ·cases h
  ·cases h
   have e1:=pairsL_R (((xs.drop 4).drop 8).length / 4) _ b8
   exact (by constructor<;>first | assumption | exact u32z | exact u64z | exact u8z | (intro _ h;cases h;done) | (intro h;exact absurd h (by simp)))
 split at h
 ·split at h
  ·cases h
  ·cases h
   have e1:=sliceL_R (((xs.drop 4).drop 8).length / 4) _ b8
   exact (by constructor<;>first | assumption | exact u32z | exact u64z | exact u8z | (intro _ h;cases h;done) | (intro h;exact absurd h (by simp)))
 split at h
 ·cases hq:entryL (((xs.drop 4).drop 8).length / 8) ((xs.drop 4).drop 8) with
  | none=>rw [hq] at h;cases h
  | some l=>
   rw [hq] at h
   simp only at h
   have e1:=entryL_R _ _ _ hq b8
   split at h
   ·cases h
   ·cases h
    exact (by constructor<;>first | assumption | exact u32z | exact u64z | exact u8z | (intro _ h;cases h;done) | (intro h;exact absurd h (by simp)))
 split at h
 ·unfold rdRemb at h
  have hv:=n24_lt (b8.drop 5)
  split at h
  ·cases h
  split at h
  ·cases h
  split at h
  ·cases h
  split at h
  ·cases h
  split at h
  ·cases h
  rename_i hv0
  cases h
  have e1:=words_R (((xs.drop 4).drop 8).getD 4 0).toNat _ (b8.drop 8)
  have e2:∃m i:Nat,0 < m/\m < 262144/\i<=63/\((sgl (n24 (((xs.drop 4).drop 8).drop 5) % 262144).toNat (n24 (((xs.drop 4).drop 8).drop 5) / 262144).toNat:Nat):Int)=(sgl m i:Int):=⟨_,_,by omega,by omega,by omega,rfl⟩
  have e3:(12:Int)=12->∃m i:Nat,0 < m/\m < 262144/\i<=63/\((sgl (n24 (((xs.drop 4).drop 8).drop 5) % 262144).toNat (n24 (((xs.drop 4).drop 8).drop 5) / 262144).toNat:Nat):Int)=(sgl m i:Int):=fun _=>e2
  exact (by constructor<;>first | assumption | exact u32z | exact u64z | exact u8z | (intro _ h;cases h;done) | (intro h;exact absurd h (by simp)))
 split at h
 ·unfold rdCc at h
  cases hq:blocksL ((xs.drop 4).drop 4).length ((xs.drop 4).drop 4) with
  | none=>rw [hq] at h;cases h
  | some q=>
   obtain ⟨l,ys⟩:=q
   rw [hq] at h
   simp only at h
   obtain ⟨e1,e2⟩:=blocksL_R _ _ _ _ hq b44
   have e3:=n32_lt e2
   split at h
   ·cases h
    exact (by constructor<;>first | assumption | exact u32z | exact u64z | exact u8z | (intro _ h;cases h;done) | (intro h;exact absurd h (by simp)))
   ·cases h
 ·unfold rdT at h
  split at h
  ·cases h
  split at h
  ·cases h
  split at h
  ·cases h
  split at h
  ·cases h
  split at h
  ·cases h
  split at h
  ·cases h
   exact (by constructor<;>first | assumption | exact u32z | exact u64z | exact u8z | (intro _ h;cases h;done) | (intro h;exact absurd h (by simp)))
  ·cases h
theorem go_FoOk {xs:List Int} {p:Pk} (hb:By xs) (h:go xs=some p) (hn:xs.length<=131072):FoOk p:=by
 have hR:FoR p:=by
  have hgo:=h
  unfold go at h
  split at h
  ·rename_i h0
   have hok:hdrOk xs=true:=by
    cases hh:hdrOk xs with
    | true=>rfl
    | false=>unfold rdOne at h0;rw [if_pos hh] at h0;exact absurd h0 (by decide)
   have hlen:4*(hL xs+1)=(xs.length:Int):=by
    by_cases hl:4*(hL xs+1)=(xs.length:Int)
    ·exact hl
    ·unfold rdOne at h0;rw [if_neg (by rw [hok];decide),if_pos hl] at h0;exact absurd h0 (by decide)
   have hd:Hd xs (hT xs) (hC xs):=⟨hok,hlen,rfl,rfl⟩
   by_cases hk0:kindOf (hT xs) (hC xs)=0
   ·have hr:=go_raw hd hk0
    rw [hgo] at hr
    split at hr
    ·cases hr
    ·cases hr
     have e1:(0:Int)=0->By xs:=fun _=>hb
     exact (by constructor<;>first | assumption | exact u32z | exact u64z | exact u8z | (intro _ h;cases h;done) | (intro h;exact absurd h (by simp)))
   ·have hr:=go_gd hd hk0
    rw [hgo] at hr
    obtain ⟨_,hr⟩:=gd_some hr.symm
    cases h
    exact body_FoR hb hr
  ·cases h
 have hkk:0<=p.kind/\p.kind<=13:=by
  by_cases hk:p.kind=13
  ·omega
  ·have hG:=go_Gd h hk;exact ⟨hG.lo,by have:=hG.hi;omega⟩
 exact ⟨hkk.1,hkk.2,fun hk=>by have:=(go_Gd h hk).sz;omega,hR.s,hR.m,hR.ntp,hR.rtp,hR.pks,hR.ocs,hR.tim,hR.reps,hR.chks,hR.srcs,hR.sub,hR.prs,hR.sls,hR.ens,hR.bls,hR.bits,hR.dat⟩
theorem go_len {xs:List Int} {p:Pk} (h:go xs=some p):4<=xs.length:=by
 unfold go at h
 split at h
 ·rename_i h0
  have hok:hdrOk xs=true:=by
   cases hh:hdrOk xs with
   | true=>rfl
   | false=>unfold rdOne at h0;rw [if_pos hh] at h0;exact absurd h0 (by decide)
  simp only [hdrOk,Bool.and_eq_true,decide_eq_true_eq] at hok
  exact hok.1
 ·cases h
theorem allGo_sum:∀(l:List (List Int)) (L:List Pk),allGo l=some L->(∀x∈l,By x)->(L.map fmB).sum<=(l.map fun x=>491*x.length).sum
 | [],L,h,_=>by
  cases h;simp
 | x::r,L,h,hb=>by
  unfold allGo at h
  cases hx:go x with
  | none=>rw [hx] at h;cases h
  | some p=>
   rw [hx] at h
   cases hr:allGo r with
   | none=>rw [hr] at h;cases h
   | some l'=>
    rw [hr] at h
    cases h
    have ih:=allGo_sum r l' hr (fun y hy=>hb y (mt hy))
    have h2:=go_len hx
    have h3:fmB p<=491*x.length:=by
     unfold fmB
     split
     ·omega
     ·rename_i hk
      have h1:=(go_Gd hx hk).sz
      omega
    simp only [List.map_cons,List.sum_cons]
    omega
theorem pcs_sum:∀(f:Nat) (xs:List Int),((pcs f xs).map fun x=>491*x.length).sum<=491*xs.length
 | 0,_=>by simp [pcs]
 | f+1,xs=>by
  unfold pcs
  split
  ·simp
  split
  ·have ih:=pcs_sum f (xs.drop (hN xs))
   rw [List.length_drop] at ih
   simp only [List.map_cons,List.sum_cons,List.length_take]
   omega
  ·simp
theorem allGo_FoOk {f:Nat} {xs:List Int} {L:List Pk} (hb:By xs) (h:allGo (pcs f xs)=some L) (hn:xs.length<=131072):∀p∈L,FoOk p:=by
 intro p hp
 obtain ⟨x,hx,hg⟩:=(allGo_mem _ _ h).2 p hp
 obtain ⟨h1,h2⟩:=pcs_mem _ _ _ hx
 exact go_FoOk (h2 hb) hg (by omega)
theorem sgl_u32 {m i:Nat} (h0:0 < m) (h1:m < 262144) (hi:i<=63):(0:Int)<=(sgl m i:Int)/\(sgl m i:Int) < 4294967296:=by
 have:=sgl_small h0 h1 hi
 omega
theorem str_len {xs ys:List Int} (h:(strOfNums xs).toList=(strOfNums ys).toList):xs.length=ys.length:=by
 rw [Lib.strOfNums_toList,Lib.strOfNums_toList] at h
 have:=congrArg List.length h
 simpa [Lib.bytesOf] using this
theorem c5 {w:World} {ro:List Ro} {a:Option Addr} {n c:Nat} {xs:List Int} (H:Sat ⟨w,fun _=>False⟩ w [] ro) (hx:Ro.B xs a n c∈ro) (hb:By xs) (hE:ErrC False ro) :
  Calls pg 5 #[.slice a n c] w fun en w'=>en=.returned (.bool true)/\w.grownBy w' none:=by
 have hG:∀{w':World} {ex:List Ex} {ro:List Ro},Sat ⟨w,fun _=>False⟩ w' ex ro->w.grownBy w' none:=fun h=>Gr.none h.gr (fun _ _ h=>h)
 generalize hF:(⟨w,fun _=>False⟩:Fr)=F at H hG
 apply of5
 have hlen:=H.lenB hx
 refine ⟨fun _=>⟨rfl,hG H⟩,fun _=>?_⟩
 refine ⟨fun _=>⟨rfl,hG H⟩,fun h=>?_⟩
 rw [decide_eq_false_iff_not] at h
 refine call_j (c11 H hx hb (by omega)) ?_
 clear H
 rintro _ w1 (⟨_,rfl,H⟩ | ⟨_,_,_,rfl,H⟩ | ⟨hne,hsp,L,o,oc,hall,rfl,H⟩)
 ·refine ⟨_,_,_,_,rfl,?_⟩
  have H2:=(H.nilOwn 63 30).freeze
  clear H
  refine call_j (c20 (L:=[]) H2 ms (by simp) (by simp) (by simp)) ?_
  clear H2
  rintro _ w2 ⟨a2,c2,X,ok,ro',rfl,_,H,_⟩
  refine ⟨_,_,_,_,rfl,?_⟩
  exact ⟨fun _=>⟨rfl,hG H⟩,fun h=>absurd h (by decide)⟩
 ·refine ⟨_,_,_,_,rfl,?_⟩
  have H2:=(H.nilOwn 63 30).freeze
  clear H
  refine call_j (c20 (L:=[]) H2 ms (by simp) (by simp) (by simp)) ?_
  clear H2
  rintro _ w2 ⟨a2,c2,X,ok,ro',rfl,_,H,_⟩
  refine ⟨_,_,_,_,rfl,?_⟩
  exact ⟨fun _=>⟨rfl,hG H⟩,fun h=>absurd h (by decide)⟩
 refine ⟨_,_,_,_,rfl,?_⟩
 have hfo:=allGo_FoOk hb hall (by omega)
 have hgd:=allGo_Gd hall
 have hLl:L.length<=1000000:=by
  have h1:=(allGo_mem _ _ hall).1
  have h2:=pcs_len xs.length xs
  omega
 have hsum:(L.map fmB).sum<=90000000:=by
  have h1:=allGo_sum _ _ hall (fun x hx=>(pcs_mem _ _ _ hx).2 hb)
  have h2:=pcs_sum xs.length xs
  omega
 refine call_j (c20 H ms hLl hfo hsum) ?_
 clear H
 rintro _ w2 ⟨a2,c2,X,ok,ro2,rfl,hr2,H,hm2,hok⟩
 refine ⟨_,_,_,_,rfl,?_⟩
 refine fF ?_
 refine ⟨fun _=>⟨rfl,hG H⟩,fun h1=>?_⟩
 have h1:ok=true:=by simpa using h1
 have hx2:=hr2 _ (mt hx)
 refine ⟨_,_,sStr H hm2 uSl uU8 uStr,?_⟩
 refine ⟨_,_,sStr (xs:=xs) (a:=a) (n:=n) (c:=c) H hx2 uSl uU8 uStr,?_⟩
 refine ⟨fun _=>⟨rfl,hG H⟩,fun h2=>?_⟩
 have h2:(strOfNums X).toList=(strOfNums xs).toList:=by simpa using h2
 have hXl:=str_len h2
 obtain ⟨hLne,_,h3⟩:=hok h1
 obtain ⟨hW,rfl⟩:=h3 (by omega)
 have hgl:gl xs.length xs=some L:=by rw [gl_pcs _ _ hsp,hall]
 have hk13:∀p∈L,p.kind≠13:=fun p hp=>by have:=(hW p hp).hi;omega
 refine call_j (c12 H hx2 hb (hE.mono (fun r h=>hr2 r (mt h))) (by omega) hLne hgl (fun p hp=>by rw [<-hlen];exact hgd p hp (hk13 p hp)) hLl) ?_
 clear H
 rintro _ w3 ⟨o3,oc3,ro3,rfl,hr3,H,hm3⟩
 refine ⟨_,_,_,_,rfl,?_⟩
 refine call_j (c18 H hm3 hLl (fun p hp=>?_) hW (by omega)) ?_
 ·have hp1:=hW p hp
  refine ⟨hp1.lo,hp1.hi,?_,fun hk=>?_⟩
  ·have h4:=(hgd p hp (hk13 p hp)).sz
   omega
  ·obtain ⟨m,i,h5,h6,h7,h8⟩:=(hfo p hp).bits hk
   rw [h8]
   exact sgl_u32 h5 h6 h7
 clear H
 rintro _ w4 ⟨o4,oc4,ro4,rfl,hr4,H,hm4⟩
 refine ⟨_,_,_,_,rfl,?_⟩
 refine fT ?_
 refine fT ?_
 refine ⟨_,_,sStr H hm4 uSl uU8 uStr,?_⟩
 refine ⟨_,_,sStr (xs:=xs) (a:=a) (n:=n) (c:=c) H (hr4 _ (hr3 _ hx2)) uSl uU8 uStr,?_⟩
 refine ⟨?_,hG H⟩
 rw [h2]
 simp
end Go.Proofs.YtkdialecadjedaaGreatDoor
