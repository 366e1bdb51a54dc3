/- impl.MarshalOne and impl.Size, for transport-wide feedback (no statement of the seat is proved here; conditions: what is written was read from such bytes). -/
import Derived.Test.YtkdialecadjedaaGreatW5
namespace Go.Proofs.YtkdialecadjedaaGreat
set_option linter.unusedVariables false
set_option linter.unusedSimpArgs false
set_option linter.unusedSectionVars false
open Go

set_option maxRecDepth 20000 in
theorem c21 {F : Fr} {w : World} {e0 : Ex} {ex : List Ex} {ro : List Ro} {xs : List Int} {p1 p3 : Nat} {v3 : Value} {st de : Option Addr} {sc ec : Nat} {vs : List Int} {ds : List Del}
    (H : Sat F w (e0 :: .blk p3 22 [v3] :: .blk p1 51 (tcPk xs (.slice st vs.length sc) (.slice de ds.length ec)) :: ex) ro) (hb : By xs) (hT : Tcc xs vs ds) (hn : xs.length ≤ 1000000)
    (hst : Ro.deep [.row 5 ((vs.map sta1).flatMap Sta.dat)] [.slice st vs.length sc] ∈ ro) (hde : Ro.deep [.row 2 (ds.flatMap Del.dat)] [.slice de ds.length ec] ∈ ro) :
    Calls pg 21 #[.pointer (some ⟨p1, 0, none⟩), .pointer (some ⟨p3, 0, none⟩)] w fun en w' => en = .returned (.bool true) ∧
      ∃ a c, Sat F w' (e0 :: .blk p3 22 [.slice a xs.length c] :: .blk p1 51 (tcPk xs (.slice st vs.length sc) (.slice de ds.length ec)) :: ex) (Ro.B xs a xs.length c :: ro) := by
  apply of21
  obtain ⟨hvr, hvl, hdl⟩ := hT.sizes hb
  refine ⟨_, (by first | exact Ld0 rfl H.b0 (by kernel_rfl) | exact Ld0 rfl H.b1 (by kernel_rfl) | exact Ld0 rfl H.b2 (by kernel_rfl) | exact Ld0 rfl H.b3 (by kernel_rfl) | exact Ld0 rfl H.b4 (by kernel_rfl) | exact Ld0 rfl H.b5 (by kernel_rfl) | exact Ld0 rfl H.b6 (by kernel_rfl) | exact Ld0 rfl H.b7 (by kernel_rfl) | exact Ld0 rfl H.b8 (by kernel_rfl) | exact Ld0 rfl H.b9 (by kernel_rfl)), ?_⟩
  refine call_j (c18 H hst hde hvr (by omega) (by omega)) ?_
  clear H
  rintro _ w ⟨b, ca, cc, da, dc, rfl, _, _, H⟩
  refine ⟨_, rfl, ?_⟩
  refine inv_val (f := 159) (e := 204) (by kernel_rfl) (by rfl) (by kernel_rfl) (Ld0 rfl H.b0 (by kernel_rfl)) (call_j (c159 H hb hT hn List.mem_cons_self (List.mem_cons_of_mem _ List.mem_cons_self)) ?_)
  clear H
  rintro _ w ⟨a, c, rfl, H⟩
  refine ⟨_, _, _, _, rfl, ?_⟩
  refine sSt2 H (by first | exact add_flat _ _ _ | exact add_flat2 _ _ _ _ | rfl) (by kernel_rfl) (by rfl) (by first | rfl | (simp only [List.all_cons, List.all_nil, Value.cells]; simp [*])) ?_; clear H; intro w _ H
  refine ⟨by simp [isIf], rfl, a, c, H.sub (List.sublist_cons_self _ _) (fun r hr => ?_)⟩
  simp only [List.mem_cons] at hr ⊢
  rcases hr with rfl | hr
  · simp
  · simp [hr]
theorem c6 {F : Fr} {w : World} {ex : List Ex} {ro : List Ro} {xs : List Int} {st de : Option Addr} {sc ec : Nat} {vs : List Int} {ds : List Del}
    (H : Sat F w ex ro) (hb : By xs) (hT : Tcc xs vs ds) (hn : xs.length ≤ 1000000)
    (hst : Ro.deep [.row 5 ((vs.map sta1).flatMap Sta.dat)] [.slice st vs.length sc] ∈ ro) (hde : Ro.deep [.row 2 (ds.flatMap Del.dat)] [.slice de ds.length ec] ∈ ro) :
    Calls pg 6 #[.agg (tcPk xs (.slice st vs.length sc) (.slice de ds.length ec)).toArray] w fun en w' => ∃ a c, en = .returned (.tuple #[.slice a xs.length c, .bool true]) ∧ Sat F w' ex (Ro.B xs a xs.length c :: ro) := by
  apply of6
  refine sNew H ?_; clear H; intro p1 w _ H
  refine sNew H ?_; clear H; intro p3 w _ H
  refine sTry H (by kernel_rfl) ?_
  clear H; intro tb w H
  refine call_j (c21 H hb hT hn hst hde) ?_
  clear H
  rintro _ w ⟨rfl, a, c, H⟩
  refine ⟨true, _, _, rfl, H, ?_⟩
  clear H; intro w H
  refine ⟨_, rfl, ?_⟩
  refine ⟨fun hc => absurd hc (by decide), fun _ => ?_⟩
  refine ⟨_, _, _, (by first | exact Ce (by first | exact add_flat _ _ _ | exact add_flat2 _ _ _ _ | rfl) H.b0 rfl | exact Ce (by first | exact add_flat _ _ _ | exact add_flat2 _ _ _ _ | rfl) H.b1 rfl | exact Ce (by first | exact add_flat _ _ _ | exact add_flat2 _ _ _ _ | rfl) H.b2 rfl | exact Ce (by first | exact add_flat _ _ _ | exact add_flat2 _ _ _ _ | rfl) H.b3 rfl | exact Ce (by first | exact add_flat _ _ _ | exact add_flat2 _ _ _ _ | rfl) H.b4 rfl | exact Ce (by first | exact add_flat _ _ _ | exact add_flat2 _ _ _ _ | rfl) H.b5 rfl | exact Ce (by first | exact add_flat _ _ _ | exact add_flat2 _ _ _ _ | rfl) H.b6 rfl | exact Ce (by first | exact add_flat _ _ _ | exact add_flat2 _ _ _ _ | rfl) H.b7 rfl | exact Ce (by first | exact add_flat _ _ _ | exact add_flat2 _ _ _ _ | rfl) H.b8 rfl | exact Ce (by first | exact add_flat _ _ _ | exact add_flat2 _ _ _ _ | rfl) H.b9 rfl), ?_⟩
  refine sSt0 H (by first | exact add_flat _ _ _ | exact add_flat2 _ _ _ _ | rfl) (by kernel_rfl) (by rfl) (by first | rfl | (simp only [List.all_cons, List.all_nil, Value.cells]; simp [*])) ?_; clear H; intro w _ H
  refine ⟨_, _, _, (by first | exact Ce (by first | exact add_flat _ _ _ | exact add_flat2 _ _ _ _ | rfl) H.b0 rfl | exact Ce (by first | exact add_flat _ _ _ | exact add_flat2 _ _ _ _ | rfl) H.b1 rfl | exact Ce (by first | exact add_flat _ _ _ | exact add_flat2 _ _ _ _ | rfl) H.b2 rfl | exact Ce (by first | exact add_flat _ _ _ | exact add_flat2 _ _ _ _ | rfl) H.b3 rfl | exact Ce (by first | exact add_flat _ _ _ | exact add_flat2 _ _ _ _ | rfl) H.b4 rfl | exact Ce (by first | exact add_flat _ _ _ | exact add_flat2 _ _ _ _ | rfl) H.b5 rfl | exact Ce (by first | exact add_flat _ _ _ | exact add_flat2 _ _ _ _ | rfl) H.b6 rfl | exact Ce (by first | exact add_flat _ _ _ | exact add_flat2 _ _ _ _ | rfl) H.b7 rfl | exact Ce (by first | exact add_flat _ _ _ | exact add_flat2 _ _ _ _ | rfl) H.b8 rfl | exact Ce (by first | exact add_flat _ _ _ | exact add_flat2 _ _ _ _ | rfl) H.b9 rfl), ?_⟩
  refine ⟨a, c, rfl, H.sub ?_ (fun _ h => h)⟩
  exact (List.sublist_cons_self _ _).trans (List.sublist_cons_self _ _)
set_option maxRecDepth 20000 in
theorem c22 {F : Fr} {w : World} {e0 : Ex} {ex : List Ex} {ro : List Ro} {xs : List Int} {p1 p3 : Nat} {v3 : Value} {st de : Option Addr} {sc ec : Nat} {vs : List Int} {ds : List Del}
    (H : Sat F w (e0 :: .blk p3 3 [v3] :: .blk p1 51 (tcPk xs (.slice st vs.length sc) (.slice de ds.length ec)) :: ex) ro) (hb : By xs) (hT : Tcc xs vs ds) (hn : xs.length ≤ 1000000)
    (hst : Ro.deep [.row 5 ((vs.map sta1).flatMap Sta.dat)] [.slice st vs.length sc] ∈ ro) (hde : Ro.deep [.row 2 (ds.flatMap Del.dat)] [.slice de ds.length ec] ∈ ro) :
    Calls pg 22 #[.pointer (some ⟨p1, 0, none⟩), .pointer (some ⟨p3, 0, none⟩)] w fun en w' => en = .returned (.bool true) ∧
      Sat F w' (e0 :: .blk p3 3 [.int .i64 (xs.length : Int)] :: .blk p1 51 (tcPk xs (.slice st vs.length sc) (.slice de ds.length ec)) :: ex) ro := by
  apply of22
  obtain ⟨hvr, hvl, hdl⟩ := hT.sizes hb
  obtain ⟨f, zs, tl, hC, hD, hz1, hz2, hz3, hxl, hzs⟩ := tcc_rest hT
  have hsz := tccD_sz _ _ _ _ (fun x hx => recv_mem hx) hD
  have hLl := hT.len
  refine ⟨_, (by first | exact Ld0 rfl H.b0 (by kernel_rfl) | exact Ld0 rfl H.b1 (by kernel_rfl) | exact Ld0 rfl H.b2 (by kernel_rfl) | exact Ld0 rfl H.b3 (by kernel_rfl) | exact Ld0 rfl H.b4 (by kernel_rfl) | exact Ld0 rfl H.b5 (by kernel_rfl) | exact Ld0 rfl H.b6 (by kernel_rfl) | exact Ld0 rfl H.b7 (by kernel_rfl) | exact Ld0 rfl H.b8 (by kernel_rfl) | exact Ld0 rfl H.b9 (by kernel_rfl)), ?_⟩
  refine call_j (c18 H hst hde hvr (by omega) (by omega)) ?_
  clear H
  rintro _ w ⟨b, ca, cc, da, dc, rfl, _, _, H⟩
  refine ⟨_, rfl, ?_⟩
  refine inv_ptr (f := 160) (e := 204) (by kernel_rfl) (by rfl) (by kernel_rfl) (call_j (c160 (N := xs.length) H (List.mem_cons_of_mem _ List.mem_cons_self) (by omega) (by omega) (by omega) (by omega)) ?_)
  clear H
  rintro _ w ⟨rfl, H⟩
  refine ⟨_, rfl, ?_⟩
  refine sSt2 H (by first | exact add_flat _ _ _ | exact add_flat2 _ _ _ _ | rfl) (by kernel_rfl) (by rfl) (by first | rfl | (simp only [List.all_cons, List.all_nil, Value.cells]; simp [*])) ?_; clear H; intro w _ H
  refine ⟨rfl, H.sub (List.sublist_cons_self _ _) (fun r hr => by simp [hr])⟩
theorem c7 {F : Fr} {w : World} {ex : List Ex} {ro : List Ro} {xs : List Int} {st de : Option Addr} {sc ec : Nat} {vs : List Int} {ds : List Del}
    (H : Sat F w ex ro) (hb : By xs) (hT : Tcc xs vs ds) (hn : xs.length ≤ 1000000)
    (hst : Ro.deep [.row 5 ((vs.map sta1).flatMap Sta.dat)] [.slice st vs.length sc] ∈ ro) (hde : Ro.deep [.row 2 (ds.flatMap Del.dat)] [.slice de ds.length ec] ∈ ro) :
    Calls pg 7 #[.agg (tcPk xs (.slice st vs.length sc) (.slice de ds.length ec)).toArray] w fun en w' => en = .returned (.int .i64 (xs.length : Int)) ∧ Sat F w' ex ro := by
  apply of7
  refine sNew H ?_; clear H; intro p1 w _ H
  refine sNew H ?_; clear H; intro p3 w _ H
  refine sTry H (by kernel_rfl) ?_
  clear H; intro tb w H
  refine call_j (c22 H hb hT hn hst hde) ?_
  clear H
  rintro _ w ⟨rfl, H⟩
  refine ⟨true, _, _, rfl, H, ?_⟩
  clear H; intro w H
  refine ⟨_, rfl, ?_⟩
  refine ⟨fun hc => absurd hc (by decide), fun _ => ?_⟩
  refine ⟨_, (by first | exact Ce (by first | exact add_flat _ _ _ | exact add_flat2 _ _ _ _ | rfl) H.b0 rfl | exact Ce (by first | exact add_flat _ _ _ | exact add_flat2 _ _ _ _ | rfl) H.b1 rfl | exact Ce (by first | exact add_flat _ _ _ | exact add_flat2 _ _ _ _ | rfl) H.b2 rfl | exact Ce (by first | exact add_flat _ _ _ | exact add_flat2 _ _ _ _ | rfl) H.b3 rfl | exact Ce (by first | exact add_flat _ _ _ | exact add_flat2 _ _ _ _ | rfl) H.b4 rfl | exact Ce (by first | exact add_flat _ _ _ | exact add_flat2 _ _ _ _ | rfl) H.b5 rfl | exact Ce (by first | exact add_flat _ _ _ | exact add_flat2 _ _ _ _ | rfl) H.b6 rfl | exact Ce (by first | exact add_flat _ _ _ | exact add_flat2 _ _ _ _ | rfl) H.b7 rfl | exact Ce (by first | exact add_flat _ _ _ | exact add_flat2 _ _ _ _ | rfl) H.b8 rfl | exact Ce (by first | exact add_flat _ _ _ | exact add_flat2 _ _ _ _ | rfl) H.b9 rfl), ?_⟩
  refine sSt0 H (by first | exact add_flat _ _ _ | exact add_flat2 _ _ _ _ | rfl) (by kernel_rfl) (by rfl) (by first | rfl | (simp only [List.all_cons, List.all_nil, Value.cells]; simp [*])) ?_; clear H; intro w _ H
  refine ⟨_, (by first | exact Ce (by first | exact add_flat _ _ _ | exact add_flat2 _ _ _ _ | rfl) H.b0 rfl | exact Ce (by first | exact add_flat _ _ _ | exact add_flat2 _ _ _ _ | rfl) H.b1 rfl | exact Ce (by first | exact add_flat _ _ _ | exact add_flat2 _ _ _ _ | rfl) H.b2 rfl | exact Ce (by first | exact add_flat _ _ _ | exact add_flat2 _ _ _ _ | rfl) H.b3 rfl | exact Ce (by first | exact add_flat _ _ _ | exact add_flat2 _ _ _ _ | rfl) H.b4 rfl | exact Ce (by first | exact add_flat _ _ _ | exact add_flat2 _ _ _ _ | rfl) H.b5 rfl | exact Ce (by first | exact add_flat _ _ _ | exact add_flat2 _ _ _ _ | rfl) H.b6 rfl | exact Ce (by first | exact add_flat _ _ _ | exact add_flat2 _ _ _ _ | rfl) H.b7 rfl | exact Ce (by first | exact add_flat _ _ _ | exact add_flat2 _ _ _ _ | rfl) H.b8 rfl | exact Ce (by first | exact add_flat _ _ _ | exact add_flat2 _ _ _ _ | rfl) H.b9 rfl), ?_⟩
  refine ⟨rfl, H.sub ?_ (fun _ h => h)⟩
  exact (List.sublist_cons_self _ _).trans (List.sublist_cons_self _ _)
end Go.Proofs.YtkdialecadjedaaGreat
