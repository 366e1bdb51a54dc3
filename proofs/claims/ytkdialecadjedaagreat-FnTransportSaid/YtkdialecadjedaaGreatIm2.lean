/- Transport-wide feedback of rtcp's as plain data (no statement of the seat is proved here; conditions: none). -/
import Derived.Test.YtkdialecadjedaaGreatIm1
namespace Go.Proofs.YtkdialecadjedaaGreat
set_option linter.unusedVariables false
set_option linter.unusedSimpArgs false
set_option linter.unusedSectionVars false
open Go

set_option maxHeartbeats 4000000 in
theorem c40 {F : Fr} {w : World} {ex : List Ex} {ro : List Ro} {b : Nat} {T : TypeId} {hp : Bool} {hn ht hl s m bs cn rf fb : Int} {ca da : Option Addr} {cc dc : Nat} {vs : List Int} {ds : List Del}
    (H : Sat F w (.blk b T (tcV hp hn ht hl s m bs cn rf fb (.slice ca vs.length cc) (.slice da ds.length dc)) :: ex) ro) (hch : Ro.deep [.row 1 (vs.map chD)] [.slice ca vs.length cc] ∈ ro) (hde : Ro.deep [.row 1 (ds.map deD)] [.slice da ds.length dc] ∈ ro)
    (hvr : ∀ v ∈ vs, 0 ≤ v ∧ v < 65536) (hvl : vs.length ≤ 1000000) (hdl : ds.length ≤ 1000000) : Calls pg 40 #[.pointer (some ⟨b, 0, none⟩)] w fun en w' =>
      ∃ st sc de ec, en = .returned (.agg (pkT s m hp hn ht hl bs cn rf fb (.slice st vs.length sc) (.slice de ds.length ec)).toArray) ∧
        Sat F w' (.blk b T (tcV hp hn ht hl s m bs cn rf fb (.slice ca vs.length cc) (.slice da ds.length dc)) :: ex) (.deep [.row 5 ((vs.map sta1).flatMap Sta.dat)] [.slice st vs.length sc] :: .deep [.row 2 (ds.flatMap Del.dat)] [.slice de ds.length ec] :: ro) := by
  apply of40
  refine sNew H ?_; clear H; intro b1 w _ H
  generalize hz : #[Value.int .i64 0, .int .u32 0, .int .u32 0, .int .u64 0, .int .u32 0, .int .u32 0, .int .u32 0, .slice none 0 0, .slice none 0 0, .slice none 0 0, .slice none 0 0, .string (ByteArray.mk #[]), .int .u8 0, .slice none 0 0, .slice none 0 0, .slice none 0 0, .slice none 0 0, .int .u32 0, .slice none 0 0, .int .u32 0, .int .u16 0, .int .u16 0, .int .u32 0, .int .u8 0, .slice none 0 0, .slice none 0 0, .bool false, .int .u8 0, .int .u8 0, .int .u16 0].toList = zz at H
  have hz30 : zz.length = 30 := by rw [← hz]; rfl
  clear hz
  refine ⟨none, ?_⟩; replace H := H.drew; generalize w.drew = wd1 at H ⊢; have K := grew_refl wd1 (none)
  refine ⟨_, rfl, ?_⟩
  refine ⟨(by first | exact Option.some_ne_none _ | exact H.ne (by first | exact List.mem_cons_self | (apply List.mem_cons_of_mem; first | exact List.mem_cons_self | (apply List.mem_cons_of_mem; first | exact List.mem_cons_self | (apply List.mem_cons_of_mem; first | exact List.mem_cons_self | (apply List.mem_cons_of_mem; first | exact List.mem_cons_self | (apply List.mem_cons_of_mem; first | exact List.mem_cons_self | (apply List.mem_cons_of_mem; first | exact List.mem_cons_self | (apply List.mem_cons_of_mem; first | exact List.mem_cons_self)))))))) (by first | exact List.mem_cons_self | (apply List.mem_cons_of_mem; first | exact List.mem_cons_self | (apply List.mem_cons_of_mem; first | exact List.mem_cons_self | (apply List.mem_cons_of_mem; first | exact List.mem_cons_self | (apply List.mem_cons_of_mem; first | exact List.mem_cons_self | (apply List.mem_cons_of_mem; first | exact List.mem_cons_self | (apply List.mem_cons_of_mem; first | exact List.mem_cons_self | (apply List.mem_cons_of_mem; first | exact List.mem_cons_self))))))))), ?_⟩
  refine ⟨(by first | exact H.b0.row | exact H.b1.row | exact H.b2.row | exact H.b3.row | exact H.b4.row | exact H.b5.row | exact H.b6.row | exact H.b7.row), ?_⟩
  refine ⟨_, _, _, _, Ld (vs := [.bool hp, .int .u8 hn, .int .u8 ht, .int .u16 hl]) rfl H.b1 (by kernel_rfl) (by rfl) (by rfl), ?_⟩
  refine ⟨_, rfl, ?_⟩
  refine ⟨(by first | exact Option.some_ne_none _ | exact H.ne (by first | exact List.mem_cons_self | (apply List.mem_cons_of_mem; first | exact List.mem_cons_self | (apply List.mem_cons_of_mem; first | exact List.mem_cons_self | (apply List.mem_cons_of_mem; first | exact List.mem_cons_self | (apply List.mem_cons_of_mem; first | exact List.mem_cons_self | (apply List.mem_cons_of_mem; first | exact List.mem_cons_self | (apply List.mem_cons_of_mem; first | exact List.mem_cons_self | (apply List.mem_cons_of_mem; first | exact List.mem_cons_self)))))))) (by first | exact List.mem_cons_self | (apply List.mem_cons_of_mem; first | exact List.mem_cons_self | (apply List.mem_cons_of_mem; first | exact List.mem_cons_self | (apply List.mem_cons_of_mem; first | exact List.mem_cons_self | (apply List.mem_cons_of_mem; first | exact List.mem_cons_self | (apply List.mem_cons_of_mem; first | exact List.mem_cons_self | (apply List.mem_cons_of_mem; first | exact List.mem_cons_self | (apply List.mem_cons_of_mem; first | exact List.mem_cons_self))))))))), ?_⟩
  refine ⟨(by first | exact H.b0.row | exact H.b1.row | exact H.b2.row | exact H.b3.row | exact H.b4.row | exact H.b5.row | exact H.b6.row | exact H.b7.row), ?_⟩
  refine ⟨_, (by first | exact Ce (by first | exact add_flat _ _ _ | exact add_flat2 _ _ _ _ | rfl) H.b0 rfl | exact Ce (by first | exact add_flat _ _ _ | exact add_flat2 _ _ _ _ | rfl) H.b1 rfl | exact Ce (by first | exact add_flat _ _ _ | exact add_flat2 _ _ _ _ | rfl) H.b2 rfl | exact Ce (by first | exact add_flat _ _ _ | exact add_flat2 _ _ _ _ | rfl) H.b3 rfl | exact Ce (by first | exact add_flat _ _ _ | exact add_flat2 _ _ _ _ | rfl) H.b4 rfl | exact Ce (by first | exact add_flat _ _ _ | exact add_flat2 _ _ _ _ | rfl) H.b5 rfl | exact Ce (by first | exact add_flat _ _ _ | exact add_flat2 _ _ _ _ | rfl) H.b6 rfl | exact Ce (by first | exact add_flat _ _ _ | exact add_flat2 _ _ _ _ | rfl) H.b7 rfl | exact Ce (by first | exact add_flat _ _ _ | exact add_flat2 _ _ _ _ | rfl) H.b8 rfl | exact Ce (by first | exact add_flat _ _ _ | exact add_flat2 _ _ _ _ | rfl) H.b9 rfl), ?_⟩
  refine ⟨_, rfl, ?_⟩
  refine ⟨(by first | exact Option.some_ne_none _ | exact H.ne (by first | exact List.mem_cons_self | (apply List.mem_cons_of_mem; first | exact List.mem_cons_self | (apply List.mem_cons_of_mem; first | exact List.mem_cons_self | (apply List.mem_cons_of_mem; first | exact List.mem_cons_self | (apply List.mem_cons_of_mem; first | exact List.mem_cons_self | (apply List.mem_cons_of_mem; first | exact List.mem_cons_self | (apply List.mem_cons_of_mem; first | exact List.mem_cons_self | (apply List.mem_cons_of_mem; first | exact List.mem_cons_self)))))))) (by first | exact List.mem_cons_self | (apply List.mem_cons_of_mem; first | exact List.mem_cons_self | (apply List.mem_cons_of_mem; first | exact List.mem_cons_self | (apply List.mem_cons_of_mem; first | exact List.mem_cons_self | (apply List.mem_cons_of_mem; first | exact List.mem_cons_self | (apply List.mem_cons_of_mem; first | exact List.mem_cons_self | (apply List.mem_cons_of_mem; first | exact List.mem_cons_self | (apply List.mem_cons_of_mem; first | exact List.mem_cons_self))))))))), ?_⟩
  refine ⟨(by first | exact H.b0.row | exact H.b1.row | exact H.b2.row | exact H.b3.row | exact H.b4.row | exact H.b5.row | exact H.b6.row | exact H.b7.row), ?_⟩
  refine ⟨_, (by first | exact Ce (by first | exact add_flat _ _ _ | exact add_flat2 _ _ _ _ | rfl) H.b0 rfl | exact Ce (by first | exact add_flat _ _ _ | exact add_flat2 _ _ _ _ | rfl) H.b1 rfl | exact Ce (by first | exact add_flat _ _ _ | exact add_flat2 _ _ _ _ | rfl) H.b2 rfl | exact Ce (by first | exact add_flat _ _ _ | exact add_flat2 _ _ _ _ | rfl) H.b3 rfl | exact Ce (by first | exact add_flat _ _ _ | exact add_flat2 _ _ _ _ | rfl) H.b4 rfl | exact Ce (by first | exact add_flat _ _ _ | exact add_flat2 _ _ _ _ | rfl) H.b5 rfl | exact Ce (by first | exact add_flat _ _ _ | exact add_flat2 _ _ _ _ | rfl) H.b6 rfl | exact Ce (by first | exact add_flat _ _ _ | exact add_flat2 _ _ _ _ | rfl) H.b7 rfl | exact Ce (by first | exact add_flat _ _ _ | exact add_flat2 _ _ _ _ | rfl) H.b8 rfl | exact Ce (by first | exact add_flat _ _ _ | exact add_flat2 _ _ _ _ | rfl) H.b9 rfl), ?_⟩
  refine ⟨_, rfl, ?_⟩
  refine ⟨(by first | exact Option.some_ne_none _ | exact H.ne (by first | exact List.mem_cons_self | (apply List.mem_cons_of_mem; first | exact List.mem_cons_self | (apply List.mem_cons_of_mem; first | exact List.mem_cons_self | (apply List.mem_cons_of_mem; first | exact List.mem_cons_self | (apply List.mem_cons_of_mem; first | exact List.mem_cons_self | (apply List.mem_cons_of_mem; first | exact List.mem_cons_self | (apply List.mem_cons_of_mem; first | exact List.mem_cons_self | (apply List.mem_cons_of_mem; first | exact List.mem_cons_self)))))))) (by first | exact List.mem_cons_self | (apply List.mem_cons_of_mem; first | exact List.mem_cons_self | (apply List.mem_cons_of_mem; first | exact List.mem_cons_self | (apply List.mem_cons_of_mem; first | exact List.mem_cons_self | (apply List.mem_cons_of_mem; first | exact List.mem_cons_self | (apply List.mem_cons_of_mem; first | exact List.mem_cons_self | (apply List.mem_cons_of_mem; first | exact List.mem_cons_self | (apply List.mem_cons_of_mem; first | exact List.mem_cons_self))))))))), ?_⟩
  refine ⟨(by first | exact H.b0.row | exact H.b1.row | exact H.b2.row | exact H.b3.row | exact H.b4.row | exact H.b5.row | exact H.b6.row | exact H.b7.row), ?_⟩
  refine ⟨_, (by first | exact Ce (by first | exact add_flat _ _ _ | exact add_flat2 _ _ _ _ | rfl) H.b0 rfl | exact Ce (by first | exact add_flat _ _ _ | exact add_flat2 _ _ _ _ | rfl) H.b1 rfl | exact Ce (by first | exact add_flat _ _ _ | exact add_flat2 _ _ _ _ | rfl) H.b2 rfl | exact Ce (by first | exact add_flat _ _ _ | exact add_flat2 _ _ _ _ | rfl) H.b3 rfl | exact Ce (by first | exact add_flat _ _ _ | exact add_flat2 _ _ _ _ | rfl) H.b4 rfl | exact Ce (by first | exact add_flat _ _ _ | exact add_flat2 _ _ _ _ | rfl) H.b5 rfl | exact Ce (by first | exact add_flat _ _ _ | exact add_flat2 _ _ _ _ | rfl) H.b6 rfl | exact Ce (by first | exact add_flat _ _ _ | exact add_flat2 _ _ _ _ | rfl) H.b7 rfl | exact Ce (by first | exact add_flat _ _ _ | exact add_flat2 _ _ _ _ | rfl) H.b8 rfl | exact Ce (by first | exact add_flat _ _ _ | exact add_flat2 _ _ _ _ | rfl) H.b9 rfl), ?_⟩
  refine ⟨_, rfl, ?_⟩
  refine ⟨(by first | exact Option.some_ne_none _ | exact H.ne (by first | exact List.mem_cons_self | (apply List.mem_cons_of_mem; first | exact List.mem_cons_self | (apply List.mem_cons_of_mem; first | exact List.mem_cons_self | (apply List.mem_cons_of_mem; first | exact List.mem_cons_self | (apply List.mem_cons_of_mem; first | exact List.mem_cons_self | (apply List.mem_cons_of_mem; first | exact List.mem_cons_self | (apply List.mem_cons_of_mem; first | exact List.mem_cons_self | (apply List.mem_cons_of_mem; first | exact List.mem_cons_self)))))))) (by first | exact List.mem_cons_self | (apply List.mem_cons_of_mem; first | exact List.mem_cons_self | (apply List.mem_cons_of_mem; first | exact List.mem_cons_self | (apply List.mem_cons_of_mem; first | exact List.mem_cons_self | (apply List.mem_cons_of_mem; first | exact List.mem_cons_self | (apply List.mem_cons_of_mem; first | exact List.mem_cons_self | (apply List.mem_cons_of_mem; first | exact List.mem_cons_self | (apply List.mem_cons_of_mem; first | exact List.mem_cons_self))))))))), ?_⟩
  refine ⟨(by first | exact H.b0.row | exact H.b1.row | exact H.b2.row | exact H.b3.row | exact H.b4.row | exact H.b5.row | exact H.b6.row | exact H.b7.row), ?_⟩
  refine ⟨_, (by first | exact Ce (by first | exact add_flat _ _ _ | exact add_flat2 _ _ _ _ | rfl) H.b0 rfl | exact Ce (by first | exact add_flat _ _ _ | exact add_flat2 _ _ _ _ | rfl) H.b1 rfl | exact Ce (by first | exact add_flat _ _ _ | exact add_flat2 _ _ _ _ | rfl) H.b2 rfl | exact Ce (by first | exact add_flat _ _ _ | exact add_flat2 _ _ _ _ | rfl) H.b3 rfl | exact Ce (by first | exact add_flat _ _ _ | exact add_flat2 _ _ _ _ | rfl) H.b4 rfl | exact Ce (by first | exact add_flat _ _ _ | exact add_flat2 _ _ _ _ | rfl) H.b5 rfl | exact Ce (by first | exact add_flat _ _ _ | exact add_flat2 _ _ _ _ | rfl) H.b6 rfl | exact Ce (by first | exact add_flat _ _ _ | exact add_flat2 _ _ _ _ | rfl) H.b7 rfl | exact Ce (by first | exact add_flat _ _ _ | exact add_flat2 _ _ _ _ | rfl) H.b8 rfl | exact Ce (by first | exact add_flat _ _ _ | exact add_flat2 _ _ _ _ | rfl) H.b9 rfl), ?_⟩
  refine ⟨_, rfl, ?_⟩
  refine ⟨(by first | exact Option.some_ne_none _ | exact H.ne (by first | exact List.mem_cons_self | (apply List.mem_cons_of_mem; first | exact List.mem_cons_self | (apply List.mem_cons_of_mem; first | exact List.mem_cons_self | (apply List.mem_cons_of_mem; first | exact List.mem_cons_self | (apply List.mem_cons_of_mem; first | exact List.mem_cons_self | (apply List.mem_cons_of_mem; first | exact List.mem_cons_self | (apply List.mem_cons_of_mem; first | exact List.mem_cons_self | (apply List.mem_cons_of_mem; first | exact List.mem_cons_self)))))))) (by first | exact List.mem_cons_self | (apply List.mem_cons_of_mem; first | exact List.mem_cons_self | (apply List.mem_cons_of_mem; first | exact List.mem_cons_self | (apply List.mem_cons_of_mem; first | exact List.mem_cons_self | (apply List.mem_cons_of_mem; first | exact List.mem_cons_self | (apply List.mem_cons_of_mem; first | exact List.mem_cons_self | (apply List.mem_cons_of_mem; first | exact List.mem_cons_self | (apply List.mem_cons_of_mem; first | exact List.mem_cons_self))))))))), ?_⟩
  refine ⟨(by first | exact H.b0.row | exact H.b1.row | exact H.b2.row | exact H.b3.row | exact H.b4.row | exact H.b5.row | exact H.b6.row | exact H.b7.row), ?_⟩
  refine ⟨_, (by first | exact Ce (by first | exact add_flat _ _ _ | exact add_flat2 _ _ _ _ | rfl) H.b0 rfl | exact Ce (by first | exact add_flat _ _ _ | exact add_flat2 _ _ _ _ | rfl) H.b1 rfl | exact Ce (by first | exact add_flat _ _ _ | exact add_flat2 _ _ _ _ | rfl) H.b2 rfl | exact Ce (by first | exact add_flat _ _ _ | exact add_flat2 _ _ _ _ | rfl) H.b3 rfl | exact Ce (by first | exact add_flat _ _ _ | exact add_flat2 _ _ _ _ | rfl) H.b4 rfl | exact Ce (by first | exact add_flat _ _ _ | exact add_flat2 _ _ _ _ | rfl) H.b5 rfl | exact Ce (by first | exact add_flat _ _ _ | exact add_flat2 _ _ _ _ | rfl) H.b6 rfl | exact Ce (by first | exact add_flat _ _ _ | exact add_flat2 _ _ _ _ | rfl) H.b7 rfl | exact Ce (by first | exact add_flat _ _ _ | exact add_flat2 _ _ _ _ | rfl) H.b8 rfl | exact Ce (by first | exact add_flat _ _ _ | exact add_flat2 _ _ _ _ | rfl) H.b9 rfl), ?_⟩
  refine ⟨_, rfl, ?_⟩
  refine ⟨(by first | exact Option.some_ne_none _ | exact H.ne (by first | exact List.mem_cons_self | (apply List.mem_cons_of_mem; first | exact List.mem_cons_self | (apply List.mem_cons_of_mem; first | exact List.mem_cons_self | (apply List.mem_cons_of_mem; first | exact List.mem_cons_self | (apply List.mem_cons_of_mem; first | exact List.mem_cons_self | (apply List.mem_cons_of_mem; first | exact List.mem_cons_self | (apply List.mem_cons_of_mem; first | exact List.mem_cons_self | (apply List.mem_cons_of_mem; first | exact List.mem_cons_self)))))))) (by first | exact List.mem_cons_self | (apply List.mem_cons_of_mem; first | exact List.mem_cons_self | (apply List.mem_cons_of_mem; first | exact List.mem_cons_self | (apply List.mem_cons_of_mem; first | exact List.mem_cons_self | (apply List.mem_cons_of_mem; first | exact List.mem_cons_self | (apply List.mem_cons_of_mem; first | exact List.mem_cons_self | (apply List.mem_cons_of_mem; first | exact List.mem_cons_self | (apply List.mem_cons_of_mem; first | exact List.mem_cons_self))))))))), ?_⟩
  refine ⟨(by first | exact H.b0.row | exact H.b1.row | exact H.b2.row | exact H.b3.row | exact H.b4.row | exact H.b5.row | exact H.b6.row | exact H.b7.row), ?_⟩
  refine ⟨_, (by first | exact Ce (by first | exact add_flat _ _ _ | exact add_flat2 _ _ _ _ | rfl) H.b0 rfl | exact Ce (by first | exact add_flat _ _ _ | exact add_flat2 _ _ _ _ | rfl) H.b1 rfl | exact Ce (by first | exact add_flat _ _ _ | exact add_flat2 _ _ _ _ | rfl) H.b2 rfl | exact Ce (by first | exact add_flat _ _ _ | exact add_flat2 _ _ _ _ | rfl) H.b3 rfl | exact Ce (by first | exact add_flat _ _ _ | exact add_flat2 _ _ _ _ | rfl) H.b4 rfl | exact Ce (by first | exact add_flat _ _ _ | exact add_flat2 _ _ _ _ | rfl) H.b5 rfl | exact Ce (by first | exact add_flat _ _ _ | exact add_flat2 _ _ _ _ | rfl) H.b6 rfl | exact Ce (by first | exact add_flat _ _ _ | exact add_flat2 _ _ _ _ | rfl) H.b7 rfl | exact Ce (by first | exact add_flat _ _ _ | exact add_flat2 _ _ _ _ | rfl) H.b8 rfl | exact Ce (by first | exact add_flat _ _ _ | exact add_flat2 _ _ _ _ | rfl) H.b9 rfl), ?_⟩
  refine ⟨?_, ?_⟩
  · refine call_j (c44) ?_
    rintro _ w ⟨rfl, g⟩
    replace H := H.grow g; replace K := World.grownBy.trans K (grew_none _ g); clear g
    refine ⟨_, _, _, _, rfl, ?_⟩
    refine ⟨K, ?_⟩
    refine sNew H ?_; clear H; intro q w g H; replace K := World.grownBy.trans K (grew_none _ g); clear g
    refine ⟨K, ?_⟩
    refine sSw0 H rfl (by kernel_rfl) (by rfl) (by first | rfl | (simp only [List.all_cons, List.all_nil, Value.cells]; simp [*])) ?_; clear H K; intro w g H; clear g
    refine ⟨_, rfl, ?_⟩
    refine ⟨_, _, _, (by first | exact Ce (by first | exact add_flat _ _ _ | exact add_flat2 _ _ _ _ | rfl) H.b0 rfl | exact Ce (by first | exact add_flat _ _ _ | exact add_flat2 _ _ _ _ | rfl) H.b1 rfl | exact Ce (by first | exact add_flat _ _ _ | exact add_flat2 _ _ _ _ | rfl) H.b2 rfl | exact Ce (by first | exact add_flat _ _ _ | exact add_flat2 _ _ _ _ | rfl) H.b3 rfl | exact Ce (by first | exact add_flat _ _ _ | exact add_flat2 _ _ _ _ | rfl) H.b4 rfl | exact Ce (by first | exact add_flat _ _ _ | exact add_flat2 _ _ _ _ | rfl) H.b5 rfl | exact Ce (by first | exact add_flat _ _ _ | exact add_flat2 _ _ _ _ | rfl) H.b6 rfl | exact Ce (by first | exact add_flat _ _ _ | exact add_flat2 _ _ _ _ | rfl) H.b7 rfl | exact Ce (by first | exact add_flat _ _ _ | exact add_flat2 _ _ _ _ | rfl) H.b8 rfl | exact Ce (by first | exact add_flat _ _ _ | exact add_flat2 _ _ _ _ | rfl) H.b9 rfl), ?_⟩
    refine ⟨fun x37 m_33 w => ∃ (j : Nat) (st : Option Addr) (sc : Nat) (sr : Option Nat), x37 = (j : Int) ∧ j + m_33 = vs.length ∧
      Sat F w (.blk q 51 (pkT s m hp hn ht hl bs cn rf fb (.slice st j sc) (.slice none 0 0)) :: .own 205 5 st j sc sr (((vs.take j).map sta1).flatMap Sta.dat) :: .blk b1 51 zz :: .blk b T (tcV hp hn ht hl s m bs cn rf fb (.slice ca vs.length cc) (.slice da ds.length dc)) :: ex) ro, ⟨vs.length, 0, none, 0, none, rfl, by omega, H.nilOwn 205 5 |>.u1⟩, ?_⟩
    clear H; rintro dd32 x37 m_33 w ⟨j, st, sc, sr, rfl, hjm, H⟩
    refine ⟨fun hc => ?_, fun hc => ?_⟩   -- (decide (x37 < ((x30l : Nat) : Int)))
    · rw [decide_eq_true_eq] at hc
      have hjl : j < vs.length := by omega
      obtain ⟨bb, oo, us, rfl, hul, hcell, H1⟩ := H.elts hch (by omega)
      rw [List.length_map] at hul
      have H2 := H1.splitRo List.mem_cons_self j (d := chD vs[j]) (v := us[j]) (by rw [List.getElem?_map, List.getElem?_eq_getElem hjl]; rfl) (List.getElem?_eq_getElem (by omega))
      refine ⟨_, rfl, by omega, by omega, ?_⟩   -- x30[x37]
      refine ⟨_, (by rw [show (j : Int).toNat * 1 = j by omega, add_flat]; exact hcell j us[j] (List.getElem?_eq_getElem (by omega))), ?_⟩
      clear hcell H H1
      generalize us[j] = u at H2 ⊢
      have hch' : Ro.deep [.row 1 (vs.map chD)] [.slice (some ⟨bb, oo, none⟩) vs.length cc] ∈ ro := hch
      have htk : vs.take (j + 1) = vs.take j ++ [vs[j]] := by rw [List.take_add_one, List.getElem?_eq_getElem hjl]; rfl
      have hvj : (symL vs[j]).length ≤ 8191 := symL_len (hvr _ (List.getElem_mem hjl))
      generalize vs[j] = v at H2 htk hvj
      have hnext : ∀ (st' : Option Addr) (sc' : Nat) (sr' : Option Nat) (w : World) (ro' : List Ro), (∀ r ∈ ro, r ∈ ro') →
          Sat F w (.blk q 51 (pkT s m hp hn ht hl bs cn rf fb (.slice st' (j + 1) sc') (.slice none 0 0)) :: .own 205 5 st' (j + 1) sc' sr' (((vs.take j).map sta1).flatMap Sta.dat ++ Sta.dat (sta1 v)) :: .blk b1 51 zz :: .blk b T (tcV hp hn ht hl s m bs cn rf fb (.slice (some ⟨bb, oo, none⟩) vs.length cc) (.slice da ds.length dc)) :: ex) ro' →
          ∃ m', m' < m_33 ∧ ∃ (j' : Nat) (st : Option Addr) (sc : Nat) (sr : Option Nat), IntKind.i64.wrap ((j : Int) + (1 : Int)) = (j' : Int) ∧ j' + m' = vs.length ∧
            Sat F w (.blk q 51 (pkT s m hp hn ht hl bs cn rf fb (.slice st j' sc) (.slice none 0 0)) :: .own 205 5 st j' sc sr (((vs.take j').map sta1).flatMap Sta.dat) :: .blk b1 51 zz :: .blk b T (tcV hp hn ht hl s m bs cn rf fb (.slice (some ⟨bb, oo, none⟩) vs.length cc) (.slice da ds.length dc)) :: ex) ro := by
        intro st' sc' sr' w ro' hr H
        refine ⟨m_33 - 1, by omega, j + 1, st', sc', sr', ?_, by omega, ?_⟩
        · rw [wi64_of (by omega) (by omega)]; simp
        · rw [htk, List.map_append, List.flatMap_append]
          simp only [List.map_cons, List.map_nil, List.flatMap_cons, List.flatMap_nil, List.append_nil]
          exact H.sub (List.Sublist.refl _) hr
      by_cases hv0 : v / 32768 = 0
      · rw [chD_run hv0] at H2
        have hst : sta1 v = (false, v / 8192 % 4, 0, v % 8192, []) := if_pos hv0
        obtain ⟨v1, rfl, H3⟩ := H2.ifc List.mem_cons_self
        obtain ⟨pb, rfl, _⟩ := H3.chRun (us := [.nilIface, .int .u16 0, .int .u16 (v / 8192 % 4), .int .u16 (v % 8192)]) List.mem_cons_self
        refine ⟨_, _, fun wx => ta_no (by kernel_rfl) (by decide) wx, ?_⟩
        refine ⟨fun hc => absurd hc (by decide), fun _ => ?_⟩
        refine ⟨_, _, fun wx => ta_yes (by kernel_rfl) wx, ?_⟩
        refine ⟨fun _ => ?_, fun hc => absurd hc (by decide)⟩
        have H := H3
        clear H2 H3
        refine ⟨sr, ?_⟩; replace H := H.drew; generalize w.drew = wd3 at H ⊢; have K := grew_refl wd3 (sr)
        obtain ⟨pb', e, hcell, hrow, hft⟩ := H.chRun (us := [.nilIface, .int .u16 0, .int .u16 (v / 8192 % 4), .int .u16 (v % 8192)]) List.mem_cons_self
        cases e
        refine ⟨(by first | exact Option.some_ne_none _ | exact H.ne (by first | exact List.mem_cons_self | (apply List.mem_cons_of_mem; first | exact List.mem_cons_self | (apply List.mem_cons_of_mem; first | exact List.mem_cons_self | (apply List.mem_cons_of_mem; first | exact List.mem_cons_self | (apply List.mem_cons_of_mem; first | exact List.mem_cons_self | (apply List.mem_cons_of_mem; first | exact List.mem_cons_self | (apply List.mem_cons_of_mem; first | exact List.mem_cons_self | (apply List.mem_cons_of_mem; first | exact List.mem_cons_self)))))))) (by first | exact List.mem_cons_self | (apply List.mem_cons_of_mem; first | exact List.mem_cons_self | (apply List.mem_cons_of_mem; first | exact List.mem_cons_self | (apply List.mem_cons_of_mem; first | exact List.mem_cons_self | (apply List.mem_cons_of_mem; first | exact List.mem_cons_self | (apply List.mem_cons_of_mem; first | exact List.mem_cons_self | (apply List.mem_cons_of_mem; first | exact List.mem_cons_self | (apply List.mem_cons_of_mem; first | exact List.mem_cons_self))))))))), ?_⟩
        refine ⟨(by first | exact H.b0.row | exact H.b1.row | exact H.b2.row | exact H.b3.row | exact H.b4.row | exact H.b5.row | exact H.b6.row | exact H.b7.row), ?_⟩
        refine ⟨_, _, _, (by first | exact Ce (by first | exact add_flat _ _ _ | exact add_flat2 _ _ _ _ | rfl) H.b0 rfl | exact Ce (by first | exact add_flat _ _ _ | exact add_flat2 _ _ _ _ | rfl) H.b1 rfl | exact Ce (by first | exact add_flat _ _ _ | exact add_flat2 _ _ _ _ | rfl) H.b2 rfl | exact Ce (by first | exact add_flat _ _ _ | exact add_flat2 _ _ _ _ | rfl) H.b3 rfl | exact Ce (by first | exact add_flat _ _ _ | exact add_flat2 _ _ _ _ | rfl) H.b4 rfl | exact Ce (by first | exact add_flat _ _ _ | exact add_flat2 _ _ _ _ | rfl) H.b5 rfl | exact Ce (by first | exact add_flat _ _ _ | exact add_flat2 _ _ _ _ | rfl) H.b6 rfl | exact Ce (by first | exact add_flat _ _ _ | exact add_flat2 _ _ _ _ | rfl) H.b7 rfl | exact Ce (by first | exact add_flat _ _ _ | exact add_flat2 _ _ _ _ | rfl) H.b8 rfl | exact Ce (by first | exact add_flat _ _ _ | exact add_flat2 _ _ _ _ | rfl) H.b9 rfl), ?_⟩
        refine ⟨_, rfl, ?_⟩
        refine ⟨H.ne_own (by first | exact List.mem_cons_self | (apply List.mem_cons_of_mem; first | exact List.mem_cons_self | (apply List.mem_cons_of_mem; first | exact List.mem_cons_self | (apply List.mem_cons_of_mem; first | exact List.mem_cons_self | (apply List.mem_cons_of_mem; first | exact List.mem_cons_self | (apply List.mem_cons_of_mem; first | exact List.mem_cons_self | (apply List.mem_cons_of_mem; first | exact List.mem_cons_self | (apply List.mem_cons_of_mem; first | exact List.mem_cons_self)))))))) hft, hrow, ?_⟩
        refine ⟨_, hcell 2 _ rfl, ?_⟩
        refine ⟨_, rfl, ?_⟩
        refine ⟨H.ne_own (by first | exact List.mem_cons_self | (apply List.mem_cons_of_mem; first | exact List.mem_cons_self | (apply List.mem_cons_of_mem; first | exact List.mem_cons_self | (apply List.mem_cons_of_mem; first | exact List.mem_cons_self | (apply List.mem_cons_of_mem; first | exact List.mem_cons_self | (apply List.mem_cons_of_mem; first | exact List.mem_cons_self | (apply List.mem_cons_of_mem; first | exact List.mem_cons_self | (apply List.mem_cons_of_mem; first | exact List.mem_cons_self)))))))) hft, hrow, ?_⟩
        refine ⟨_, hcell 3 _ rfl, ?_⟩
        refine ⟨rfl, ?_⟩
        clear hcell hrow hft
        refine sNew H ?_; clear H; intro b63 w g H; replace K := World.grownBy.trans K (grew_none _ g); clear g
        refine ⟨K, ?_⟩
        refine sApp2 H (bytes := 32) (by kernel_rfl) [.bool false, .int .u16 (v / 8192 % 4), .int .u16 0, .int .u16 (v % 8192), .slice none 0 0] (Sta.dat (sta1 v)) (by rfl) (fun j u hu => by rw [add_flat, Nat.zero_add]; exact H.b0.cell hu) (fun G h => by rw [hst]; exact DeepL.cons (.one _) (DeepL.cons (.one _) (DeepL.cons (.one _) (DeepL.cons (.one _) (DeepL.cons (.emp _ _) (DeepL.nil _ _)))))) (by simp [Value.oneCell']) (by unfold maxLen; omega) (by omega) ?_
        clear H; intro x65 x65l x65c x65r w ex65 g H
        replace K := World.grownBy.trans K g; clear g; replace H := H.sub (List.sublist_cons_self _ _) (fun _ h => h)
        refine ⟨K, ?_⟩
        refine sSt0 H (by first | exact add_flat _ _ _ | exact add_flat2 _ _ _ _ | rfl) (by kernel_rfl) (by rfl) (by first | rfl | (simp only [List.all_cons, List.all_nil, Value.cells]; simp [*])) ?_; clear H; intro w _ H
        subst ex65
        refine hnext x65 x65c x65r w _ ?_ H
        intro r hr; simp [hr]
      · rw [chD_vec hv0] at H2
        have hst : sta1 v = (true, 0, v / 16384 % 2, 0, symL v) := if_neg hv0
        obtain ⟨v1, rfl, H3⟩ := H2.ifc List.mem_cons_self
        obtain ⟨pb, sa, sn, scc, rfl, _⟩ := H3.chVec List.mem_cons_self
        refine ⟨_, _, fun wx => ta_yes (by kernel_rfl) wx, ?_⟩
        refine ⟨fun _ => ?_, fun hc => absurd hc (by decide)⟩
        have H := H3
        clear H2 H3
        refine ⟨sr, ?_⟩; replace H := H.drew; generalize w.drew = wd2 at H ⊢; have K := grew_refl wd2 (sr)
        obtain ⟨pb', sa', sn', scc', e, hcell, hrow, hft, hln, H1⟩ := H.chVec List.mem_cons_self
        cases e
        replace H := H1
        clear H1
        rw [oi_length] at hln
        refine ⟨(by first | exact Option.some_ne_none _ | exact H.ne (by first | exact List.mem_cons_self | (apply List.mem_cons_of_mem; first | exact List.mem_cons_self | (apply List.mem_cons_of_mem; first | exact List.mem_cons_self | (apply List.mem_cons_of_mem; first | exact List.mem_cons_self | (apply List.mem_cons_of_mem; first | exact List.mem_cons_self | (apply List.mem_cons_of_mem; first | exact List.mem_cons_self | (apply List.mem_cons_of_mem; first | exact List.mem_cons_self | (apply List.mem_cons_of_mem; first | exact List.mem_cons_self)))))))) (by first | exact List.mem_cons_self | (apply List.mem_cons_of_mem; first | exact List.mem_cons_self | (apply List.mem_cons_of_mem; first | exact List.mem_cons_self | (apply List.mem_cons_of_mem; first | exact List.mem_cons_self | (apply List.mem_cons_of_mem; first | exact List.mem_cons_self | (apply List.mem_cons_of_mem; first | exact List.mem_cons_self | (apply List.mem_cons_of_mem; first | exact List.mem_cons_self | (apply List.mem_cons_of_mem; first | exact List.mem_cons_self))))))))), ?_⟩
        refine ⟨(by first | exact H.b0.row | exact H.b1.row | exact H.b2.row | exact H.b3.row | exact H.b4.row | exact H.b5.row | exact H.b6.row | exact H.b7.row), ?_⟩
        refine ⟨_, _, _, (by first | exact Ce (by first | exact add_flat _ _ _ | exact add_flat2 _ _ _ _ | rfl) H.b0 rfl | exact Ce (by first | exact add_flat _ _ _ | exact add_flat2 _ _ _ _ | rfl) H.b1 rfl | exact Ce (by first | exact add_flat _ _ _ | exact add_flat2 _ _ _ _ | rfl) H.b2 rfl | exact Ce (by first | exact add_flat _ _ _ | exact add_flat2 _ _ _ _ | rfl) H.b3 rfl | exact Ce (by first | exact add_flat _ _ _ | exact add_flat2 _ _ _ _ | rfl) H.b4 rfl | exact Ce (by first | exact add_flat _ _ _ | exact add_flat2 _ _ _ _ | rfl) H.b5 rfl | exact Ce (by first | exact add_flat _ _ _ | exact add_flat2 _ _ _ _ | rfl) H.b6 rfl | exact Ce (by first | exact add_flat _ _ _ | exact add_flat2 _ _ _ _ | rfl) H.b7 rfl | exact Ce (by first | exact add_flat _ _ _ | exact add_flat2 _ _ _ _ | rfl) H.b8 rfl | exact Ce (by first | exact add_flat _ _ _ | exact add_flat2 _ _ _ _ | rfl) H.b9 rfl), ?_⟩
        refine ⟨_, rfl, ?_⟩
        refine ⟨H.ne_own (by first | exact List.mem_cons_self | (apply List.mem_cons_of_mem; first | exact List.mem_cons_self | (apply List.mem_cons_of_mem; first | exact List.mem_cons_self | (apply List.mem_cons_of_mem; first | exact List.mem_cons_self | (apply List.mem_cons_of_mem; first | exact List.mem_cons_self | (apply List.mem_cons_of_mem; first | exact List.mem_cons_self | (apply List.mem_cons_of_mem; first | exact List.mem_cons_self | (apply List.mem_cons_of_mem; first | exact List.mem_cons_self)))))))) hft, hrow, ?_⟩
        refine ⟨_, hcell 2 _ rfl, ?_⟩
        refine ⟨_, rfl, ?_⟩
        refine ⟨H.ne_own (by first | exact List.mem_cons_self | (apply List.mem_cons_of_mem; first | exact List.mem_cons_self | (apply List.mem_cons_of_mem; first | exact List.mem_cons_self | (apply List.mem_cons_of_mem; first | exact List.mem_cons_self | (apply List.mem_cons_of_mem; first | exact List.mem_cons_self | (apply List.mem_cons_of_mem; first | exact List.mem_cons_self | (apply List.mem_cons_of_mem; first | exact List.mem_cons_self | (apply List.mem_cons_of_mem; first | exact List.mem_cons_self)))))))) hft, hrow, ?_⟩
        refine ⟨_, _, _, hcell 3 _ rfl, ?_⟩
        clear hcell hrow hft
        refine call_j (c42 H List.mem_cons_self (by omega)) ?_
        rintro _ w ⟨a', c', rfl, g, H⟩
        replace K := World.grownBy.trans K (grew_none _ g); clear g
        refine ⟨_, _, _, rfl, ?_⟩
        refine ⟨K, ?_⟩
        refine ⟨rfl, ?_⟩
        refine sNew H ?_; clear H; intro b50 w g H; replace K := World.grownBy.trans K (grew_none _ g); clear g
        refine ⟨K, ?_⟩
        refine sApp2 H (bytes := 32) (by kernel_rfl) [.bool true, .int .u16 0, .int .u16 (v / 16384 % 2), .int .u16 0, .slice a' sn' c'] (Sta.dat (sta1 v)) (by rfl) (fun j u hu => by rw [add_flat, Nat.zero_add]; exact H.b0.cell hu) (fun G h => by rw [hst]; exact DeepL.cons (.one _) (DeepL.cons (.one _) (DeepL.cons (.one _) (DeepL.cons (.one _) (DeepL.cons (h (.deep [_] [_]) List.mem_cons_self).head (DeepL.nil _ _)))))) (by simp [Value.oneCell']) (by unfold maxLen; omega) (by omega) ?_
        clear H; intro x65 x65l x65c x65r w ex65 g H
        replace K := World.grownBy.trans K g; clear g; replace H := H.sub (List.sublist_cons_self _ _) (fun _ h => h)
        refine ⟨K, ?_⟩
        refine sSt0 H (by first | exact add_flat _ _ _ | exact add_flat2 _ _ _ _ | rfl) (by kernel_rfl) (by rfl) (by first | rfl | (simp only [List.all_cons, List.all_nil, Value.cells]; simp [*])) ?_; clear H; intro w _ H
        subst ex65
        refine hnext x65 x65c x65r w _ ?_ H
        intro r hr; simp [hr]
    · rw [decide_eq_false_iff_not] at hc
      obtain rfl : j = vs.length := by omega
      rw [List.take_length] at H
      clear hjm
      refine ⟨_, rfl, ?_⟩
      refine ⟨_, _, _, (by first | exact Ce (by first | exact add_flat _ _ _ | exact add_flat2 _ _ _ _ | rfl) H.b0 rfl | exact Ce (by first | exact add_flat _ _ _ | exact add_flat2 _ _ _ _ | rfl) H.b1 rfl | exact Ce (by first | exact add_flat _ _ _ | exact add_flat2 _ _ _ _ | rfl) H.b2 rfl | exact Ce (by first | exact add_flat _ _ _ | exact add_flat2 _ _ _ _ | rfl) H.b3 rfl | exact Ce (by first | exact add_flat _ _ _ | exact add_flat2 _ _ _ _ | rfl) H.b4 rfl | exact Ce (by first | exact add_flat _ _ _ | exact add_flat2 _ _ _ _ | rfl) H.b5 rfl | exact Ce (by first | exact add_flat _ _ _ | exact add_flat2 _ _ _ _ | rfl) H.b6 rfl | exact Ce (by first | exact add_flat _ _ _ | exact add_flat2 _ _ _ _ | rfl) H.b7 rfl | exact Ce (by first | exact add_flat _ _ _ | exact add_flat2 _ _ _ _ | rfl) H.b8 rfl | exact Ce (by first | exact add_flat _ _ _ | exact add_flat2 _ _ _ _ | rfl) H.b9 rfl), ?_⟩
      refine ⟨fun x76 m_72 w => ∃ (j : Nat) (de : Option Addr) (ec : Nat) (er : Option Nat), x76 = (j : Int) ∧ j + m_72 = ds.length ∧
        Sat F w (.blk q 51 (pkT s m hp hn ht hl bs cn rf fb (.slice st vs.length sc) (.slice de j ec)) :: .own 215 2 de j ec er ((ds.take j).flatMap Del.dat) :: .blk b1 51 zz :: .blk b T (tcV hp hn ht hl s m bs cn rf fb (.slice ca vs.length cc) (.slice da ds.length dc)) :: ex) (.deep [.row 5 ((vs.map sta1).flatMap Sta.dat)] [.slice st vs.length sc] :: ro), ⟨ds.length, 0, none, 0, none, rfl, by omega, (H.r1.freeze.nilOwn 215 2).u1⟩, ?_⟩
      clear H; rintro dd71 x76 m_72 w ⟨j, de, ec, er, rfl, hjm, H⟩
      refine ⟨fun hc => ?_, fun hc => ?_⟩
      · rw [decide_eq_true_eq] at hc
        have hjl : j < ds.length := by omega
        obtain ⟨bb, oo, us, rfl, hul, hcell, H1⟩ := H.elts (List.mem_cons_of_mem _ hde) (by omega)
        rw [List.length_map] at hul
        have H2 := H1.splitRo List.mem_cons_self j (d := deD ds[j]) (v := us[j]) (by rw [List.getElem?_map, List.getElem?_eq_getElem hjl]; rfl) (List.getElem?_eq_getElem (by omega))
        have hkeep : ∃ pb, us[j] = .pointer (some ⟨pb, 0, none⟩) := by
          obtain ⟨pb, e, _⟩ := H2.chRun (us := [.int .u16 ds[j].1, .int .i64 ds[j].2]) List.mem_cons_self
          exact ⟨pb, e⟩
        obtain ⟨pb, hpb⟩ := hkeep
        refine ⟨_, rfl, by omega, by omega, ?_⟩
        refine ⟨_, (by rw [show (j : Int).toNat * 1 = j by omega, add_flat]; exact hcell j (.pointer (some ⟨pb, 0, none⟩)) (by rw [← hpb]; exact List.getElem?_eq_getElem (by omega))), ?_⟩
        rw [hpb] at H2
        have htk : ds.take (j + 1) = ds.take j ++ [ds[j]] := by rw [List.take_add_one, List.getElem?_eq_getElem hjl]; rfl
        clear hcell H H1 hpb
        generalize ds[j] = D at H2 htk
        have H := H2
        clear H2
        refine ⟨er, ?_⟩; replace H := H.drew; generalize w.drew = wd4 at H ⊢; have K := grew_refl wd4 (er)
        obtain ⟨pb', e, hcell, hrow, hft⟩ := H.chRun (us := [.int .u16 D.1, .int .i64 D.2]) List.mem_cons_self
        cases e
        refine ⟨(by first | exact Option.some_ne_none _ | exact H.ne (by first | exact List.mem_cons_self | (apply List.mem_cons_of_mem; first | exact List.mem_cons_self | (apply List.mem_cons_of_mem; first | exact List.mem_cons_self | (apply List.mem_cons_of_mem; first | exact List.mem_cons_self | (apply List.mem_cons_of_mem; first | exact List.mem_cons_self | (apply List.mem_cons_of_mem; first | exact List.mem_cons_self | (apply List.mem_cons_of_mem; first | exact List.mem_cons_self | (apply List.mem_cons_of_mem; first | exact List.mem_cons_self)))))))) (by first | exact List.mem_cons_self | (apply List.mem_cons_of_mem; first | exact List.mem_cons_self | (apply List.mem_cons_of_mem; first | exact List.mem_cons_self | (apply List.mem_cons_of_mem; first | exact List.mem_cons_self | (apply List.mem_cons_of_mem; first | exact List.mem_cons_self | (apply List.mem_cons_of_mem; first | exact List.mem_cons_self | (apply List.mem_cons_of_mem; first | exact List.mem_cons_self | (apply List.mem_cons_of_mem; first | exact List.mem_cons_self))))))))), ?_⟩
        refine ⟨(by first | exact H.b0.row | exact H.b1.row | exact H.b2.row | exact H.b3.row | exact H.b4.row | exact H.b5.row | exact H.b6.row | exact H.b7.row), ?_⟩
        refine ⟨_, _, _, (by first | exact Ce (by first | exact add_flat _ _ _ | exact add_flat2 _ _ _ _ | rfl) H.b0 rfl | exact Ce (by first | exact add_flat _ _ _ | exact add_flat2 _ _ _ _ | rfl) H.b1 rfl | exact Ce (by first | exact add_flat _ _ _ | exact add_flat2 _ _ _ _ | rfl) H.b2 rfl | exact Ce (by first | exact add_flat _ _ _ | exact add_flat2 _ _ _ _ | rfl) H.b3 rfl | exact Ce (by first | exact add_flat _ _ _ | exact add_flat2 _ _ _ _ | rfl) H.b4 rfl | exact Ce (by first | exact add_flat _ _ _ | exact add_flat2 _ _ _ _ | rfl) H.b5 rfl | exact Ce (by first | exact add_flat _ _ _ | exact add_flat2 _ _ _ _ | rfl) H.b6 rfl | exact Ce (by first | exact add_flat _ _ _ | exact add_flat2 _ _ _ _ | rfl) H.b7 rfl | exact Ce (by first | exact add_flat _ _ _ | exact add_flat2 _ _ _ _ | rfl) H.b8 rfl | exact Ce (by first | exact add_flat _ _ _ | exact add_flat2 _ _ _ _ | rfl) H.b9 rfl), ?_⟩
        refine ⟨_, rfl, ?_⟩
        refine ⟨H.ne_own (by first | exact List.mem_cons_self | (apply List.mem_cons_of_mem; first | exact List.mem_cons_self | (apply List.mem_cons_of_mem; first | exact List.mem_cons_self | (apply List.mem_cons_of_mem; first | exact List.mem_cons_self | (apply List.mem_cons_of_mem; first | exact List.mem_cons_self | (apply List.mem_cons_of_mem; first | exact List.mem_cons_self | (apply List.mem_cons_of_mem; first | exact List.mem_cons_self | (apply List.mem_cons_of_mem; first | exact List.mem_cons_self)))))))) hft, hrow, ?_⟩
        refine ⟨_, hcell 0 _ rfl, ?_⟩
        refine ⟨_, rfl, ?_⟩
        refine ⟨H.ne_own (by first | exact List.mem_cons_self | (apply List.mem_cons_of_mem; first | exact List.mem_cons_self | (apply List.mem_cons_of_mem; first | exact List.mem_cons_self | (apply List.mem_cons_of_mem; first | exact List.mem_cons_self | (apply List.mem_cons_of_mem; first | exact List.mem_cons_self | (apply List.mem_cons_of_mem; first | exact List.mem_cons_self | (apply List.mem_cons_of_mem; first | exact List.mem_cons_self | (apply List.mem_cons_of_mem; first | exact List.mem_cons_self)))))))) hft, hrow, ?_⟩
        refine ⟨_, hcell 1 _ rfl, ?_⟩
        refine ⟨rfl, ?_⟩
        clear hcell hrow hft
        refine sNew H ?_; clear H; intro b85 w g H; replace K := World.grownBy.trans K (grew_none _ g); clear g
        refine ⟨K, ?_⟩
        refine sApp2 H (bytes := 16) (by kernel_rfl) [.int .u16 D.1, .int .i64 D.2] (Del.dat D) (by rfl) (fun j u hu => by rw [add_flat, Nat.zero_add]; exact H.b0.cell hu) (fun G h => by repeat (first | exact DeepL.nil _ _ | exact DeepL.ones _ | refine DeepL.cons (Deep.emp _ _) ?_ | refine DeepL.cons (Deep.one _) ?_ | refine DeepL.cons (h (.deep [_] [_]) (by assumption)).head ?_ | refine DeepL.cons (h (.deep [_] [_]) (by first | assumption | exact List.mem_cons_self | (apply List.mem_cons_of_mem; first | assumption | exact List.mem_cons_self | (apply List.mem_cons_of_mem; first | assumption | exact List.mem_cons_self | (apply List.mem_cons_of_mem; first | assumption | exact List.mem_cons_self | (apply List.mem_cons_of_mem; first | assumption | exact List.mem_cons_self | (apply List.mem_cons_of_mem; first | assumption | exact List.mem_cons_self))))))).head ?_)) (by simp [Value.oneCell']) (by unfold maxLen; omega) (by omega) ?_
        clear H; intro x87 x87l x87c x87r w ex87 g H
        replace K := World.grownBy.trans K g; clear g; replace H := H.sub (List.sublist_cons_self _ _) (fun _ h => h)
        refine ⟨K, ?_⟩
        refine sSt0 H (by first | exact add_flat _ _ _ | exact add_flat2 _ _ _ _ | rfl) (by kernel_rfl) (by rfl) (by first | rfl | (simp only [List.all_cons, List.all_nil, Value.cells]; simp [*])) ?_; clear H; intro w _ H
        subst ex87
        refine ⟨m_72 - 1, by omega, j + 1, x87, x87c, x87r, ?_, by omega, ?_⟩
        · rw [wi64_of (by omega) (by omega)]; simp
        · rw [htk, List.flatMap_append]
          simp only [List.flatMap_cons, List.flatMap_nil, List.append_nil]
          exact H.sub (List.Sublist.refl _) (fun r hr => by simp only [List.mem_cons] at hr ⊢; rcases hr with rfl | hr; simp; simp [hr])
      · rw [decide_eq_false_iff_not] at hc
        obtain rfl : j = ds.length := by omega
        rw [List.take_length] at H
        replace H := H.r1.freeze
        refine ⟨_, (by first | exact Ld0 rfl H.b0 (by kernel_rfl) | exact Ld0 rfl H.b1 (by kernel_rfl) | exact Ld0 rfl H.b2 (by kernel_rfl) | exact Ld0 rfl H.b3 (by kernel_rfl) | exact Ld0 rfl H.b4 (by kernel_rfl) | exact Ld0 rfl H.b5 (by kernel_rfl) | exact Ld0 rfl H.b6 (by kernel_rfl) | exact Ld0 rfl H.b7 (by kernel_rfl) | exact Ld0 rfl H.b8 (by kernel_rfl) | exact Ld0 rfl H.b9 (by kernel_rfl)), ?_⟩
        refine sSw1 H rfl (by kernel_rfl) (by rw [hz30]; rfl) (by first | rfl | (simp only [List.all_cons, List.all_nil, Value.cells]; simp [*])) ?_; clear H; intro w _ H
        refine ⟨_, (by first | exact Ld0 rfl H.b0 (by kernel_rfl) | exact Ld0 rfl H.b1 (by kernel_rfl) | exact Ld0 rfl H.b2 (by kernel_rfl) | exact Ld0 rfl H.b3 (by kernel_rfl) | exact Ld0 rfl H.b4 (by kernel_rfl) | exact Ld0 rfl H.b5 (by kernel_rfl) | exact Ld0 rfl H.b6 (by kernel_rfl) | exact Ld0 rfl H.b7 (by kernel_rfl) | exact Ld0 rfl H.b8 (by kernel_rfl) | exact Ld0 rfl H.b9 (by kernel_rfl)), ?_⟩
        refine ⟨st, sc, de, ec, rfl, ?_⟩
        exact H.sub (by repeat (first | exact List.Sublist.refl _ | exact List.nil_sublist _ | apply List.Sublist.cons_cons | apply List.Sublist.cons)) (fun r hr => by simp only [List.mem_cons] at hr ⊢; rcases hr with rfl | rfl | hr; simp; simp; simp [hr])
  · refine sNew H ?_; clear H; intro q w g H; replace K := World.grownBy.trans K (grew_none _ g); clear g
    refine ⟨K, ?_⟩
    refine call_j (c44) ?_
    rintro _ w ⟨rfl, g⟩
    replace H := H.grow g; replace K := World.grownBy.trans K (grew_none _ g); clear g
    refine ⟨_, _, _, _, rfl, ?_⟩
    refine ⟨K, ?_⟩
    refine sSw0 H rfl (by kernel_rfl) (by rfl) (by first | rfl | (simp only [List.all_cons, List.all_nil, Value.cells]; simp [*])) ?_; clear H K; intro w g H; clear g
    refine ⟨_, rfl, ?_⟩
    refine ⟨_, _, _, (by first | exact Ce (by first | exact add_flat _ _ _ | exact add_flat2 _ _ _ _ | rfl) H.b0 rfl | exact Ce (by first | exact add_flat _ _ _ | exact add_flat2 _ _ _ _ | rfl) H.b1 rfl | exact Ce (by first | exact add_flat _ _ _ | exact add_flat2 _ _ _ _ | rfl) H.b2 rfl | exact Ce (by first | exact add_flat _ _ _ | exact add_flat2 _ _ _ _ | rfl) H.b3 rfl | exact Ce (by first | exact add_flat _ _ _ | exact add_flat2 _ _ _ _ | rfl) H.b4 rfl | exact Ce (by first | exact add_flat _ _ _ | exact add_flat2 _ _ _ _ | rfl) H.b5 rfl | exact Ce (by first | exact add_flat _ _ _ | exact add_flat2 _ _ _ _ | rfl) H.b6 rfl | exact Ce (by first | exact add_flat _ _ _ | exact add_flat2 _ _ _ _ | rfl) H.b7 rfl | exact Ce (by first | exact add_flat _ _ _ | exact add_flat2 _ _ _ _ | rfl) H.b8 rfl | exact Ce (by first | exact add_flat _ _ _ | exact add_flat2 _ _ _ _ | rfl) H.b9 rfl), ?_⟩
    refine ⟨fun x37 m_33 w => ∃ (j : Nat) (st : Option Addr) (sc : Nat) (sr : Option Nat), x37 = (j : Int) ∧ j + m_33 = vs.length ∧
      Sat F w (.blk q 51 (pkT s m hp hn ht hl bs cn rf fb (.slice st j sc) (.slice none 0 0)) :: .own 205 5 st j sc sr (((vs.take j).map sta1).flatMap Sta.dat) :: .blk b1 51 zz :: .blk b T (tcV hp hn ht hl s m bs cn rf fb (.slice ca vs.length cc) (.slice da ds.length dc)) :: ex) ro, ⟨vs.length, 0, none, 0, none, rfl, by omega, H.nilOwn 205 5 |>.u1⟩, ?_⟩
    clear H; rintro dd32 x37 m_33 w ⟨j, st, sc, sr, rfl, hjm, H⟩
    refine ⟨fun hc => ?_, fun hc => ?_⟩   -- (decide (x37 < ((x30l : Nat) : Int)))
    · rw [decide_eq_true_eq] at hc
      have hjl : j < vs.length := by omega
      obtain ⟨bb, oo, us, rfl, hul, hcell, H1⟩ := H.elts hch (by omega)
      rw [List.length_map] at hul
      have H2 := H1.splitRo List.mem_cons_self j (d := chD vs[j]) (v := us[j]) (by rw [List.getElem?_map, List.getElem?_eq_getElem hjl]; rfl) (List.getElem?_eq_getElem (by omega))
      refine ⟨_, rfl, by omega, by omega, ?_⟩   -- x30[x37]
      refine ⟨_, (by rw [show (j : Int).toNat * 1 = j by omega, add_flat]; exact hcell j us[j] (List.getElem?_eq_getElem (by omega))), ?_⟩
      clear hcell H H1
      generalize us[j] = u at H2 ⊢
      have hch' : Ro.deep [.row 1 (vs.map chD)] [.slice (some ⟨bb, oo, none⟩) vs.length cc] ∈ ro := hch
      have htk : vs.take (j + 1) = vs.take j ++ [vs[j]] := by rw [List.take_add_one, List.getElem?_eq_getElem hjl]; rfl
      have hvj : (symL vs[j]).length ≤ 8191 := symL_len (hvr _ (List.getElem_mem hjl))
      generalize vs[j] = v at H2 htk hvj
      have hnext : ∀ (st' : Option Addr) (sc' : Nat) (sr' : Option Nat) (w : World) (ro' : List Ro), (∀ r ∈ ro, r ∈ ro') →
          Sat F w (.blk q 51 (pkT s m hp hn ht hl bs cn rf fb (.slice st' (j + 1) sc') (.slice none 0 0)) :: .own 205 5 st' (j + 1) sc' sr' (((vs.take j).map sta1).flatMap Sta.dat ++ Sta.dat (sta1 v)) :: .blk b1 51 zz :: .blk b T (tcV hp hn ht hl s m bs cn rf fb (.slice (some ⟨bb, oo, none⟩) vs.length cc) (.slice da ds.length dc)) :: ex) ro' →
          ∃ m', m' < m_33 ∧ ∃ (j' : Nat) (st : Option Addr) (sc : Nat) (sr : Option Nat), IntKind.i64.wrap ((j : Int) + (1 : Int)) = (j' : Int) ∧ j' + m' = vs.length ∧
            Sat F w (.blk q 51 (pkT s m hp hn ht hl bs cn rf fb (.slice st j' sc) (.slice none 0 0)) :: .own 205 5 st j' sc sr (((vs.take j').map sta1).flatMap Sta.dat) :: .blk b1 51 zz :: .blk b T (tcV hp hn ht hl s m bs cn rf fb (.slice (some ⟨bb, oo, none⟩) vs.length cc) (.slice da ds.length dc)) :: ex) ro := by
        intro st' sc' sr' w ro' hr H
        refine ⟨m_33 - 1, by omega, j + 1, st', sc', sr', ?_, by omega, ?_⟩
        · rw [wi64_of (by omega) (by omega)]; simp
        · rw [htk, List.map_append, List.flatMap_append]
          simp only [List.map_cons, List.map_nil, List.flatMap_cons, List.flatMap_nil, List.append_nil]
          exact H.sub (List.Sublist.refl _) hr
      by_cases hv0 : v / 32768 = 0
      · rw [chD_run hv0] at H2
        have hst : sta1 v = (false, v / 8192 % 4, 0, v % 8192, []) := if_pos hv0
        obtain ⟨v1, rfl, H3⟩ := H2.ifc List.mem_cons_self
        obtain ⟨pb, rfl, _⟩ := H3.chRun (us := [.nilIface, .int .u16 0, .int .u16 (v / 8192 % 4), .int .u16 (v % 8192)]) List.mem_cons_self
        refine ⟨_, _, fun wx => ta_no (by kernel_rfl) (by decide) wx, ?_⟩
        refine ⟨fun hc => absurd hc (by decide), fun _ => ?_⟩
        refine ⟨_, _, fun wx => ta_yes (by kernel_rfl) wx, ?_⟩
        refine ⟨fun _ => ?_, fun hc => absurd hc (by decide)⟩
        have H := H3
        clear H2 H3
        refine ⟨sr, ?_⟩; replace H := H.drew; generalize w.drew = wd3 at H ⊢; have K := grew_refl wd3 (sr)
        obtain ⟨pb', e, hcell, hrow, hft⟩ := H.chRun (us := [.nilIface, .int .u16 0, .int .u16 (v / 8192 % 4), .int .u16 (v % 8192)]) List.mem_cons_self
        cases e
        refine ⟨(by first | exact Option.some_ne_none _ | exact H.ne (by first | exact List.mem_cons_self | (apply List.mem_cons_of_mem; first | exact List.mem_cons_self | (apply List.mem_cons_of_mem; first | exact List.mem_cons_self | (apply List.mem_cons_of_mem; first | exact List.mem_cons_self | (apply List.mem_cons_of_mem; first | exact List.mem_cons_self | (apply List.mem_cons_of_mem; first | exact List.mem_cons_self | (apply List.mem_cons_of_mem; first | exact List.mem_cons_self | (apply List.mem_cons_of_mem; first | exact List.mem_cons_self)))))))) (by first | exact List.mem_cons_self | (apply List.mem_cons_of_mem; first | exact List.mem_cons_self | (apply List.mem_cons_of_mem; first | exact List.mem_cons_self | (apply List.mem_cons_of_mem; first | exact List.mem_cons_self | (apply List.mem_cons_of_mem; first | exact List.mem_cons_self | (apply List.mem_cons_of_mem; first | exact List.mem_cons_self | (apply List.mem_cons_of_mem; first | exact List.mem_cons_self | (apply List.mem_cons_of_mem; first | exact List.mem_cons_self))))))))), ?_⟩
        refine ⟨(by first | exact H.b0.row | exact H.b1.row | exact H.b2.row | exact H.b3.row | exact H.b4.row | exact H.b5.row | exact H.b6.row | exact H.b7.row), ?_⟩
        refine ⟨_, _, _, (by first | exact Ce (by first | exact add_flat _ _ _ | exact add_flat2 _ _ _ _ | rfl) H.b0 rfl | exact Ce (by first | exact add_flat _ _ _ | exact add_flat2 _ _ _ _ | rfl) H.b1 rfl | exact Ce (by first | exact add_flat _ _ _ | exact add_flat2 _ _ _ _ | rfl) H.b2 rfl | exact Ce (by first | exact add_flat _ _ _ | exact add_flat2 _ _ _ _ | rfl) H.b3 rfl | exact Ce (by first | exact add_flat _ _ _ | exact add_flat2 _ _ _ _ | rfl) H.b4 rfl | exact Ce (by first | exact add_flat _ _ _ | exact add_flat2 _ _ _ _ | rfl) H.b5 rfl | exact Ce (by first | exact add_flat _ _ _ | exact add_flat2 _ _ _ _ | rfl) H.b6 rfl | exact Ce (by first | exact add_flat _ _ _ | exact add_flat2 _ _ _ _ | rfl) H.b7 rfl | exact Ce (by first | exact add_flat _ _ _ | exact add_flat2 _ _ _ _ | rfl) H.b8 rfl | exact Ce (by first | exact add_flat _ _ _ | exact add_flat2 _ _ _ _ | rfl) H.b9 rfl), ?_⟩
        refine ⟨_, rfl, ?_⟩
        refine ⟨H.ne_own (by first | exact List.mem_cons_self | (apply List.mem_cons_of_mem; first | exact List.mem_cons_self | (apply List.mem_cons_of_mem; first | exact List.mem_cons_self | (apply List.mem_cons_of_mem; first | exact List.mem_cons_self | (apply List.mem_cons_of_mem; first | exact List.mem_cons_self | (apply List.mem_cons_of_mem; first | exact List.mem_cons_self | (apply List.mem_cons_of_mem; first | exact List.mem_cons_self | (apply List.mem_cons_of_mem; first | exact List.mem_cons_self)))))))) hft, hrow, ?_⟩
        refine ⟨_, hcell 2 _ rfl, ?_⟩
        refine ⟨_, rfl, ?_⟩
        refine ⟨H.ne_own (by first | exact List.mem_cons_self | (apply List.mem_cons_of_mem; first | exact List.mem_cons_self | (apply List.mem_cons_of_mem; first | exact List.mem_cons_self | (apply List.mem_cons_of_mem; first | exact List.mem_cons_self | (apply List.mem_cons_of_mem; first | exact List.mem_cons_self | (apply List.mem_cons_of_mem; first | exact List.mem_cons_self | (apply List.mem_cons_of_mem; first | exact List.mem_cons_self | (apply List.mem_cons_of_mem; first | exact List.mem_cons_self)))))))) hft, hrow, ?_⟩
        refine ⟨_, hcell 3 _ rfl, ?_⟩
        refine ⟨rfl, ?_⟩
        clear hcell hrow hft
        refine sNew H ?_; clear H; intro b63 w g H; replace K := World.grownBy.trans K (grew_none _ g); clear g
        refine ⟨K, ?_⟩
        refine sApp2 H (bytes := 32) (by kernel_rfl) [.bool false, .int .u16 (v / 8192 % 4), .int .u16 0, .int .u16 (v % 8192), .slice none 0 0] (Sta.dat (sta1 v)) (by rfl) (fun j u hu => by rw [add_flat, Nat.zero_add]; exact H.b0.cell hu) (fun G h => by rw [hst]; exact DeepL.cons (.one _) (DeepL.cons (.one _) (DeepL.cons (.one _) (DeepL.cons (.one _) (DeepL.cons (.emp _ _) (DeepL.nil _ _)))))) (by simp [Value.oneCell']) (by unfold maxLen; omega) (by omega) ?_
        clear H; intro x65 x65l x65c x65r w ex65 g H
        replace K := World.grownBy.trans K g; clear g; replace H := H.sub (List.sublist_cons_self _ _) (fun _ h => h)
        refine ⟨K, ?_⟩
        refine sSt0 H (by first | exact add_flat _ _ _ | exact add_flat2 _ _ _ _ | rfl) (by kernel_rfl) (by rfl) (by first | rfl | (simp only [List.all_cons, List.all_nil, Value.cells]; simp [*])) ?_; clear H; intro w _ H
        subst ex65
        refine hnext x65 x65c x65r w _ ?_ H
        intro r hr; simp [hr]
      · rw [chD_vec hv0] at H2
        have hst : sta1 v = (true, 0, v / 16384 % 2, 0, symL v) := if_neg hv0
        obtain ⟨v1, rfl, H3⟩ := H2.ifc List.mem_cons_self
        obtain ⟨pb, sa, sn, scc, rfl, _⟩ := H3.chVec List.mem_cons_self
        refine ⟨_, _, fun wx => ta_yes (by kernel_rfl) wx, ?_⟩
        refine ⟨fun _ => ?_, fun hc => absurd hc (by decide)⟩
        have H := H3
        clear H2 H3
        refine ⟨sr, ?_⟩; replace H := H.drew; generalize w.drew = wd2 at H ⊢; have K := grew_refl wd2 (sr)
        obtain ⟨pb', sa', sn', scc', e, hcell, hrow, hft, hln, H1⟩ := H.chVec List.mem_cons_self
        cases e
        replace H := H1
        clear H1
        rw [oi_length] at hln
        refine ⟨(by first | exact Option.some_ne_none _ | exact H.ne (by first | exact List.mem_cons_self | (apply List.mem_cons_of_mem; first | exact List.mem_cons_self | (apply List.mem_cons_of_mem; first | exact List.mem_cons_self | (apply List.mem_cons_of_mem; first | exact List.mem_cons_self | (apply List.mem_cons_of_mem; first | exact List.mem_cons_self | (apply List.mem_cons_of_mem; first | exact List.mem_cons_self | (apply List.mem_cons_of_mem; first | exact List.mem_cons_self | (apply List.mem_cons_of_mem; first | exact List.mem_cons_self)))))))) (by first | exact List.mem_cons_self | (apply List.mem_cons_of_mem; first | exact List.mem_cons_self | (apply List.mem_cons_of_mem; first | exact List.mem_cons_self | (apply List.mem_cons_of_mem; first | exact List.mem_cons_self | (apply List.mem_cons_of_mem; first | exact List.mem_cons_self | (apply List.mem_cons_of_mem; first | exact List.mem_cons_self | (apply List.mem_cons_of_mem; first | exact List.mem_cons_self | (apply List.mem_cons_of_mem; first | exact List.mem_cons_self))))))))), ?_⟩
        refine ⟨(by first | exact H.b0.row | exact H.b1.row | exact H.b2.row | exact H.b3.row | exact H.b4.row | exact H.b5.row | exact H.b6.row | exact H.b7.row), ?_⟩
        refine ⟨_, _, _, (by first | exact Ce (by first | exact add_flat _ _ _ | exact add_flat2 _ _ _ _ | rfl) H.b0 rfl | exact Ce (by first | exact add_flat _ _ _ | exact add_flat2 _ _ _ _ | rfl) H.b1 rfl | exact Ce (by first | exact add_flat _ _ _ | exact add_flat2 _ _ _ _ | rfl) H.b2 rfl | exact Ce (by first | exact add_flat _ _ _ | exact add_flat2 _ _ _ _ | rfl) H.b3 rfl | exact Ce (by first | exact add_flat _ _ _ | exact add_flat2 _ _ _ _ | rfl) H.b4 rfl | exact Ce (by first | exact add_flat _ _ _ | exact add_flat2 _ _ _ _ | rfl) H.b5 rfl | exact Ce (by first | exact add_flat _ _ _ | exact add_flat2 _ _ _ _ | rfl) H.b6 rfl | exact Ce (by first | exact add_flat _ _ _ | exact add_flat2 _ _ _ _ | rfl) H.b7 rfl | exact Ce (by first | exact add_flat _ _ _ | exact add_flat2 _ _ _ _ | rfl) H.b8 rfl | exact Ce (by first | exact add_flat _ _ _ | exact add_flat2 _ _ _ _ | rfl) H.b9 rfl), ?_⟩
        refine ⟨_, rfl, ?_⟩
        refine ⟨H.ne_own (by first | exact List.mem_cons_self | (apply List.mem_cons_of_mem; first | exact List.mem_cons_self | (apply List.mem_cons_of_mem; first | exact List.mem_cons_self | (apply List.mem_cons_of_mem; first | exact List.mem_cons_self | (apply List.mem_cons_of_mem; first | exact List.mem_cons_self | (apply List.mem_cons_of_mem; first | exact List.mem_cons_self | (apply List.mem_cons_of_mem; first | exact List.mem_cons_self | (apply List.mem_cons_of_mem; first | exact List.mem_cons_self)))))))) hft, hrow, ?_⟩
        refine ⟨_, hcell 2 _ rfl, ?_⟩
        refine ⟨_, rfl, ?_⟩
        refine ⟨H.ne_own (by first | exact List.mem_cons_self | (apply List.mem_cons_of_mem; first | exact List.mem_cons_self | (apply List.mem_cons_of_mem; first | exact List.mem_cons_self | (apply List.mem_cons_of_mem; first | exact List.mem_cons_self | (apply List.mem_cons_of_mem; first | exact List.mem_cons_self | (apply List.mem_cons_of_mem; first | exact List.mem_cons_self | (apply List.mem_cons_of_mem; first | exact List.mem_cons_self | (apply List.mem_cons_of_mem; first | exact List.mem_cons_self)))))))) hft, hrow, ?_⟩
        refine ⟨_, _, _, hcell 3 _ rfl, ?_⟩
        clear hcell hrow hft
        refine call_j (c42 H List.mem_cons_self (by omega)) ?_
        rintro _ w ⟨a', c', rfl, g, H⟩
        replace K := World.grownBy.trans K (grew_none _ g); clear g
        refine ⟨_, _, _, rfl, ?_⟩
        refine ⟨K, ?_⟩
        refine ⟨rfl, ?_⟩
        refine sNew H ?_; clear H; intro b50 w g H; replace K := World.grownBy.trans K (grew_none _ g); clear g
        refine ⟨K, ?_⟩
        refine sApp2 H (bytes := 32) (by kernel_rfl) [.bool true, .int .u16 0, .int .u16 (v / 16384 % 2), .int .u16 0, .slice a' sn' c'] (Sta.dat (sta1 v)) (by rfl) (fun j u hu => by rw [add_flat, Nat.zero_add]; exact H.b0.cell hu) (fun G h => by rw [hst]; exact DeepL.cons (.one _) (DeepL.cons (.one _) (DeepL.cons (.one _) (DeepL.cons (.one _) (DeepL.cons (h (.deep [_] [_]) List.mem_cons_self).head (DeepL.nil _ _)))))) (by simp [Value.oneCell']) (by unfold maxLen; omega) (by omega) ?_
        clear H; intro x65 x65l x65c x65r w ex65 g H
        replace K := World.grownBy.trans K g; clear g; replace H := H.sub (List.sublist_cons_self _ _) (fun _ h => h)
        refine ⟨K, ?_⟩
        refine sSt0 H (by first | exact add_flat _ _ _ | exact add_flat2 _ _ _ _ | rfl) (by kernel_rfl) (by rfl) (by first | rfl | (simp only [List.all_cons, List.all_nil, Value.cells]; simp [*])) ?_; clear H; intro w _ H
        subst ex65
        refine hnext x65 x65c x65r w _ ?_ H
        intro r hr; simp [hr]
    · rw [decide_eq_false_iff_not] at hc
      obtain rfl : j = vs.length := by omega
      rw [List.take_length] at H
      clear hjm
      refine ⟨_, rfl, ?_⟩
      refine ⟨_, _, _, (by first | exact Ce (by first | exact add_flat _ _ _ | exact add_flat2 _ _ _ _ | rfl) H.b0 rfl | exact Ce (by first | exact add_flat _ _ _ | exact add_flat2 _ _ _ _ | rfl) H.b1 rfl | exact Ce (by first | exact add_flat _ _ _ | exact add_flat2 _ _ _ _ | rfl) H.b2 rfl | exact Ce (by first | exact add_flat _ _ _ | exact add_flat2 _ _ _ _ | rfl) H.b3 rfl | exact Ce (by first | exact add_flat _ _ _ | exact add_flat2 _ _ _ _ | rfl) H.b4 rfl | exact Ce (by first | exact add_flat _ _ _ | exact add_flat2 _ _ _ _ | rfl) H.b5 rfl | exact Ce (by first | exact add_flat _ _ _ | exact add_flat2 _ _ _ _ | rfl) H.b6 rfl | exact Ce (by first | exact add_flat _ _ _ | exact add_flat2 _ _ _ _ | rfl) H.b7 rfl | exact Ce (by first | exact add_flat _ _ _ | exact add_flat2 _ _ _ _ | rfl) H.b8 rfl | exact Ce (by first | exact add_flat _ _ _ | exact add_flat2 _ _ _ _ | rfl) H.b9 rfl), ?_⟩
      refine ⟨fun x76 m_72 w => ∃ (j : Nat) (de : Option Addr) (ec : Nat) (er : Option Nat), x76 = (j : Int) ∧ j + m_72 = ds.length ∧
        Sat F w (.blk q 51 (pkT s m hp hn ht hl bs cn rf fb (.slice st vs.length sc) (.slice de j ec)) :: .own 215 2 de j ec er ((ds.take j).flatMap Del.dat) :: .blk b1 51 zz :: .blk b T (tcV hp hn ht hl s m bs cn rf fb (.slice ca vs.length cc) (.slice da ds.length dc)) :: ex) (.deep [.row 5 ((vs.map sta1).flatMap Sta.dat)] [.slice st vs.length sc] :: ro), ⟨ds.length, 0, none, 0, none, rfl, by omega, (H.r1.freeze.nilOwn 215 2).u1⟩, ?_⟩
      clear H; rintro dd71 x76 m_72 w ⟨j, de, ec, er, rfl, hjm, H⟩
      refine ⟨fun hc => ?_, fun hc => ?_⟩
      · rw [decide_eq_true_eq] at hc
        have hjl : j < ds.length := by omega
        obtain ⟨bb, oo, us, rfl, hul, hcell, H1⟩ := H.elts (List.mem_cons_of_mem _ hde) (by omega)
        rw [List.length_map] at hul
        have H2 := H1.splitRo List.mem_cons_self j (d := deD ds[j]) (v := us[j]) (by rw [List.getElem?_map, List.getElem?_eq_getElem hjl]; rfl) (List.getElem?_eq_getElem (by omega))
        have hkeep : ∃ pb, us[j] = .pointer (some ⟨pb, 0, none⟩) := by
          obtain ⟨pb, e, _⟩ := H2.chRun (us := [.int .u16 ds[j].1, .int .i64 ds[j].2]) List.mem_cons_self
          exact ⟨pb, e⟩
        obtain ⟨pb, hpb⟩ := hkeep
        refine ⟨_, rfl, by omega, by omega, ?_⟩
        refine ⟨_, (by rw [show (j : Int).toNat * 1 = j by omega, add_flat]; exact hcell j (.pointer (some ⟨pb, 0, none⟩)) (by rw [← hpb]; exact List.getElem?_eq_getElem (by omega))), ?_⟩
        rw [hpb] at H2
        have htk : ds.take (j + 1) = ds.take j ++ [ds[j]] := by rw [List.take_add_one, List.getElem?_eq_getElem hjl]; rfl
        clear hcell H H1 hpb
        generalize ds[j] = D at H2 htk
        have H := H2
        clear H2
        refine ⟨er, ?_⟩; replace H := H.drew; generalize w.drew = wd4 at H ⊢; have K := grew_refl wd4 (er)
        obtain ⟨pb', e, hcell, hrow, hft⟩ := H.chRun (us := [.int .u16 D.1, .int .i64 D.2]) List.mem_cons_self
        cases e
        refine ⟨(by first | exact Option.some_ne_none _ | exact H.ne (by first | exact List.mem_cons_self | (apply List.mem_cons_of_mem; first | exact List.mem_cons_self | (apply List.mem_cons_of_mem; first | exact List.mem_cons_self | (apply List.mem_cons_of_mem; first | exact List.mem_cons_self | (apply List.mem_cons_of_mem; first | exact List.mem_cons_self | (apply List.mem_cons_of_mem; first | exact List.mem_cons_self | (apply List.mem_cons_of_mem; first | exact List.mem_cons_self | (apply List.mem_cons_of_mem; first | exact List.mem_cons_self)))))))) (by first | exact List.mem_cons_self | (apply List.mem_cons_of_mem; first | exact List.mem_cons_self | (apply List.mem_cons_of_mem; first | exact List.mem_cons_self | (apply List.mem_cons_of_mem; first | exact List.mem_cons_self | (apply List.mem_cons_of_mem; first | exact List.mem_cons_self | (apply List.mem_cons_of_mem; first | exact List.mem_cons_self | (apply List.mem_cons_of_mem; first | exact List.mem_cons_self | (apply List.mem_cons_of_mem; first | exact List.mem_cons_self))))))))), ?_⟩
        refine ⟨(by first | exact H.b0.row | exact H.b1.row | exact H.b2.row | exact H.b3.row | exact H.b4.row | exact H.b5.row | exact H.b6.row | exact H.b7.row), ?_⟩
        refine ⟨_, _, _, (by first | exact Ce (by first | exact add_flat _ _ _ | exact add_flat2 _ _ _ _ | rfl) H.b0 rfl | exact Ce (by first | exact add_flat _ _ _ | exact add_flat2 _ _ _ _ | rfl) H.b1 rfl | exact Ce (by first | exact add_flat _ _ _ | exact add_flat2 _ _ _ _ | rfl) H.b2 rfl | exact Ce (by first | exact add_flat _ _ _ | exact add_flat2 _ _ _ _ | rfl) H.b3 rfl | exact Ce (by first | exact add_flat _ _ _ | exact add_flat2 _ _ _ _ | rfl) H.b4 rfl | exact Ce (by first | exact add_flat _ _ _ | exact add_flat2 _ _ _ _ | rfl) H.b5 rfl | exact Ce (by first | exact add_flat _ _ _ | exact add_flat2 _ _ _ _ | rfl) H.b6 rfl | exact Ce (by first | exact add_flat _ _ _ | exact add_flat2 _ _ _ _ | rfl) H.b7 rfl | exact Ce (by first | exact add_flat _ _ _ | exact add_flat2 _ _ _ _ | rfl) H.b8 rfl | exact Ce (by first | exact add_flat _ _ _ | exact add_flat2 _ _ _ _ | rfl) H.b9 rfl), ?_⟩
        refine ⟨_, rfl, ?_⟩
        refine ⟨H.ne_own (by first | exact List.mem_cons_self | (apply List.mem_cons_of_mem; first | exact List.mem_cons_self | (apply List.mem_cons_of_mem; first | exact List.mem_cons_self | (apply List.mem_cons_of_mem; first | exact List.mem_cons_self | (apply List.mem_cons_of_mem; first | exact List.mem_cons_self | (apply List.mem_cons_of_mem; first | exact List.mem_cons_self | (apply List.mem_cons_of_mem; first | exact List.mem_cons_self | (apply List.mem_cons_of_mem; first | exact List.mem_cons_self)))))))) hft, hrow, ?_⟩
        refine ⟨_, hcell 0 _ rfl, ?_⟩
        refine ⟨_, rfl, ?_⟩
        refine ⟨H.ne_own (by first | exact List.mem_cons_self | (apply List.mem_cons_of_mem; first | exact List.mem_cons_self | (apply List.mem_cons_of_mem; first | exact List.mem_cons_self | (apply List.mem_cons_of_mem; first | exact List.mem_cons_self | (apply List.mem_cons_of_mem; first | exact List.mem_cons_self | (apply List.mem_cons_of_mem; first | exact List.mem_cons_self | (apply List.mem_cons_of_mem; first | exact List.mem_cons_self | (apply List.mem_cons_of_mem; first | exact List.mem_cons_self)))))))) hft, hrow, ?_⟩
        refine ⟨_, hcell 1 _ rfl, ?_⟩
        refine ⟨rfl, ?_⟩
        clear hcell hrow hft
        refine sNew H ?_; clear H; intro b85 w g H; replace K := World.grownBy.trans K (grew_none _ g); clear g
        refine ⟨K, ?_⟩
        refine sApp2 H (bytes := 16) (by kernel_rfl) [.int .u16 D.1, .int .i64 D.2] (Del.dat D) (by rfl) (fun j u hu => by rw [add_flat, Nat.zero_add]; exact H.b0.cell hu) (fun G h => by repeat (first | exact DeepL.nil _ _ | exact DeepL.ones _ | refine DeepL.cons (Deep.emp _ _) ?_ | refine DeepL.cons (Deep.one _) ?_ | refine DeepL.cons (h (.deep [_] [_]) (by assumption)).head ?_ | refine DeepL.cons (h (.deep [_] [_]) (by first | assumption | exact List.mem_cons_self | (apply List.mem_cons_of_mem; first | assumption | exact List.mem_cons_self | (apply List.mem_cons_of_mem; first | assumption | exact List.mem_cons_self | (apply List.mem_cons_of_mem; first | assumption | exact List.mem_cons_self | (apply List.mem_cons_of_mem; first | assumption | exact List.mem_cons_self | (apply List.mem_cons_of_mem; first | assumption | exact List.mem_cons_self))))))).head ?_)) (by simp [Value.oneCell']) (by unfold maxLen; omega) (by omega) ?_
        clear H; intro x87 x87l x87c x87r w ex87 g H
        replace K := World.grownBy.trans K g; clear g; replace H := H.sub (List.sublist_cons_self _ _) (fun _ h => h)
        refine ⟨K, ?_⟩
        refine sSt0 H (by first | exact add_flat _ _ _ | exact add_flat2 _ _ _ _ | rfl) (by kernel_rfl) (by rfl) (by first | rfl | (simp only [List.all_cons, List.all_nil, Value.cells]; simp [*])) ?_; clear H; intro w _ H
        subst ex87
        refine ⟨m_72 - 1, by omega, j + 1, x87, x87c, x87r, ?_, by omega, ?_⟩
        · rw [wi64_of (by omega) (by omega)]; simp
        · rw [htk, List.flatMap_append]
          simp only [List.flatMap_cons, List.flatMap_nil, List.append_nil]
          exact H.sub (List.Sublist.refl _) (fun r hr => by simp only [List.mem_cons] at hr ⊢; rcases hr with rfl | hr; simp; simp [hr])
      · rw [decide_eq_false_iff_not] at hc
        obtain rfl : j = ds.length := by omega
        rw [List.take_length] at H
        replace H := H.r1.freeze
        refine ⟨_, (by first | exact Ld0 rfl H.b0 (by kernel_rfl) | exact Ld0 rfl H.b1 (by kernel_rfl) | exact Ld0 rfl H.b2 (by kernel_rfl) | exact Ld0 rfl H.b3 (by kernel_rfl) | exact Ld0 rfl H.b4 (by kernel_rfl) | exact Ld0 rfl H.b5 (by kernel_rfl) | exact Ld0 rfl H.b6 (by kernel_rfl) | exact Ld0 rfl H.b7 (by kernel_rfl) | exact Ld0 rfl H.b8 (by kernel_rfl) | exact Ld0 rfl H.b9 (by kernel_rfl)), ?_⟩
        refine sSw1 H rfl (by kernel_rfl) (by rw [hz30]; rfl) (by first | rfl | (simp only [List.all_cons, List.all_nil, Value.cells]; simp [*])) ?_; clear H; intro w _ H
        refine ⟨_, (by first | exact Ld0 rfl H.b0 (by kernel_rfl) | exact Ld0 rfl H.b1 (by kernel_rfl) | exact Ld0 rfl H.b2 (by kernel_rfl) | exact Ld0 rfl H.b3 (by kernel_rfl) | exact Ld0 rfl H.b4 (by kernel_rfl) | exact Ld0 rfl H.b5 (by kernel_rfl) | exact Ld0 rfl H.b6 (by kernel_rfl) | exact Ld0 rfl H.b7 (by kernel_rfl) | exact Ld0 rfl H.b8 (by kernel_rfl) | exact Ld0 rfl H.b9 (by kernel_rfl)), ?_⟩
        refine ⟨st, sc, de, ec, rfl, ?_⟩
        exact H.sub (by repeat (first | exact List.Sublist.refl _ | exact List.nil_sublist _ | apply List.Sublist.cons_cons | apply List.Sublist.cons)) (fun r hr => by simp only [List.mem_cons] at hr ⊢; rcases hr with rfl | rfl | hr; simp; simp; simp [hr])
end Go.Proofs.YtkdialecadjedaaGreat
