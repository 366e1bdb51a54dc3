/- impl.UnmarshalOne, for transport-wide feedback (no statement of the seat is proved here; conditions: the slice reads such feedback). -/
import Derived.Test.YtkdialecadjedaaGreatIm3
namespace Go.Proofs.YtkdialecadjedaaGreat
set_option linter.unusedVariables false
set_option linter.unusedSimpArgs false
set_option linter.unusedSectionVars false
open Go

theorem c18 {F : Fr} {w : World} {ex : List Ex} {ro : List Ro} {hp : Bool} {hn ht hl s m bs cn rf fb : Int} {st de : Option Addr} {sc ec : Nat} {vs : List Int} {ds : List Del}
    (H : Sat F w ex ro) (hst : Ro.deep [.row 5 ((vs.map sta1).flatMap Sta.dat)] [.slice st vs.length sc] ∈ ro) (hde : Ro.deep [.row 2 (ds.flatMap Del.dat)] [.slice de ds.length ec] ∈ ro)
    (hvr : ∀ v ∈ vs, 0 ≤ v ∧ v < 65536) (hvl : vs.length ≤ 1000000) (hdl : ds.length ≤ 1000000) : Calls pg 18 #[.agg (pkT s m hp hn ht hl bs cn rf fb (.slice st vs.length sc) (.slice de ds.length ec)).toArray] w fun en w' =>
      ∃ b ca cc da dc, en = .returned (.iface 150 (.pointer (some ⟨b, 0, none⟩))) ∧ (vs = [] → ca = none ∧ cc = 0) ∧ (ds = [] → da = none ∧ dc = 0) ∧
        Sat F w' (.blk b 204 (tcV hp hn ht hl s m bs cn rf fb (.slice ca vs.length cc) (.slice da ds.length dc)) :: ex) (.deep [.row 1 (vs.map chD)] [.slice ca vs.length cc] :: .deep [.row 1 (ds.map deD)] [.slice da ds.length dc] :: ro) := by
  apply of18
  refine sNew H ?_; clear H; intro b1 w _ H
  replace H : Sat F w (.blk b1 51 (pkT s m hp hn ht hl bs cn rf fb (.slice st vs.length sc) (.slice de ds.length ec)) :: ex) ro := H
  refine ⟨_, (by first | exact Ce (by first | exact add_flat _ _ _ | exact add_flat2 _ _ _ _ | rfl) H.b0 rfl | exact Ce (by first | exact add_flat _ _ _ | exact add_flat2 _ _ _ _ | rfl) H.b1 rfl | exact Ce (by first | exact add_flat _ _ _ | exact add_flat2 _ _ _ _ | rfl) H.b2 rfl | exact Ce (by first | exact add_flat _ _ _ | exact add_flat2 _ _ _ _ | rfl) H.b3 rfl | exact Ce (by first | exact add_flat _ _ _ | exact add_flat2 _ _ _ _ | rfl) H.b4 rfl | exact Ce (by first | exact add_flat _ _ _ | exact add_flat2 _ _ _ _ | rfl) H.b5 rfl | exact Ce (by first | exact add_flat _ _ _ | exact add_flat2 _ _ _ _ | rfl) H.b6 rfl | exact Ce (by first | exact add_flat _ _ _ | exact add_flat2 _ _ _ _ | rfl) H.b7 rfl | exact Ce (by first | exact add_flat _ _ _ | exact add_flat2 _ _ _ _ | rfl) H.b8 rfl | exact Ce (by first | exact add_flat _ _ _ | exact add_flat2 _ _ _ _ | rfl) H.b9 rfl), ?_⟩
  repeat (refine ⟨fun hc => absurd hc (by decide), fun _ => ?_⟩)
  refine ⟨fun _ => ?_, fun hc => absurd hc (by decide)⟩
  refine ⟨_, (by first | exact Ld0 rfl H.b0 (by kernel_rfl) | exact Ld0 rfl H.b1 (by kernel_rfl) | exact Ld0 rfl H.b2 (by kernel_rfl) | exact Ld0 rfl H.b3 (by kernel_rfl) | exact Ld0 rfl H.b4 (by kernel_rfl) | exact Ld0 rfl H.b5 (by kernel_rfl) | exact Ld0 rfl H.b6 (by kernel_rfl) | exact Ld0 rfl H.b7 (by kernel_rfl) | exact Ld0 rfl H.b8 (by kernel_rfl) | exact Ld0 rfl H.b9 (by kernel_rfl)), ?_⟩
  refine call_j (c35 H hst hde hvr hvl hdl) ?_
  rintro _ w ⟨b, ca, cc, da, dc, rfl, h1, h2, H⟩
  refine ⟨_, rfl, ?_⟩
  refine ⟨b, ca, cc, da, dc, rfl, h1, h2, H.sub ?_ (fun _ h => h)⟩
  exact List.Sublist.cons_cons _ (List.sublist_cons_self _ _)
theorem c20 {F : Fr} {w : World} {ex : List Ex} {ro : List Ro} {b : Nat} {T : TypeId} {hp : Bool} {hn ht hl s m bs cn rf fb : Int} {ca da : Option Addr} {cc dc : Nat} {vs : List Int} {ds : List Del}
    (H : Sat F w (.blk b T (tcV hp hn ht hl s m bs cn rf fb (.slice ca vs.length cc) (.slice da ds.length dc)) :: ex) ro) (hch : Ro.deep [.row 1 (vs.map chD)] [.slice ca vs.length cc] ∈ ro) (hde : Ro.deep [.row 1 (ds.map deD)] [.slice da ds.length dc] ∈ ro)
    (hvr : ∀ v ∈ vs, 0 ≤ v ∧ v < 65536) (hvl : vs.length ≤ 1000000) (hdl : ds.length ≤ 1000000) : Calls pg 20 #[.iface 150 (.pointer (some ⟨b, 0, none⟩))] w fun en w' =>
      ∃ st sc de ec, en = .returned (.agg (pkT s m hp hn ht hl bs cn rf fb (.slice st vs.length sc) (.slice de ds.length ec)).toArray) ∧
        Sat F w' ex (.deep [.row 5 ((vs.map sta1).flatMap Sta.dat)] [.slice st vs.length sc] :: .deep [.row 2 (ds.flatMap Del.dat)] [.slice de ds.length ec] :: ro) := by
  apply of20
  refine sNew H ?_; clear H; intro b1 w _ H
  repeat (refine ⟨_, _, fun wx => ta_no (by kernel_rfl) (by decide) wx, ?_⟩; refine ⟨fun hc => absurd hc (by decide), fun _ => ?_⟩)
  refine ⟨_, _, fun wx => ta_yes (by kernel_rfl) wx, ?_⟩
  refine ⟨fun _ => ?_, fun hc => absurd hc (by decide)⟩
  refine call_j (c40 H.r1 hch hde hvr hvl hdl) ?_
  clear H
  rintro _ w ⟨st, sc, de, ec, rfl, H⟩
  refine ⟨_, rfl, ?_⟩
  refine sSw1 H rfl (by kernel_rfl) (by rfl) (by first | rfl | (simp only [List.all_cons, List.all_nil, Value.cells]; simp [*])) ?_; clear H; intro w _ H
  refine ⟨_, (by first | exact Ld0 rfl H.b0 (by kernel_rfl) | exact Ld0 rfl H.b1 (by kernel_rfl) | exact Ld0 rfl H.b2 (by kernel_rfl) | exact Ld0 rfl H.b3 (by kernel_rfl) | exact Ld0 rfl H.b4 (by kernel_rfl) | exact Ld0 rfl H.b5 (by kernel_rfl) | exact Ld0 rfl H.b6 (by kernel_rfl) | exact Ld0 rfl H.b7 (by kernel_rfl) | exact Ld0 rfl H.b8 (by kernel_rfl) | exact Ld0 rfl H.b9 (by kernel_rfl)), ?_⟩
  refine ⟨st, sc, de, ec, rfl, H.sub ?_ (fun _ h => h)⟩
  exact (List.sublist_cons_self _ _).trans (List.sublist_cons_self _ _)
theorem tccC_rng : ∀ (f : Nat) (left : Int) (ys vs zs : List Int), By ys → tccC f left ys = some (vs, zs) → ∀ v ∈ vs, 0 ≤ v ∧ v < 65536
  | 0, _, _, _, _, _, h => by simp [tccC] at h
  | f + 1, left, ys, vs, zs, hb, h => by
    rcases Int.lt_or_le 0 left with hl | hl
    · obtain ⟨g, v, vs', h2, hv, rfl, _, _, h5⟩ := tccC_cons h hl
      simp only [tccC] at h
      rw [if_neg (by omega), if_neg (by omega)] at h
      split at h
      · cases h
      · split at h
        · cases h6 : tccC f (left - (symL (n16 ys)).length) (ys.drop 2) with
          | none => rw [h6] at h; cases h
          | some q =>
            rw [h6] at h
            simp only [Option.map_some, Option.some.injEq, Prod.mk.injEq, List.cons.injEq] at h
            obtain ⟨⟨h7, rfl⟩, rfl⟩ := h
            have ih := tccC_rng f _ _ _ _ (hb.drop 2) h6
            intro x hx
            rcases List.mem_cons.1 hx with rfl | hx
            · rw [hv]; exact n16_lt hb
            · exact ih x hx
        · cases h
    · obtain ⟨rfl, rfl⟩ := tccC_nil h hl
      simp
theorem tccD_len : ∀ (R ys : List Int) (ds : List Del) (tl : List Int), (∀ x ∈ R, x = 1 ∨ x = 2) → tccD R ys = some (ds, tl) → ds.length + tl.length ≤ ys.length
  | [], ys, ds, tl, _, h => by cases h; simp
  | x :: r, ys, ds, tl, hR, h => by
    obtain ⟨h1, ds', rfl, h2⟩ := tccD_cons h
    have ih := tccD_len r _ _ _ (fun y hy => hR y (List.mem_cons_of_mem _ hy)) h2
    have := hR x List.mem_cons_self
    rw [List.length_drop] at ih
    simp only [List.length_cons]
    omega
theorem Tcc.sizes {xs : List Int} {vs : List Int} {ds : List Del} (h : Tcc xs vs ds) (hb : By xs) : (∀ v ∈ vs, 0 ≤ v ∧ v < 65536) ∧ vs.length ≤ xs.length ∧ ds.length ≤ xs.length := by
  obtain ⟨f, zs, tl, h1, h2, h3, h4, h5, h6, h7⟩ := tcc_rest h
  have := tccD_len _ _ _ _ (fun x hx => recv_mem hx) h2
  exact ⟨tccC_rng _ _ _ _ _ (hb.drop 20) h1, by omega, by omega⟩
/-- What impl hands back for such bytes. -/
abbrev tcPk (xs : List Int) (st de : Value) : List Value := pkT (n32 (xs.drop 4)) (n32 (xs.drop 8)) false 15 205 (hL xs) (n16 (xs.drop 12)) (n16 (xs.drop 14)) (n24 (xs.drop 16)) (xs.getD 19 0) st de
set_option maxRecDepth 20000 in
theorem c17 {F : Fr} {w : World} {e0 : Ex} {ex : List Ex} {ro : List Ro} {xs : List Int} {a : Option Addr} {n c : Nat} {p1 p3 p5 : Nat} {t1 t3 t5 : TypeId} {zz : List Value} {vs : List Int} {ds : List Del}
    (H : Sat F w (e0 :: .blk p5 t5 zz :: .blk p3 t3 [.slice a n c] :: .blk p1 t1 [.int .i64 13] :: ex) ro) (hx : Ro.B xs a n c ∈ ro) (hb : By xs) (hT : Tcc xs vs ds) (hn : n ≤ 1000000) (hz : zz.length = 30) :
    Calls pg 17 #[.pointer (some ⟨p1, 0, none⟩), .pointer (some ⟨p3, 0, none⟩), .pointer (some ⟨p5, 0, none⟩)] w fun en w' => en = .returned (.bool true) ∧
      ∃ st sc de ec, Sat F w' (e0 :: .blk p5 t5 (tcPk xs (.slice st vs.length sc) (.slice de ds.length ec)) :: .blk p3 t3 [.slice a n c] :: .blk p1 t1 [.int .i64 13] :: ex)
        (.deep [.row 5 ((vs.map sta1).flatMap Sta.dat)] [.slice st vs.length sc] :: .deep [.row 2 (ds.flatMap Del.dat)] [.slice de ds.length ec] :: ro) := by
  apply of17
  have hlen := H.lenB hx
  obtain ⟨hvr, hvl, hdl⟩ := hT.sizes hb
  refine ⟨_, (by first | exact Ce (by first | exact add_flat _ _ _ | exact add_flat2 _ _ _ _ | rfl) H.b0 rfl | exact Ce (by first | exact add_flat _ _ _ | exact add_flat2 _ _ _ _ | rfl) H.b1 rfl | exact Ce (by first | exact add_flat _ _ _ | exact add_flat2 _ _ _ _ | rfl) H.b2 rfl | exact Ce (by first | exact add_flat _ _ _ | exact add_flat2 _ _ _ _ | rfl) H.b3 rfl | exact Ce (by first | exact add_flat _ _ _ | exact add_flat2 _ _ _ _ | rfl) H.b4 rfl | exact Ce (by first | exact add_flat _ _ _ | exact add_flat2 _ _ _ _ | rfl) H.b5 rfl | exact Ce (by first | exact add_flat _ _ _ | exact add_flat2 _ _ _ _ | rfl) H.b6 rfl | exact Ce (by first | exact add_flat _ _ _ | exact add_flat2 _ _ _ _ | rfl) H.b7 rfl | exact Ce (by first | exact add_flat _ _ _ | exact add_flat2 _ _ _ _ | rfl) H.b8 rfl | exact Ce (by first | exact add_flat _ _ _ | exact add_flat2 _ _ _ _ | rfl) H.b9 rfl), ?_⟩
  have H0 := (H.addRo (r := .deep [.row 5 ((([] : List Int).map sta1).flatMap Sta.dat)] [.slice none 0 0]) (DeepL.cons (.emp _ _) (DeepL.nil _ _))).addRo (r := .deep [.row 2 (([] : List Del).flatMap Del.dat)] [.slice none 0 0]) (DeepL.cons (.emp _ _) (DeepL.nil _ _))
  refine call_j (c18 (s := 0) (m := 0) (hp := false) (hn := 0) (ht := 0) (hl := 0) (bs := 0) (cn := 0) (rf := 0) (fb := 0) (vs := []) (ds := []) (st := none) (de := none) (sc := 0) (ec := 0) H0 (List.mem_cons_of_mem _ List.mem_cons_self) List.mem_cons_self (by simp) (by simp) (by simp)) ?_
  clear H H0
  rintro _ w ⟨b, ca, cc, da, dc, rfl, h1, h2, H⟩
  obtain ⟨rfl, rfl⟩ := h1 rfl
  obtain ⟨rfl, rfl⟩ := h2 rfl
  refine ⟨_, rfl, fun wx => rfl, ?_⟩
  replace H := H.drew; generalize w.drew = w at H ⊢
  refine ⟨_, _, _, (by first | exact Ce (by first | exact add_flat _ _ _ | exact add_flat2 _ _ _ _ | rfl) H.b0 rfl | exact Ce (by first | exact add_flat _ _ _ | exact add_flat2 _ _ _ _ | rfl) H.b1 rfl | exact Ce (by first | exact add_flat _ _ _ | exact add_flat2 _ _ _ _ | rfl) H.b2 rfl | exact Ce (by first | exact add_flat _ _ _ | exact add_flat2 _ _ _ _ | rfl) H.b3 rfl | exact Ce (by first | exact add_flat _ _ _ | exact add_flat2 _ _ _ _ | rfl) H.b4 rfl | exact Ce (by first | exact add_flat _ _ _ | exact add_flat2 _ _ _ _ | rfl) H.b5 rfl | exact Ce (by first | exact add_flat _ _ _ | exact add_flat2 _ _ _ _ | rfl) H.b6 rfl | exact Ce (by first | exact add_flat _ _ _ | exact add_flat2 _ _ _ _ | rfl) H.b7 rfl | exact Ce (by first | exact add_flat _ _ _ | exact add_flat2 _ _ _ _ | rfl) H.b8 rfl | exact Ce (by first | exact add_flat _ _ _ | exact add_flat2 _ _ _ _ | rfl) H.b9 rfl), ?_⟩
  refine call_j (c19 (xs := xs) H (by simp [hx]) (by omega)) ?_
  clear H
  rintro _ w ⟨a', c', rfl, _, H⟩
  refine ⟨_, _, _, rfl, ?_⟩
  have H1 : Sat F w (.blk b 204 (tcV false 0 0 0 0 0 0 0 0 0 (.slice none 0 0) (.slice none 0 0)) :: e0 :: .blk p5 t5 zz :: .blk p3 t3 [.slice a n c] :: .blk p1 t1 [.int .i64 13] :: ex) (Ro.B xs a' n c' :: ro) := H.sub (List.Sublist.refl _) (fun r hr => by
    simp only [List.mem_cons] at hr ⊢
    rcases hr with rfl | hr
    · simp
    · simp [hr])
  clear H
  refine inv_ptr (f := 161) (e := 204) (by kernel_rfl) (by rfl) (by kernel_rfl) (call_j (c161 H1 List.mem_cons_self hb hT hn) ?_)
  clear H1
  rintro _ w ⟨rfl, ca, cc, da, dc, H⟩
  refine ⟨_, rfl, ?_⟩
  refine call_j (c20 H List.mem_cons_self (List.mem_cons_of_mem _ List.mem_cons_self) hvr (by omega) (by omega)) ?_
  clear H
  rintro _ w ⟨st, sc, de, ec, rfl, H⟩
  refine ⟨_, rfl, ?_⟩
  refine sSw1 H rfl (by kernel_rfl) (by rw [hz]; rfl) (by first | rfl | (simp only [List.all_cons, List.all_nil, Value.cells]; simp [*])) ?_; clear H; intro w _ H
  refine ⟨by simp [isIf], rfl, st, sc, de, ec, H.sub (List.Sublist.refl _) (fun r hr => ?_)⟩
  simp only [List.mem_cons] at hr ⊢
  rcases hr with rfl | rfl | hr
  · simp
  · simp
  · simp [hr]
theorem c5 {F : Fr} {w : World} {ex : List Ex} {ro : List Ro} {xs : List Int} {a : Option Addr} {n c : Nat} {vs : List Int} {ds : List Del}
    (H : Sat F w ex ro) (hx : Ro.B xs a n c ∈ ro) (hb : By xs) (hT : Tcc xs vs ds) (hn : n ≤ 1000000) :
    Calls pg 5 #[.int .i64 13, .slice a n c] w fun en w' => ∃ st sc de ec, en = .returned (.tuple #[.agg (tcPk xs (.slice st vs.length sc) (.slice de ds.length ec)).toArray, .bool true]) ∧
      Sat F w' ex (.deep [.row 5 ((vs.map sta1).flatMap Sta.dat)] [.slice st vs.length sc] :: .deep [.row 2 (ds.flatMap Del.dat)] [.slice de ds.length ec] :: ro) := by
  apply of5
  refine sNew H ?_; clear H; intro p1 w _ H
  refine sNew H ?_; clear H; intro p3 w _ H
  refine sNew H ?_; clear H; intro p5 w _ H
  refine sTry H (by kernel_rfl) ?_
  clear H; intro tb w H
  refine call_j (c17 H hx hb hT hn (by rfl)) ?_
  clear H
  rintro _ w ⟨rfl, st, sc, de, ec, H⟩
  refine ⟨true, _, _, rfl, H, ?_⟩
  clear H; intro w H
  refine ⟨_, rfl, ?_⟩
  refine ⟨fun hc => absurd hc (by decide), fun _ => ?_⟩
  refine ⟨_, (by first | exact Ld0 rfl H.b0 (by kernel_rfl) | exact Ld0 rfl H.b1 (by kernel_rfl) | exact Ld0 rfl H.b2 (by kernel_rfl) | exact Ld0 rfl H.b3 (by kernel_rfl) | exact Ld0 rfl H.b4 (by kernel_rfl) | exact Ld0 rfl H.b5 (by kernel_rfl) | exact Ld0 rfl H.b6 (by kernel_rfl) | exact Ld0 rfl H.b7 (by kernel_rfl) | exact Ld0 rfl H.b8 (by kernel_rfl) | exact Ld0 rfl H.b9 (by kernel_rfl)), ?_⟩
  refine sSw0 H rfl (by kernel_rfl) (by rfl) (by first | rfl | (simp only [List.all_cons, List.all_nil, Value.cells]; simp [*])) ?_; clear H; intro w _ H
  refine ⟨_, (by first | exact Ld0 rfl H.b0 (by kernel_rfl) | exact Ld0 rfl H.b1 (by kernel_rfl) | exact Ld0 rfl H.b2 (by kernel_rfl) | exact Ld0 rfl H.b3 (by kernel_rfl) | exact Ld0 rfl H.b4 (by kernel_rfl) | exact Ld0 rfl H.b5 (by kernel_rfl) | exact Ld0 rfl H.b6 (by kernel_rfl) | exact Ld0 rfl H.b7 (by kernel_rfl) | exact Ld0 rfl H.b8 (by kernel_rfl) | exact Ld0 rfl H.b9 (by kernel_rfl)), ?_⟩
  refine ⟨st, sc, de, ec, rfl, H.sub ?_ (fun _ h => h)⟩
  exact (List.sublist_cons_self _ _).trans ((List.sublist_cons_self _ _).trans (List.sublist_cons_self _ _))
end Go.Proofs.YtkdialecadjedaaGreat
