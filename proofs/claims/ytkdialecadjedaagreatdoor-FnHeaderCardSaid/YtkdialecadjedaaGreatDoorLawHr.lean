/- laws.FnHeader, as a call (no statement of the seat is proved here; conditions: the listed errors are not nil; the slice reads bytes). -/
import Derived.Test.YtkdialecadjedaaGreatDoorLawHw
import Derived.Laws.StructEq
namespace Go.Proofs.YtkdialecadjedaaGreatDoor
set_option linter.unusedVariables false
set_option linter.unusedSimpArgs false
set_option linter.unusedSectionVars false
open Go

theorem eq_hdr {w : World} {p : Bool} {c t n : Int} : (binOp .eql 42 (.agg #[.bool p, .int .u8 c, .int .u8 t, .int .u16 n]) (.agg #[.bool p, .int .u8 c, .int .u8 t, .int .u16 n])).run pg w = .ok (.bool true) w := by
  rw [run_eql_struct, run_equalIn_agg w 9999 42 _ _ (by kernel_rfl) (by kernel_rfl)]
  have hf : (Tryz.prog.fieldsOf 42).toList = [{ name := "Padding", type := 4, offset := 0, embedded := false, tag := "", pkgPath := "", byteOffset := 0 }, { name := "Count", type := 5, offset := 1, embedded := false, tag := "", pkgPath := "", byteOffset := 1 }, { name := "Type", type := 5, offset := 2, embedded := false, tag := "", pkgPath := "", byteOffset := 2 }, { name := "Length", type := 40, offset := 3, embedded := false, tag := "", pkgPath := "", byteOffset := 4 }] := by kernel_rfl
  rw [hf]
  have z4 : ∀ w, (sizeOf 4).run Tryz.prog w = .ok 1 w := fun w => run_sizeB (by kernel_rfl) w
  have z5 : ∀ w, (sizeOf 5).run Tryz.prog w = .ok 1 w := fun w => run_sizeB (by kernel_rfl) w
  have z40 : ∀ w, (sizeOf 40).run Tryz.prog w = .ok 1 w := fun w => run_sizeB (by kernel_rfl) w
  have a4 : ∀ w, (isAgg 4).run Tryz.prog w = .ok false w := fun w => run_isAgg_scalar (by kernel_rfl) w
  have a5 : ∀ w, (isAgg 5).run Tryz.prog w = .ok false w := fun w => run_isAgg_scalar (by kernel_rfl) w
  have a40 : ∀ w, (isAgg 40).run Tryz.prog w = .ok false w := fun w => run_isAgg_scalar (by kernel_rfl) w
  have u4 : Tryz.prog.underlying 4 = some .bool := by kernel_rfl
  have u40 : Tryz.prog.underlying 40 = some (.int .u16) := by kernel_rfl
  simp [Op.eqFields, part, z4, z5, z40, a4, a5, a40, run_equalIn_int _ _ _ _ _ _ _ u5, run_equalIn_int _ _ _ _ _ _ _ u40, run_equalIn_bool' _ _ _ _ _ u4]

theorem c7 {w : World} {b : Nat} {a : Option Addr} {l c : Nat} {xs : List Int} (h : BS w b a l c xs) (hE : Errs w) : Calls pg 7 #[.slice a l c] w (PTrue w) := by
  apply of7
  have hlt := hE.lt
  have hblt := h.lt
  refine ⟨fun _ => ⟨rfl, grew_refl _ _, Nat.le_refl _⟩, fun _ => ?_⟩
  refine ⟨fun _ => ⟨rfl, grew_refl _ _, Nat.le_refl _⟩, fun h2 => ?_⟩
  have hl2 : l ≤ 131072 := by
    have : (l : Int) ≤ 131072 := by simpa using h2
    omega
  refine call_i (c23 h) (by rfl) ?_
  rintro _ w_6 ⟨rfl, g6, s6⟩
  cases hr : rdHdr xs with
  | none =>
    refine ⟨_, _, _, _, _, rfl, ?_⟩
    refine gNew_i ?_
    intro b7 w_8 eb7 es7 gr7 B7
    refine St0 (b := b7) (vs := [.bool false, .int .u8 0, .int .u8 0, .int .u16 0]) rfl B7 (by kernel_rfl) (by rfl) (by rfl) ?_
    intro w_9 s9 g9 B9
    refine call_i (c24 (b := b) (a := a) (l := l) (c := c) (xs := xs) (by repeat (first | assumption | apply Blk.keep (by assumption) (by first | exact Option.some_ne_none _ | assumption | (intro e; injection e with e; (try dsimp only at e); omega)) | apply BS.keep (by assumption) (by first | exact Option.some_ne_none _ | assumption | (intro e; injection e with e; (try dsimp only at e); omega)) | apply OS.keep (by assumption) (by first | (left; rfl) | (right; exact Option.some_ne_none _) | (right; intro e; cases e; omega)) | apply Errs.keep (by assumption) (by intro k e; first | (cases e; done) | (cases e; omega)) | apply Blk.drew | apply BS.drew | apply OS.drew | apply Errs.drew)) (by omega) (by repeat (first | assumption | apply Blk.keep (by assumption) (by first | exact Option.some_ne_none _ | assumption | (intro e; injection e with e; (try dsimp only at e); omega)) | apply BS.keep (by assumption) (by first | exact Option.some_ne_none _ | assumption | (intro e; injection e with e; (try dsimp only at e); omega)) | apply OS.keep (by assumption) (by first | (left; rfl) | (right; exact Option.some_ne_none _) | (right; intro e; cases e; omega)) | apply Errs.keep (by assumption) (by intro k e; first | (cases e; done) | (cases e; omega)) | apply Blk.drew | apply BS.drew | apply OS.drew | apply Errs.drew))) (by rfl) ?_
    rintro _ w_15 ⟨rfl, g15, s15⟩
    rw [hr]
    refine ⟨_, _, _, _, _, rfl, ?_⟩
    refine gNew_i ?_
    intro b16 w_17 eb16 es16 gr16 B16
    refine St0 (b := b16) (vs := [.bool false, .int .u8 0, .int .u8 0, .int .u16 0]) rfl B16 (by kernel_rfl) (by rfl) (by rfl) ?_
    intro w_18 s18 g18 B18
    refine ⟨fun _ => ?_, fun hx => absurd hx (by decide)⟩
    refine ⟨fun _ => ?_, fun hx => absurd hx (by decide)⟩
    refine call_i (c13 (by repeat (first | assumption | apply Blk.keep (by assumption) (by first | exact Option.some_ne_none _ | assumption | (intro e; injection e with e; (try dsimp only at e); omega)) | apply BS.keep (by assumption) (by first | exact Option.some_ne_none _ | assumption | (intro e; injection e with e; (try dsimp only at e); omega)) | apply OS.keep (by assumption) (by first | (left; rfl) | (right; exact Option.some_ne_none _) | (right; intro e; cases e; omega)) | apply Errs.keep (by assumption) (by intro k e; first | (cases e; done) | (cases e; omega)) | apply Blk.drew | apply BS.drew | apply OS.drew | apply Errs.drew))) (by rfl) ?_
    rintro _ w_20 ⟨rfl, g20, s20⟩
    exact ⟨_, rfl, rfl, (by repeat (first | exact grew_refl _ _ | assumption | refine grew_step (by assumption) (by intro j e; first | (cases e; done) | (cases e; left; omega) | (cases e; right; rfl)) ?_ | refine grew_some ?_)), by omega⟩
  | some v =>
    obtain ⟨p, cc, t, n⟩ := v
    refine ⟨_, _, _, _, _, rfl, ?_⟩
    refine gNew_i ?_
    intro b7 w_8 eb7 es7 gr7 B7
    refine St0 (b := b7) (vs := [.bool p, .int .u8 cc, .int .u8 t, .int .u16 n]) rfl B7 (by kernel_rfl) (by rfl) (by rfl) ?_
    intro w_9 s9 g9 B9
    refine call_i (c24 (b := b) (a := a) (l := l) (c := c) (xs := xs) (by repeat (first | assumption | apply Blk.keep (by assumption) (by first | exact Option.some_ne_none _ | assumption | (intro e; injection e with e; (try dsimp only at e); omega)) | apply BS.keep (by assumption) (by first | exact Option.some_ne_none _ | assumption | (intro e; injection e with e; (try dsimp only at e); omega)) | apply OS.keep (by assumption) (by first | (left; rfl) | (right; exact Option.some_ne_none _) | (right; intro e; cases e; omega)) | apply Errs.keep (by assumption) (by intro k e; first | (cases e; done) | (cases e; omega)) | apply Blk.drew | apply BS.drew | apply OS.drew | apply Errs.drew)) (by omega) (by repeat (first | assumption | apply Blk.keep (by assumption) (by first | exact Option.some_ne_none _ | assumption | (intro e; injection e with e; (try dsimp only at e); omega)) | apply BS.keep (by assumption) (by first | exact Option.some_ne_none _ | assumption | (intro e; injection e with e; (try dsimp only at e); omega)) | apply OS.keep (by assumption) (by first | (left; rfl) | (right; exact Option.some_ne_none _) | (right; intro e; cases e; omega)) | apply Errs.keep (by assumption) (by intro k e; first | (cases e; done) | (cases e; omega)) | apply Blk.drew | apply BS.drew | apply OS.drew | apply Errs.drew))) (by rfl) ?_
    rintro _ w_15 ⟨rfl, g15, s15⟩
    rw [hr]
    refine ⟨_, _, _, _, _, rfl, ?_⟩
    refine gNew_i ?_
    intro b16 w_17 eb16 es16 gr16 B16
    refine St0 (b := b16) (vs := [.bool p, .int .u8 cc, .int .u8 t, .int .u16 n]) rfl B16 (by kernel_rfl) (by rfl) (by rfl) ?_
    intro w_18 s18 g18 B18
    refine ⟨fun _ => ?_, fun hx => absurd hx (by decide)⟩
    refine ⟨fun hx => absurd hx (by decide), fun _ => ?_⟩
    refine ⟨_, _, _, _, Ld0 (b := b16) rfl B18 (by kernel_rfl), ?_⟩
    have B9' : Blk w_18 b7 42 [.bool p, .int .u8 cc, .int .u8 t, .int .u16 n] := (by repeat (first | assumption | apply Blk.keep (by assumption) (by first | exact Option.some_ne_none _ | assumption | (intro e; injection e with e; (try dsimp only at e); omega)) | apply BS.keep (by assumption) (by first | exact Option.some_ne_none _ | assumption | (intro e; injection e with e; (try dsimp only at e); omega)) | apply OS.keep (by assumption) (by first | (left; rfl) | (right; exact Option.some_ne_none _) | (right; intro e; cases e; omega)) | apply Errs.keep (by assumption) (by intro k e; first | (cases e; done) | (cases e; omega)) | apply Blk.drew | apply BS.drew | apply OS.drew | apply Errs.drew))
    refine ⟨_, _, _, _, Ld0 (b := b7) rfl B9' (by kernel_rfl), ?_⟩
    refine ⟨run_eqGuard_agg _ _ _ _ _ _ _ (by kernel_rfl), _, _, eq_hdr, ?_⟩
    refine ⟨fun _ => ?_, fun hx => absurd hx (by decide)⟩
    refine call_i (c13 (by repeat (first | assumption | apply Blk.keep (by assumption) (by first | exact Option.some_ne_none _ | assumption | (intro e; injection e with e; (try dsimp only at e); omega)) | apply BS.keep (by assumption) (by first | exact Option.some_ne_none _ | assumption | (intro e; injection e with e; (try dsimp only at e); omega)) | apply OS.keep (by assumption) (by first | (left; rfl) | (right; exact Option.some_ne_none _) | (right; intro e; cases e; omega)) | apply Errs.keep (by assumption) (by intro k e; first | (cases e; done) | (cases e; omega)) | apply Blk.drew | apply BS.drew | apply OS.drew | apply Errs.drew))) (by rfl) ?_
    rintro _ w_20 ⟨rfl, g20, s20⟩
    exact ⟨_, rfl, rfl, (by repeat (first | exact grew_refl _ _ | assumption | refine grew_step (by assumption) (by intro j e; first | (cases e; done) | (cases e; left; omega) | (cases e; right; rfl)) ?_ | refine grew_some ?_)), by omega⟩
end Go.Proofs.YtkdialecadjedaaGreatDoor
