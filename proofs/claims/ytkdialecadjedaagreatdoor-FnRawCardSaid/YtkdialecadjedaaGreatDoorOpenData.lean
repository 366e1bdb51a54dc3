/- An argument of bytes, opened and read again (no statement of the seat is proved here; conditions: none). -/
import Derived.Test.YtkdialecadjedaaGreatDoorLawFit
import Derived.ChangeSlices
namespace Go.Proofs.YtkdialecadjedaaGreatDoor
set_option linter.unusedVariables false
set_option linter.unusedSimpArgs false
set_option linter.unusedSectionVars false
open Go.ChangeShapes Go.WideShapes Go.ChangeAt Go.WideMaps Go.WideElems Go.RowKit Go.Joins

/-- Behind a call that made new blocks alone, what was read reads as it did. -/
theorem kept_grown {W W' : World} (may : MemPlace → Prop) (h : W.grownBy W' none) : W.keptBut W' may := by
  refine ⟨h.os, h.output, fun i hi => ?_⟩
  rw [h.block i hi (by simp)]
  cases W.heap[i]? with
  | none => rfl
  | some o => cases o <;> first
    | exact ⟨rfl, rfl, rfl, fun _ _ => rfl⟩
    | exact .inr ⟨rfl, rfl⟩
    | rfl
theorem wf_nat {k : IntKind} {n : Int} (hk : k.signed = false) (h : (Lit.int k n).wf = true) : 0 ≤ n ∧ n < 2 ^ k.bits := by
  simp only [Lit.wf, Bool.and_eq_true, decide_eq_true_eq, IntKind.min, IntKind.max, hk, Bool.false_eq_true, if_false] at h
  omega
theorem spot_none {w : World} {a : Addr} {v : Value} (h : w.cell? a = some v) : a = ⟨a.block, a.off, none⟩ := by
  obtain ⟨b, o, s⟩ := a
  cases s with
  | none => rfl
  | some s =>
    exfalso
    simp only [World.cell?] at h
    split at h <;> simp_all
theorem read_data {H : Type} {enc : TypeId × Value → H} (W' : World) (sp : Nat → Bool) (a : Addr) (len cap : Nat) (z : List Int) (hl : len ≤ cap) (hm : cap ≤ maxLen) (hz : z.length = cap) (hcell : ∀ i, i < z.length → W'.cell? (a.add i) = some (.int .u8 (z.getD i 0))) (hwz : ∀ n ∈ z, (Lit.int .u8 n).wf = true) (hsp' : ∀ p ∈ MemPlace.row a z.length, sp p.block = true) :
    DataW.Trod enc Tryz.prog W' 0 sp true 22 (.slice (some a) len cap) (.slice (lits .u8 (z.take len)) (lits .u8 (z.drop len))) (MemPlace.row a z.length) := by
  have hc5 : Tryz.prog.cellsOf 5 = 1 := by kernel_rfl
  by_cases hz0 : z.length = 0
  · have hc0 : cap = 0 := by omega
    have hl0 : len = 0 := by omega
    subst hc0; subst hl0
    have t0 := shut_ints (enc := enc) (w := W') (base := 0) (spare := sp) (held := true) (a := a) (len := 0) (cap := 0) (zs := z) 0 Tryz.underlying22 Tryz.underlying5 hc5 (Nat.zero_le _) (Nat.le_refl _) hm (by simp [hz0]) hcell hwz
    exact ⟨2, by simpa [Value.cells] using t0⟩
  · have hspb : sp a.block = true := hsp' (.cell a.block a.off) (MemPlace.mem_row.2 ⟨0, by omega, by simp⟩)
    have t0 := shut_ints (enc := enc) (w := W') (base := 0) (spare := sp) (held := true) (a := a) (len := len) (cap := cap) (zs := z) 0 Tryz.underlying22 Tryz.underlying5 hc5 (Nat.zero_le _) hl hm (by simp [hspb, hz]) hcell hwz
    exact ⟨2, by simpa [Value.cells] using t0⟩
theorem Errs.row0 {w : World} (h : Errs w) : Row w 0 := by
  obtain ⟨t, v, h⟩ := h.e0
  unfold World.cell? at h
  split at h
  · rename_i c e f hb; exact ⟨c, e, f, hb⟩
  · cases h
set_option maxRecDepth 100000 in
/-- An argument of bytes: what it reads, and that it reads so behind new blocks. -/
theorem open_data {H : Type} {enc : TypeId × Value → H} {W : World} {base : Nat} {v0 : Value} {d0 : DataW H} {p : List MemPlace} (hv : Value.okWide Tryz.prog W .any base 22 v0) (h0 : DataW.Trod enc Tryz.prog W 0 (fun _ => true) true 22 v0 d0 p) (hE : Errs W) :
    ∃ b a l c xs, v0 = .slice a l c ∧ BS W b a l c xs ∧ ∃ pa, ∀ W' : World, W.grownBy W' none → ∀ sp : Nat → Bool, (∀ q ∈ p, sp q.block = true) → DataW.Trod enc Tryz.prog W' 0 sp true 22 v0 d0 pa := by
  obtain ⟨a, l, c, rfl⟩ := okWide_slice Tryz.underlying22 hv
  obtain ⟨fuel, hf⟩ := h0
  have hc5 : Tryz.prog.cellsOf 5 = 1 := by kernel_rfl
  rcases open_ints Tryz.underlying22 Tryz.underlying5 hc5 hf with ⟨hcs, hx⟩ | ⟨a', l', c', zs, hcs, hb, hlc, hcm, hzl, hx, hcell, hwf⟩
  · simp [Value.cells] at hcs
    obtain ⟨rfl, rfl, rfl⟩ := hcs
    simp only [Prod.mk.injEq] at hx
    obtain ⟨rfl, rfl⟩ := hx
    exact ⟨0, none, 0, 0, [], rfl, ⟨rfl, Nat.le_refl _, Nat.zero_le _, by simp, fun _ => rfl, fun p hp => (by cases hp), hE.row0⟩, [], fun W' hg sp hsp => shut_slice_nil Tryz.underlying22⟩
  · simp [Value.cells] at hcs
    obtain ⟨rfl, rfl, rfl⟩ := hcs
    simp only [Prod.mk.injEq] at hx
    obtain ⟨rfl, rfl⟩ := hx
    simp only [if_true] at hzl
    have hbyte : ∀ x ∈ zs.take l, 0 ≤ x ∧ x < 256 := fun x hx => wf_nat (by rfl) (hwf x (List.mem_of_mem_take hx))
    have hrow : ∃ b, Row W b ∧ (0 < c → b = a'.block ∧ a' = ⟨a'.block, a'.off, none⟩) := by
      rcases Nat.eq_zero_or_pos c with h0 | h0
      · exact ⟨0, hE.row0, fun h => by omega⟩
      · have h1 := hcell 0 (by omega)
        rw [show a'.add 0 = a' from rfl] at h1
        have h2 := spot_none h1
        refine ⟨a'.block, ?_, fun _ => ⟨rfl, h2⟩⟩
        rw [h2] at h1
        unfold World.cell? at h1
        split at h1
        · rename_i cc e f hb; exact ⟨cc, e, f, hb⟩
        · cases h1
    obtain ⟨b, hrow, hb2⟩ := hrow
    refine ⟨b, some a', l, c, zs.take l, rfl, ⟨by simp; omega, hlc, hcm, hbyte, by simp, fun p hp hc => ?_, hrow⟩, MemPlace.row a' zs.length, fun W' hg sp hsp => ?_⟩
    · cases hp
      obtain ⟨rfl, h2⟩ := hb2 hc
      refine ⟨a'.off, h2, fun i x hi => ?_⟩
      rw [List.getElem?_take] at hi
      split at hi
      · have hlt := (List.getElem?_eq_some_iff.1 hi).1
        have := hcell i (by omega)
        rw [h2, add_flat] at this
        rw [this]
        simp [List.getD, hi]
      · cases hi
    · exact read_data W' sp a' l c zs hlc hcm hzl (fun i hi => hg.cell (hcell i hi) (by simp)) hwf hsp

end Go.Proofs.YtkdialecadjedaaGreatDoor
