/- An argument of bytes, opened and read again (no statement of the seat is proved here; conditions: none). -/
import Derived.Test.YtkdialecadjedaaGreatLawT
import Derived.Test.YtkdialecadjedaaGreatRows
import Derived.ChangeSlices
import Derived.ProofKit
import Derived.OpenShut
import Derived.Stop.Joined
import Derived.Lib.SmallJoins
namespace Go.Proofs.YtkdialecadjedaaGreat
set_option linter.unusedVariables false
set_option linter.unusedSimpArgs false
set_option linter.unusedSectionVars false
open Go.ChangeShapes Go.WideShapes Go.ChangeAt Go.WideMaps Go.WideElems Go.RowKit Go.Joins

theorem own : ownKnob Tryz.prog.godebug = none := by kernel_rfl
/-- Behind a call that made new blocks alone, what was read reads as it did. -/
theorem kept_grown {W W' : World} (may : MemPlace → Prop) (h : W.grownBy W' none) : W.keptBut W' may := by
  refine ⟨h.os, h.output, fun i hi => ?_⟩
  rw [h.block i hi (by simp)]
  cases W.heap[i]? with
  | none => rfl
  | some o => cases o <;> first
    | exact ⟨rfl, rfl, rfl, fun _ _ => rfl⟩
    | exact .inr ⟨rfl, rfl⟩
    | rfl
theorem wf_nat {k : IntKind} {n : Int} (hk : k.signed = false) (h : (Lit.int k n).wf = true) : 0 ≤ n ∧ n < 2 ^ k.bits := by
  simp only [Lit.wf, Bool.and_eq_true, decide_eq_true_eq, IntKind.min, IntKind.max, hk, Bool.false_eq_true, if_false] at h
  omega
theorem spot_none {w : World} {a : Addr} {v : Value} (h : w.cell? a = some v) : a = ⟨a.block, a.off, none⟩ := by
  obtain ⟨b, o, s⟩ := a
  cases s with
  | none => rfl
  | some s =>
    exfalso
    simp only [World.cell?] at h
    split at h <;> simp_all
theorem read_data {H : Type} {enc : TypeId × Value → H} (W' : World) (sp : Nat → Bool) (a : Addr) (len cap : Nat) (z : List Int) (hl : len ≤ cap) (hm : cap ≤ maxLen) (hz : z.length = cap) (hcell : ∀ i, i < z.length → W'.cell? (a.add i) = some (.int .u8 (z.getD i 0))) (hwz : ∀ n ∈ z, (Lit.int .u8 n).wf = true) (hsp' : ∀ p ∈ MemPlace.row a z.length, sp p.block = true) :
    DataW.Trod enc Tryz.prog W' 0 sp true 22 (.slice (some a) len cap) (.slice (lits .u8 (z.take len)) (lits .u8 (z.drop len))) (MemPlace.row a z.length) := by
  have hc5 : Tryz.prog.cellsOf 5 = 1 := by kernel_rfl
  by_cases hz0 : z.length = 0
  · have hc0 : cap = 0 := by omega
    have hl0 : len = 0 := by omega
    subst hc0; subst hl0
    have t0 := shut_ints (enc := enc) (w := W') (base := 0) (spare := sp) (held := true) (a := a) (len := 0) (cap := 0) (zs := z) 0 Tryz.underlying22 Tryz.underlying5 hc5 (Nat.zero_le _) (Nat.le_refl _) hm (by simp [hz0]) hcell hwz
    exact ⟨2, by simpa [Value.cells] using t0⟩
  · have hspb : sp a.block = true := hsp' (.cell a.block a.off) (MemPlace.mem_row.2 ⟨0, by omega, by simp⟩)
    have t0 := shut_ints (enc := enc) (w := W') (base := 0) (spare := sp) (held := true) (a := a) (len := len) (cap := cap) (zs := z) 0 Tryz.underlying22 Tryz.underlying5 hc5 (Nat.zero_le _) hl hm (by simp [hspb, hz]) hcell hwz
    exact ⟨2, by simpa [Value.cells] using t0⟩
theorem deep_bytes {W : World} {a : Addr} {l c : Nat} {zs : List Int} (hl : l ≤ c) (hm : c ≤ maxLen) (hz : zs.length = c) (hcell : ∀ i, i < zs.length → W.cell? (a.add i) = some (.int .u8 (zs.getD i 0))) : Deep W (fun _ => True) (.row 1 (ob (zs.take l))) (.slice (some a) l c) := by
  rcases Nat.eq_zero_or_pos c with h0 | h0
  · have : l = 0 := by omega
    subst this; subst h0
    rw [List.take_zero]
    exact .emp _ _
  · have h1 := hcell 0 (by omega)
    rw [show a.add 0 = a from rfl] at h1
    have h2 := spot_none h1
    rw [h2] at hcell h1 ⊢
    have hlt := World.block_lt_of_cell? _ _ h1
    rw [ob_ones]
    refine .row 1 a.block a.off l c _ ((zs.take l).map (Value.int .u8)) hl hm hlt trivial (by simp; omega) (by simp) (fun i v hi => ?_) (DeepL.ones _).2
    rw [List.getElem?_map, List.getElem?_take] at hi
    split at hi
    · rename_i hil
      have := hcell i (by omega)
      rw [add_flat] at this
      rw [this]
      rw [List.getElem?_eq_getElem (show i < zs.length by omega)] at hi
      cases hi
      simp [List.getD, List.getElem?_eq_getElem (show i < zs.length by omega)]
    · cases hi
set_option maxRecDepth 100000 in
/-- An argument of bytes: what it reads, and that it reads so behind new blocks. -/
theorem open_data {H : Type} {enc : TypeId × Value → H} {W : World} {base : Nat} {v0 : Value} {d0 : DataW H} {p : List MemPlace} (hv : Value.okWide Tryz.prog W .any base 22 v0) (h0 : DataW.Trod enc Tryz.prog W 0 (fun _ => true) true 22 v0 d0 p) :
    ∃ a l c xs, v0 = .slice a l c ∧ By xs ∧ Deep W (fun _ => True) (.row 1 (ob xs)) (.slice a l c) ∧ ∃ pa, ∀ W' : World, W.grownBy W' none → ∀ sp : Nat → Bool, (∀ q ∈ p, sp q.block = true) → DataW.Trod enc Tryz.prog W' 0 sp true 22 v0 d0 pa := by
  obtain ⟨a, l, c, rfl⟩ := okWide_slice Tryz.underlying22 hv
  obtain ⟨fuel, hf⟩ := h0
  have hc5 : Tryz.prog.cellsOf 5 = 1 := by kernel_rfl
  rcases open_ints Tryz.underlying22 Tryz.underlying5 hc5 hf with ⟨hcs, hx⟩ | ⟨a', l', c', zs, hcs, hb, hlc, hcm, hzl, hx, hcell, hwf⟩
  · simp [Value.cells] at hcs
    obtain ⟨rfl, rfl, rfl⟩ := hcs
    simp only [Prod.mk.injEq] at hx
    obtain ⟨rfl, rfl⟩ := hx
    exact ⟨none, 0, 0, [], rfl, (fun x hx => by cases hx), .emp _ _, [], fun W' hg sp hsp => shut_slice_nil Tryz.underlying22⟩
  · simp [Value.cells] at hcs
    obtain ⟨rfl, rfl, rfl⟩ := hcs
    simp only [Prod.mk.injEq] at hx
    obtain ⟨rfl, rfl⟩ := hx
    simp only [if_true] at hzl
    have hbyte : ∀ x ∈ zs.take l, 0 ≤ x ∧ x < 256 := fun x hx => wf_nat (by rfl) (hwf x (List.mem_of_mem_take hx))
    exact ⟨some a', l, c, zs.take l, rfl, hbyte, deep_bytes hlc hcm hzl hcell, MemPlace.row a' zs.length, fun W' hg sp hsp => read_data W' sp a' l c zs hlc hcm hzl (fun i hi => hg.cell (hcell i hi) (by simp)) hwf hsp⟩
end Go.Proofs.YtkdialecadjedaaGreat
