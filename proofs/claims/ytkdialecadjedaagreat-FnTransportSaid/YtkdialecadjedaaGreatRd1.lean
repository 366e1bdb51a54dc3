/- spec's readers of numbers: what they compute (no statement of the seat is proved here; conditions: their slices read bytes). -/
import Derived.Test.YtkdialecadjedaaGreatSwA
import Derived.Test.YtkdialecadjedaaGreatSat2
import Derived.Test.YtkdialecadjedaaGreatNum
namespace Go.Proofs.YtkdialecadjedaaGreat
set_option linter.unusedVariables false
set_option linter.unusedSimpArgs false
set_option linter.unusedSectionVars false
open Go

theorem uSl : pg.underlying 22 = some (.slice 5) := by kernel_rfl
theorem uU8 : pg.underlying 5 = some (.int .u8) := by kernel_rfl
theorem uStr : pg.underlying 9 = some .string := by kernel_rfl
/-! ### Bytes and numbers -/
abbrev By (xs : List Int) : Prop := ∀ x ∈ xs, 0 ≤ x ∧ x < 256
theorem By.drop {xs : List Int} (h : By xs) (k : Nat) : By (xs.drop k) := fun x hx => h x (List.mem_of_mem_drop hx)
theorem By.take {xs : List Int} (h : By xs) (k : Nat) : By (xs.take k) := fun x hx => h x (List.mem_of_mem_take hx)
theorem By.getD {xs : List Int} (h : By xs) (i : Nat) : 0 ≤ xs.getD i 0 ∧ xs.getD i 0 < 256 := by
  rw [List.getD]
  cases hi : xs[i]? with
  | none => simp
  | some x => exact h x (List.mem_of_getElem? hi)
def n16 (xs : List Int) : Int := xs.getD 0 0 * 256 + xs.getD 1 0
def n24 (xs : List Int) : Int := xs.getD 0 0 * 65536 + xs.getD 1 0 * 256 + xs.getD 2 0
def n32 (xs : List Int) : Int := n16 xs * 65536 + n16 (xs.drop 2)
def n64 (xs : List Int) : Int := n32 xs * 4294967296 + n32 (xs.drop 4)
theorem n16_lt {xs : List Int} (h : By xs) : 0 ≤ n16 xs ∧ n16 xs < 65536 := by
  have h0 := h.getD 0
  have h1 := h.getD 1
  unfold n16; omega
theorem n24_lt {xs : List Int} (h : By xs) : 0 ≤ n24 xs ∧ n24 xs < 16777216 := by
  have h0 := h.getD 0
  have h1 := h.getD 1
  have h2 := h.getD 2
  unfold n24; omega
theorem n32_lt {xs : List Int} (h : By xs) : 0 ≤ n32 xs ∧ n32 xs < 4294967296 := by
  have h0 := n16_lt h
  have h1 := n16_lt (h.drop 2)
  unfold n32; omega
theorem n64_lt {xs : List Int} (h : By xs) : 0 ≤ n64 xs ∧ n64 xs < 18446744073709551616 := by
  have h0 := n32_lt h
  have h1 := n32_lt (h.drop 4)
  unfold n64; omega
theorem be32c {x y : Int} (hx : 0 ≤ x ∧ x < 65536) (hy : 0 ≤ y ∧ y < 65536) : ior .u32 (ishl .u32 (IntKind.u32.wrap x) (16 : Int)) (IntKind.u32.wrap y) = x * 65536 + y := by
  rw [ishl_of 16 (by rfl) (by decide), wu32, wu32, wu32]
  rw [show x % 4294967296 * 2 ^ 16 % 4294967296 = x * 65536 by omega, show y % 4294967296 = y by omega]
  exact ior_add (by rfl) 16 x (by omega) hx.1 hy.1 (by omega) (by simp only [IntKind.bits]; omega)
theorem be64c {x y : Int} (hx : 0 ≤ x ∧ x < 4294967296) (hy : 0 ≤ y ∧ y < 4294967296) : ior .u64 (ishl .u64 (IntKind.u64.wrap x) (32 : Int)) (IntKind.u64.wrap y) = x * 4294967296 + y := by
  rw [ishl_of 32 (by rfl) (by decide), wu64, wu64, wu64]
  rw [show x % 18446744073709551616 * 2 ^ 32 % 18446744073709551616 = x * 4294967296 by omega, show y % 18446744073709551616 = y by omega]
  exact ior_add (by rfl) 32 x (by omega) hx.1 hy.1 (by omega) (by simp only [IntKind.bits]; omega)
theorem be24c {x y z : Int} (hx : 0 ≤ x ∧ x < 256) (hy : 0 ≤ y ∧ y < 256) (hz : 0 ≤ z ∧ z < 256) :
    ior .u32 (ior .u32 (ishl .u32 (IntKind.u32.wrap x) (16 : Int)) (ishl .u32 (IntKind.u32.wrap y) (8 : Int))) (IntKind.u32.wrap z) = x * 65536 + y * 256 + z := by
  rw [ishl_of 16 (by rfl) (by decide), ishl_of 8 (by rfl) (by decide), wu32, wu32, wu32, wu32, wu32]
  rw [show x % 4294967296 * 2 ^ 16 % 4294967296 = x * 65536 by omega, show y % 4294967296 * 2 ^ 8 % 4294967296 = y * 256 by omega, show z % 4294967296 = z by omega]
  rw [ior_add (k := .u32) (by rfl) 16 x (a := x * 65536) (b := y * 256) (by omega) hx.1 (by omega) (by omega) (by simp only [IntKind.bits]; omega)]
  exact ior_add (by rfl) 8 (x * 256 + y) (by omega) (by omega) hz.1 (by omega) (by simp only [IntKind.bits]; omega)

/-! ### Slices that read bytes -/
structure Rd (w : World) (xs : List Int) (a : Option Addr) (n c : Nat) : Prop where
  and : ∃ G, Deep w G (.row 1 (ob xs)) (.slice a n c)
theorem Rd.len {w : World} {xs : List Int} {a : Option Addr} {n c : Nat} (h : Rd w xs a n c) : xs.length = n ∧ n ≤ c ∧ c ≤ maxLen := by
  obtain ⟨G, h⟩ := h.and
  exact ⟨h.lenB, h.len.2.1, h.len.2.2.1⟩
theorem Rd.keep {w w' : World} {xs : List Int} {a : Option Addr} {n c : Nat} (h : Rd w xs a n c) (hg : w.grownBy w' none) : Rd w' xs a n c := by
  obtain ⟨G, h⟩ := h.and
  exact ⟨G, h.keep (Gr.of hg) (fun _ _ hg => ⟨by simp, hg⟩)⟩
theorem Rd.drew {w : World} {xs : List Int} {a : Option Addr} {n c : Nat} (h : Rd w xs a n c) : Rd w.drew xs a n c := h.keep (grew_drew _ _)
theorem Rd.cut {w : World} {xs : List Int} {a : Option Addr} {n c : Nat} (h : Rd w xs a n c) (i j : Nat) (hi : i ≤ j) (hj : j ≤ n) : Rd w ((xs.drop i).take (j - i)) (cutA a i c 1) (j - i) (c - i) := by
  obtain ⟨G, h⟩ := h.and
  have h1 := h.cut i j c hi hj (by have := h.len; omega) (Nat.le_refl _)
  rw [Nat.mul_one, Nat.mul_one, ob_drop, ob_take] at h1
  exact ⟨G, h1⟩
theorem Rd.skip {w : World} {xs : List Int} {a : Option Addr} {n c : Nat} (h : Rd w xs a n c) (i : Nat) (hi : i ≤ n) : Rd w (xs.drop i) (cutA a i c 1) (n - i) (c - i) := by
  have h1 := h.cut i n hi (Nat.le_refl _)
  rwa [List.take_of_length_le (by rw [List.length_drop, h.len.1]; exact Nat.le_refl _)] at h1
theorem Rd.at_ {w : World} {xs : List Int} {a : Option Addr} {n c : Nat} (h : Rd w xs a n c) (hn : 0 < n) :
    ∃ p : Addr, a = some p ∧ (∀ i, i < n → w.cell? (p.add i) = some (.int .u8 (xs.getD i 0))) ∧ ∀ i, ∃ cc ty f, w.heap[(p.add i).block]? = some (.cells cc ty f) := by
  obtain ⟨G, h⟩ := h.and
  have hl := h.lenB
  obtain ⟨b, o, vs, rfl, hlt, _, hL, hc⟩ := h.at_ hn
  rw [ob_ones] at hL
  obtain rfl := hL.of_ones
  have hcell : ∀ i, i < n → w.cell? ⟨b, o + i, none⟩ = some (.int .u8 (xs.getD i 0)) := fun i hi => hc i _ (by
    rw [List.getElem?_map, List.getElem?_eq_getElem (by omega), Option.map_some]
    simp [List.getD, List.getElem?_eq_getElem (show i < xs.length by omega)])
  refine ⟨_, rfl, fun i hi => by rw [add_flat]; exact hcell i hi, fun i => ?_⟩
  rw [add_flat]
  have h0 := hcell 0 hn
  unfold World.cell? at h0
  split at h0
  · rename_i cc e f hb; exact ⟨cc, e, f, hb⟩
  · cases h0
theorem Sat.rd {F : Fr} {w : World} {ex : List Ex} {ro : List Ro} {xs : List Int} {a : Option Addr} {n c : Nat} (H : Sat F w ex ro) (h : Ro.B xs a n c ∈ ro) : Rd w xs a n c := ⟨_, H.deep1 h⟩

/-! ### The readers -/
theorem c23 {w : World} {xs : List Int} {a : Option Addr} {n c : Nat} (h : Rd w xs a n c) (hb : By xs) (hn : 2 ≤ n) :
    Calls pg 23 #[.slice a n c] w fun en w' => en = .returned (.int .u16 (n16 xs)) ∧ w.grownBy w' none := by
  apply of23
  obtain ⟨p, rfl, hc, _⟩ := h.at_ (by omega)
  refine ⟨_, rfl, by omega, by omega, _, hc 0 (by omega), _, rfl, by omega, by omega, _, hc 1 (by omega), ?_, grew_drew _ _⟩
  rw [be16 (hb.getD 0) (hb.getD 1)]; rfl
theorem c25 {w : World} {xs : List Int} {a : Option Addr} {n c : Nat} (h : Rd w xs a n c) (hb : By xs) (hn : 3 ≤ n) :
    Calls pg 25 #[.slice a n c] w fun en w' => en = .returned (.int .u32 (n24 xs)) ∧ w.grownBy w' none := by
  apply of25
  obtain ⟨p, rfl, hc, _⟩ := h.at_ (by omega)
  refine ⟨_, rfl, by omega, by omega, _, hc 0 (by omega), _, rfl, by omega, by omega, _, hc 1 (by omega), _, rfl, by omega, by omega, _, hc 2 (by omega), ?_, grew_drew _ _⟩
  rw [be24c (hb.getD 0) (hb.getD 1) (hb.getD 2)]; rfl
theorem c10 {w : World} {xs : List Int} {a : Option Addr} {n c : Nat} (h : Rd w xs a n c) (hb : By xs) (hn : 4 ≤ n) :
    Calls pg 10 #[.slice a n c] w fun en w' => en = .returned (.int .u32 (n32 xs)) ∧ w.grownBy w' none := by
  apply of10
  refine ⟨by omega, by omega, ?_⟩
  refine call_i (c23 h.drew hb (by omega)) (by rfl) ?_
  rintro _ w1 ⟨rfl, g1⟩
  refine ⟨_, rfl, ?_⟩
  refine call_i (c23 ((h.keep (World.grownBy.trans (grew_drew _ _) g1)).skip 2 (by omega)) (hb.drop 2) (by omega)) (by rfl) ?_
  rintro _ w2 ⟨rfl, g2⟩
  refine ⟨_, rfl, ?_, World.grownBy.trans (World.grownBy.trans (grew_drew _ _) g1) g2⟩
  rw [be32c (n16_lt hb) (n16_lt (hb.drop 2))]; rfl
theorem c11 {w : World} {xs : List Int} {a : Option Addr} {n c : Nat} (h : Rd w xs a n c) (hb : By xs) (hn : 8 ≤ n) :
    Calls pg 11 #[.slice a n c] w fun en w' => en = .returned (.int .u64 (n64 xs)) ∧ w.grownBy w' none := by
  apply of11
  refine ⟨by omega, by omega, ?_⟩
  refine call_i (c10 h.drew hb (by omega)) (by rfl) ?_
  rintro _ w1 ⟨rfl, g1⟩
  refine ⟨_, rfl, ?_⟩
  refine call_i (c10 ((h.keep (World.grownBy.trans (grew_drew _ _) g1)).skip 4 (by omega)) (hb.drop 4) (by omega)) (by rfl) ?_
  rintro _ w2 ⟨rfl, g2⟩
  refine ⟨_, rfl, ?_, World.grownBy.trans (World.grownBy.trans (grew_drew _ _) g1) g2⟩
  rw [be64c (n32_lt hb) (n32_lt (hb.drop 4))]; rfl
end Go.Proofs.YtkdialecadjedaaGreat
