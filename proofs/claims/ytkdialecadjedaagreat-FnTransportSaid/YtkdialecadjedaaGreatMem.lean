/- Blocks of the heap, and what the operations do to them (no statement of the seat is proved here; conditions: none). -/
import Derived.Test.YtkdialecadjedaaGreatVc8
import Derived.Maps.AppendAt
namespace Go.Proofs.YtkdialecadjedaaGreat
set_option linter.unusedVariables false
set_option linter.unusedSimpArgs false
set_option linter.unusedSectionVars false
open Go

theorem bl {a b : Nat} (h : a ≤ b) : Nat.ble a b = true := by rw [Nat.ble_eq]; exact h
/-- A call by its contract. -/
theorem call_i {f : FuncId} {args args' : Array Value} {w : World} {R R' : Ending → World → Prop} (h : Calls pg f args w R) (he : args' = args) (hR : ∀ e w', R e w' → R' e w') : Calls pg f args' w R' := by
  rw [he]; exact h.mono hR
/-- The block 'b' has the cells 'l', of the type 't'. -/
structure Blk (w : World) (b : Nat) (t : TypeId) (l : List Value) : Prop where
  eq : w.heap[b]? = some (.cells l.toArray t (0, 0))
theorem Blk.lt {w : World} {b : Nat} {t : TypeId} {l : List Value} (h : Blk w b t l) : b < w.heap.size := (Array.getElem?_eq_some_iff.1 h.eq).1
theorem Blk.cell {w : World} {b : Nat} {t : TypeId} {l : List Value} {i : Nat} {v : Value} (h : Blk w b t l) (hi : l[i]? = some v) : w.cell? ⟨b, i, none⟩ = some v := by
  simp [World.cell?, h.eq, hi]
theorem Blk.thaw {w : World} {b : Nat} {t : TypeId} {l : List Value} (h : Blk w b t l) (i : Nat) : w.frozen? ⟨b, i, none⟩ = false := by
  simp [World.frozen?, h.eq]
theorem Blk.keep {w w' : World} {r : Option Nat} {b : Nat} {t : TypeId} {l : List Value} (hg : w.grownBy w' r) (hr : some b ≠ r) (h : Blk w b t l) : Blk w' b t l :=
  ⟨(hg.block b h.lt hr).trans h.eq⟩
theorem Blk.drew {w : World} {b : Nat} {t : TypeId} {l : List Value} (h : Blk w b t l) : Blk w.drew b t l := ⟨h.eq⟩
theorem Blk.row {w : World} {b : Nat} {t : TypeId} {l : List Value} (h : Blk w b t l) : ∃ c ty f, w.heap[b]? = some (.cells c ty f) := ⟨_, _, _, h.eq⟩
theorem grew_refl (w : World) (r : Option Nat) : w.grownBy w r := ⟨rfl, rfl, rfl, Nat.le_refl _, fun _ _ _ => rfl⟩
theorem grew_drew (w : World) (r : Option Nat) : w.grownBy w.drew r := ⟨rfl, rfl, rfl, Nat.le_refl _, fun _ _ _ => rfl⟩
theorem grew_undrew (w : World) (r : Option Nat) : w.drew.grownBy w r := ⟨rfl, rfl, rfl, Nat.le_refl _, fun _ _ _ => rfl⟩
/-- What came new in between may be turned. -/
theorem grew_step {a b c : World} {r s : Option Nat} (k : b.grownBy c s) (hs : ∀ j, s = some j → a.heap.size ≤ j ∨ r = some j) (h : a.grownBy b r) : a.grownBy c r :=
  ⟨k.os.trans h.os, k.tape.trans h.tape, k.output.trans h.output, Nat.le_trans h.size k.size, fun i hi hne =>
    (k.block i (Nat.lt_of_lt_of_le hi h.size) (fun e => by rcases hs i e.symm with h1 | h1; omega; exact hne h1.symm)).trans (h.block i hi hne)⟩
theorem grew_none {a b : World} (r : Option Nat) (h : a.grownBy b none) : a.grownBy b r := ⟨h.os, h.tape, h.output, h.size, fun i hi _ => h.block i hi (by simp)⟩

theorem grew_some {a b : World} {r : Nat} (h : a.grownBy b none) : a.grownBy b (some r) := grew_none _ h
theorem add_flat (b i n : Nat) : (⟨b, i, none⟩ : Addr).add n = ⟨b, i + n, none⟩ := by unfold Addr.add; split <;> simp_all

theorem add_flat2 (b i n m : Nat) : ((⟨b, i, none⟩ : Addr).add n).add m = ⟨b, i + n + m, none⟩ := by rw [add_flat, add_flat]
/-- A cell that is read. -/
theorem Ce {w : World} {a : Addr} {b : Nat} {t : TypeId} {l : List Value} {i : Nat} {v : Value} (ha : a = ⟨b, i, none⟩) (h : Blk w b t l) (hi : l[i]? = some v) : w.cell? a = some v := by
  subst ha; exact h.cell hi
/-- A new block. -/
theorem gNew_i {cs : Array Value} {t : TypeId} {K : Addr → World → Prop} {w : World}
    (h : ∀ b w', b = w.heap.size → w'.heap.size = b + 1 → w.grownBy w' none → Blk w' b t cs.toList → K ⟨b, 0, none⟩ w') : gNew cs t K w :=
  h w.heap.size (w.alloc (.cells cs t)) rfl (by simp) (World.grownBy_alloc _ _ _) ⟨by simpa using heap_alloc_new w (.cells cs t)⟩

def scalarT (P : Program) (t : TypeId) : Bool := match P.underlying t with
  | some (.struct _) => false
  | some (.array _ _) => false
  | some _ => true
  | none => false
def aggT (P : Program) (t : TypeId) (n : Nat) : Bool := match P.underlying t with
  | some (.struct _) => Nat.beq (P.cellsOf t) n && (P.info? t).isSome
  | some (.array _ _) => Nat.beq (P.cellsOf t) n && (P.info? t).isSome
  | _ => false
theorem run_isAgg_scalar {P : Program} {t : TypeId} (h : scalarT P t = true) (w : World) : (isAgg t).run P w = .ok false w := by
  unfold scalarT at h
  cases ht : P.underlying t with
  | none => rw [ht] at h; cases h
  | some k => rw [ht] at h; cases k <;> first | (simp only [isAgg, Sem.run_bind, run_underlying ht, Result.andThen_ok]; rfl) | cases h
theorem run_isAgg_agg {P : Program} {t : TypeId} {n : Nat} (h : aggT P t n = true) (w : World) : (isAgg t).run P w = .ok true w := by
  unfold aggT at h
  cases ht : P.underlying t with
  | none => rw [ht] at h; cases h
  | some k => rw [ht] at h; cases k <;> first | (simp only [isAgg, Sem.run_bind, run_underlying ht, Result.andThen_ok]; rfl) | cases h
theorem run_size_agg {P : Program} {t : TypeId} {n : Nat} (h : aggT P t n = true) (w : World) : (sizeOf t).run P w = .ok n w := by
  have h2 : Nat.beq (P.cellsOf t) n = true ∧ (P.info? t).isSome = true := by
    unfold aggT at h
    cases ht : P.underlying t with
    | none => rw [ht] at h; cases h
    | some k => rw [ht] at h; cases k <;> first | (simp only [Bool.and_eq_true] at h; exact h) | cases h
  rw [run_sizeOf P w t h2.2, Nat.eq_of_beq_eq_true h2.1]
def sizeB (P : Program) (t : TypeId) (n : Nat) : Bool := Nat.beq (P.cellsOf t) n && (P.info? t).isSome
theorem run_sizeB {P : Program} {t : TypeId} {n : Nat} (h : sizeB P t n = true) (w : World) : (sizeOf t).run P w = .ok n w := by
  simp only [sizeB, Bool.and_eq_true] at h
  rw [run_sizeOf P w t h.2, Nat.eq_of_beq_eq_true h.1]

theorem setCell_blk {w : World} {b : Nat} {t : TypeId} {l : List Value} {i : Nat} {v : Value} (h : Blk w b t l) : Blk (w.setCell ⟨b, i, none⟩ v) b t (l.set i v) := by
  constructor
  simp [World.setCell, Array.getElem?_modify, h.eq]
theorem setCell_size (w : World) (a : Addr) (v : Value) : (w.setCell a v).heap.size = w.heap.size := by simp [World.setCell]
theorem setCell_grew (w : World) (b i : Nat) (v : Value) : w.grownBy (w.setCell ⟨b, i, none⟩ v) (some b) :=
  ⟨rfl, rfl, rfl, Nat.le_of_eq (setCell_size _ _ _).symm, fun k _ hne => by
    simp only [World.setCell, Array.getElem?_modify]
    rw [if_neg (fun e => hne (by rw [e]))]⟩
/-- 'l' with 'vs' written at 'i'. -/
def putL : List Value → Nat → List Value → List Value
  | l, _, [] => l
  | l, i, v :: vs => putL (l.set i v) (i + 1) vs
theorem putL_length : ∀ (vs l : List Value) (i : Nat), (putL l i vs).length = l.length
  | [], _, _ => rfl
  | v :: vs, l, i => by rw [putL, putL_length vs]; simp
theorem run_storeCells {P : Program} {b : Nat} {ty : TypeId} {o : Nat} : ∀ (vs : List Value) (w : World) (l : List Value) (i : Nat), Blk w b ty l → o + i + vs.length ≤ l.length → (∀ u ∈ vs, u.oneCell' = true) →
    ∃ w', (storeCells ⟨b, o, none⟩ vs i).run P w = .ok () w' ∧ w'.heap.size = w.heap.size ∧ w.grownBy w' (some b) ∧ Blk w' b ty (putL l (o + i) vs)
  | [], w, l, i, hb, _, _ => ⟨w, rfl, rfl, grew_refl _ _, hb⟩
  | v :: vs, w, l, i, hb, hl, h1 => by
    simp only [List.length_cons] at hl
    have hc := hb.cell (List.getElem?_eq_getElem (show o + i < l.length by omega))
    have hz := hb.thaw (o + i)
    obtain ⟨w', hr, hs, hg, hB⟩ := run_storeCells (P := P) (o := o) vs _ (l.set (o + i) v) (i + 1) (setCell_blk (i := o + i) (v := v) hb) (by simp; omega) (fun u hu => h1 u (by simp [hu]))
    refine ⟨w', ?_, hs.trans (setCell_size _ _ _), World.grownBy.trans (setCell_grew _ _ _ _) hg, hB⟩
    simp only [storeCells, Sem.run_bind, add_flat, run_store P w _ v _ (h1 v (by simp)), hc, hz, Bool.false_eq_true, if_false, Result.andThen_ok]
    exact hr
/-- A store. -/
theorem St {P : Program} {t : TypeId} {w : World} {a : Addr} {b : Nat} {ty : TypeId} {l : List Value} {i : Nat} {v : Value} {K : World → Prop} (ha : a = ⟨b, i, none⟩) (hb : Blk w b ty l) (ht : sizeB P t v.cells.toList.length = true) (hi : Nat.ble (i + v.cells.toList.length) l.length = true)
    (h1 : v.cells.toList.all Value.oneCell' = true)
    (h : ∀ w', w'.heap.size = w.heap.size → w.grownBy w' (some b) → Blk w' b ty (putL l i v.cells.toList) → K w') : ∃ w', StV P t a v w w' ∧ K w' := by
  subst ha
  have hi := Nat.le_of_ble_eq_true hi
  obtain ⟨w', hr, hs, hg, hB⟩ := run_storeCells (P := P) (b := b) (ty := ty) (o := i) v.cells.toList w l 0 hb (by omega) (fun u hu => List.all_eq_true.1 h1 u hu)
  refine ⟨w', ?_, h w' hs hg hB⟩
  rw [Array.length_toList] at ht
  simp only [StV, storeVar, Sem.run_bind, run_sizeB ht, Result.andThen_ok, ne_eq, not_true_eq_false, if_false]
  exact hr
theorem putL_eq : ∀ (vs l : List Value) (i : Nat), i + vs.length ≤ l.length → putL l i vs = l.take i ++ vs ++ l.drop (i + vs.length)
  | [], l, i, _ => by simp [putL]
  | v :: vs, l, i, h => by
    simp only [List.length_cons] at h
    rw [putL, putL_eq vs (l.set i v) (i + 1) (by simp; omega)]
    rw [List.take_set, List.drop_set_of_lt (by omega), List.take_succ_eq_append_getElem (show i < l.length by omega)]
    rw [List.set_append_right _ _ (by simp; omega)]
    simp [Nat.min_eq_left (show i ≤ l.length by omega), Nat.add_assoc, Nat.add_comm 1]
/-- A struct that is written whole. -/
theorem St0 {P : Program} {t : TypeId} {w : World} {a : Addr} {b : Nat} {ty : TypeId} {l vs : List Value} {K : World → Prop} (ha : a = ⟨b, 0, none⟩) (hb : Blk w b ty l) (ht : sizeB P t vs.length = true) (hi : Nat.beq vs.length l.length = true)
    (h1 : vs.all Value.oneCell' = true)
    (h : ∀ w', w'.heap.size = w.heap.size → w.grownBy w' (some b) → Blk w' b ty vs → K w') : ∃ w', StV P t a (.agg vs.toArray) w w' ∧ K w' := by
  have hi := Nat.eq_of_beq_eq_true hi
  refine St ha hb ht (bl (by show 0 + vs.length ≤ _; omega)) h1 fun w' hs hg hB => h w' hs hg ?_
  have e : (Value.agg vs.toArray).cells.toList = vs := rfl
  rw [e, putL_eq vs l 0 (by omega)] at hB
  simpa [hi] using hB
theorem run_loadCells {P : Program} {b : Nat} {ty : TypeId} {o : Nat} {w : World} {l : List Value} (hb : Blk w b ty l) : ∀ (n i : Nat) (acc : Array Value), o + i + n ≤ l.length →
    (loadCellsFrom ⟨b, o, none⟩ i n acc).run P w = .ok (acc ++ ((l.drop (o + i)).take n).toArray) w
  | 0, i, acc, _ => by simp [loadCellsFrom]
  | n + 1, i, acc, h => by
    have hc := hb.cell (List.getElem?_eq_getElem (show o + i < l.length by omega))
    simp only [loadCellsFrom, Sem.run_bind, add_flat, run_load, hc, Result.andThen_ok]
    rw [run_loadCells hb n (i + 1) _ (by omega)]
    congr 1
    rw [List.drop_eq_getElem_cons (show o + i < l.length by omega), List.take_succ_cons]
    simp [Nat.add_assoc]
/-- A struct that is read. -/
theorem Ld {P : Program} {t : TypeId} {w : World} {a : Addr} {b : Nat} {ty : TypeId} {l : List Value} {i : Nat} {vs : List Value} (ha : a = ⟨b, i, none⟩) (hb : Blk w b ty l) (ht : aggT P t vs.length = true) (hi : Nat.ble (i + vs.length) l.length = true) (h : (l.drop i).take vs.length = vs) :
    LdV P t a (.agg vs.toArray) w := by
  subst ha
  have hi := Nat.le_of_ble_eq_true hi
  simp only [LdV, loadVar, Sem.run_bind, run_isAgg_agg ht, Result.andThen_ok, if_true, run_size_agg ht, loadCells]
  rw [run_loadCells hb _ 0 #[] (by omega)]
  simp [h]

/-- A struct that is read whole. -/
theorem Ld0 {P : Program} {t : TypeId} {w : World} {a : Addr} {b : Nat} {ty : TypeId} {l : List Value} (ha : a = ⟨b, 0, none⟩) (hb : Blk w b ty l) (ht : aggT P t l.length = true) : LdV P t a (.agg l.toArray) w :=
  Ld ha hb ht (by rw [Nat.zero_add]; exact bl (Nat.le_refl _)) (by simp)

/-! ### Slices of bytes -/
def Row (w : World) (b : Nat) : Prop := ∃ c ty f, w.heap[b]? = some (.cells c ty f)
theorem Row.lt {w : World} {b : Nat} (h : Row w b) : b < w.heap.size := by
  obtain ⟨_, _, _, h⟩ := h
  exact (Array.getElem?_eq_some_iff.1 h).1
theorem Row.keep {w w' : World} {r : Option Nat} {b : Nat} (hg : w.grownBy w' r) (hr : some b ≠ r) (h : Row w b) : Row w' b := by
  have hl := h.lt
  obtain ⟨c, t, f, h⟩ := h
  exact ⟨c, t, f, (hg.block b hl hr).trans h⟩
/-- The slice reads 'xs'; it lies in the block 'b'. -/
structure BS (w : World) (b : Nat) (a : Option Addr) (l c : Nat) (xs : List Int) : Prop where
  and : xs.length = l ∧ l ≤ c ∧ c ≤ maxLen ∧ (∀ x ∈ xs, 0 ≤ x ∧ x < 256) ∧ (a = none → c = 0) ∧ (∀ p, a = some p → 0 < c → ∃ o, p = ⟨b, o, none⟩ ∧ ∀ i x, xs[i]? = some x → w.cell? ⟨b, o + i, none⟩ = some (.int .u8 x)) ∧ Row w b
theorem BS.keep {w w' : World} {r : Option Nat} {b : Nat} {a : Option Addr} {l c : Nat} {xs : List Int} (hg : w.grownBy w' r) (hr : some b ≠ r) (h : BS w b a l c xs) : BS w' b a l c xs := by
  obtain ⟨h1, h2, h3, h4, h5, h6, h7⟩ := h.and
  refine ⟨h1, h2, h3, h4, h5, fun p hp hc => ?_, h7.keep hg hr⟩
  obtain ⟨o, rfl, hx⟩ := h6 p hp hc
  exact ⟨o, rfl, fun i x hi => hg.cell (hx i x hi) hr⟩
theorem BS.drew {w : World} {b : Nat} {a : Option Addr} {l c : Nat} {xs : List Int} (h : BS w b a l c xs) : BS w.drew b a l c xs := by
  obtain ⟨h1, h2, h3, h4, h5, h6, h7⟩ := h.and
  exact ⟨h1, h2, h3, h4, h5, h6, h7⟩
theorem BS.len {w : World} {b : Nat} {a : Option Addr} {l c : Nat} {xs : List Int} (h : BS w b a l c xs) : xs.length = l := h.and.1
theorem BS.blk {w : World} {b : Nat} {a : Option Addr} {l c : Nat} {xs : List Int} (h : BS w b a l c xs) : Row w b := h.and.2.2.2.2.2.2
theorem BS.lt {w : World} {b : Nat} {a : Option Addr} {l c : Nat} {xs : List Int} (h : BS w b a l c xs) : b < w.heap.size := h.blk.lt
theorem BS.byte {w : World} {b : Nat} {a : Option Addr} {l c : Nat} {xs : List Int} (h : BS w b a l c xs) : ∀ x ∈ xs, 0 ≤ x ∧ x < 256 := h.and.2.2.2.1
theorem BS.at_ {w : World} {b : Nat} {a : Option Addr} {l c : Nat} {xs : List Int} (h : BS w b a l c xs) (hl : 0 < xs.length) : ∃ o, a = some ⟨b, o, none⟩ ∧ ∀ i x, xs[i]? = some x → w.cell? ⟨b, o + i, none⟩ = some (.int .u8 x) := by
  cases a with
  | none => have h1 := h.and.1; have h2 := h.and.2.1; have := h.and.2.2.2.2.1 rfl; omega
  | some p => obtain ⟨o, rfl, hx⟩ := h.and.2.2.2.2.2.1 p rfl (by have h1 := h.and.1; have h2 := h.and.2.1; omega); exact ⟨o, rfl, hx⟩
/-- A part of it. -/
theorem BS.cut {w : World} {b : Nat} {a : Option Addr} {l c : Nat} {xs : List Int} (h : BS w b a l c xs) (i j m : Nat) (hi : i ≤ j) (hj : j ≤ l) (hm : j ≤ m) (hc : m ≤ c) : BS w b (cutA a i m 1) (j - i) (m - i) ((xs.drop i).take (j - i)) := by
  obtain ⟨h1, h2, h3, h4, h5, h6, h7⟩ := h.and
  refine ⟨by simp; omega, by omega, by omega, fun x hx => h4 x (List.mem_of_mem_drop (List.mem_of_mem_take hx)), fun e => ?_, fun p hp hc0 => ?_, h7⟩
  · unfold cutA at e
    split at e
    · omega
    · cases a with
      | none => have := h5 rfl; omega
      | some p => simp at e
  · unfold cutA at hp
    split at hp
    · omega
    · cases a with
      | none => simp at hp
      | some q =>
        obtain ⟨o, rfl, hx⟩ := h6 q rfl (by omega)
        simp only [Option.map_some, Option.some.injEq] at hp
        subst hp
        refine ⟨o + i * 1, add_flat _ _ _, fun k x hk => ?_⟩
        rw [List.getElem?_take] at hk
        split at hk
        · rw [List.getElem?_drop] at hk
          have := hx (i + k) x hk
          rw [show o + i * 1 + k = o + (i + k) by omega]
          exact this
        · cases hk

/-! ### Slices of the function's own, and append -/
/-- The slice is the function's own (its block begins with it, is 'base' or behind, and nobody else's), it reads 'xs'; 'r' is its block. -/
structure OS (w : World) (base : Nat) (e : TypeId) (size : Nat) (a : Option Addr) (l c : Nat) (r : Option Nat) (xs : List Value) : Prop where
  own : w.ownsRow base e size (.slice a l c) l xs
  blk : r = (Value.slice a l c).ownBlock
theorem OS.keep {w w' : World} {row : Option Nat} {base : Nat} {e : TypeId} {size : Nat} {a : Option Addr} {l c : Nat} {r : Option Nat} {xs : List Value} (hg : w.grownBy w' row) (hr : r = none ∨ r ≠ row) (h : OS w base e size a l c r xs) : OS w' base e size a l c r xs :=
  ⟨h.own.kept hg (by rw [← h.blk]; exact hr), h.blk⟩
theorem OS.drew {w : World} {base : Nat} {e : TypeId} {size : Nat} {a : Option Addr} {l c : Nat} {r : Option Nat} {xs : List Value} (h : OS w base e size a l c r xs) : OS w.drew base e size a l c r xs := ⟨h.own, h.blk⟩
theorem OS.lt {w : World} {base : Nat} {e : TypeId} {size : Nat} {a : Option Addr} {l c : Nat} {r : Option Nat} {xs : List Value} (h : OS w base e size a l c r xs) {k : Nat} (hk : r = some k) : base ≤ k ∧ k < w.heap.size :=
  h.own.lt k (by rw [← h.blk]; exact hk)
theorem OS.len {w : World} {base : Nat} {e : TypeId} {size : Nat} {a : Option Addr} {l c : Nat} {r : Option Nat} {xs : List Value} (h : OS w base e size a l c r xs) : xs.length = l * size := h.own.1
theorem OS.nil (w : World) (base : Nat) (e : TypeId) (size : Nat) : OS w base e size none 0 0 none [] := ⟨World.ownsRow_nil _ _ _ _, rfl⟩
theorem OS.of_blk {w : World} {base b : Nat} {e : TypeId} {size n : Nat} {l : List Value} (h : Blk w b e l) (hl : l.length = n * size) (hb : base ≤ b) (hn : n ≤ maxLen) : OS w base e size (some ⟨b, 0, none⟩) n n (some b) l :=
  ⟨⟨hl, .inr ⟨b, n, l.toArray, rfl, hb, h.eq, Nat.le_refl _, hn, by simpa using hl, by simp [← hl]⟩⟩, rfl⟩
/-- What it reads, cell by cell. -/
theorem OS.at_ {w : World} {base : Nat} {e : TypeId} {size : Nat} {a : Option Addr} {l c : Nat} {r : Option Nat} {xs : List Value} (h : OS w base e size a l c r xs) (hl : 0 < l) :
    ∃ b, r = some b ∧ a = some ⟨b, 0, none⟩ ∧ base ≤ b ∧ b < w.heap.size ∧ l ≤ c ∧ c ≤ maxLen ∧ ∀ i u, xs[i]? = some u → w.cell? ⟨b, i, none⟩ = some u := by
  rcases h.own.2 with ⟨_, h0⟩ | ⟨g, cap, cur, hv, hb, hg, hc, hm, hs, ht⟩
  · omega
  · simp only [Value.slice.injEq] at hv
    obtain ⟨rfl, _, rfl⟩ := hv
    refine ⟨g, h.blk, rfl, hb, (Array.getElem?_eq_some_iff.1 hg).1, hc, hm, fun i u hu => ?_⟩
    have := h.own.cells (g := g) rfl i u hu
    rwa [add_flat, Nat.zero_add] at this

def apT (P : Program) (t e : TypeId) (size bytes : Nat) : Bool := match P.underlying t, P.info? e with
  | some (.slice e'), some i => (match i.zero with
    | some z => Nat.beq e' e && Nat.beq i.size size && Nat.beq i.bytes bytes && Nat.beq z.cells.size size && Nat.blt 0 size
    | none => false)
  | _, _ => false
theorem apT_spec {P : Program} {t e : TypeId} {size bytes : Nat} (h : apT P t e size bytes = true) :
    P.underlying t = some (.slice e) ∧ ∃ i z, P.info? e = some i ∧ i.zero = some z ∧ i.size = size ∧ i.bytes = bytes ∧ z.cells.size = size ∧ 0 < size := by
  unfold apT at h
  split at h
  · rename_i e' i ht hi
    split at h
    · rename_i z hz
      simp only [Bool.and_eq_true] at h
      obtain ⟨⟨⟨⟨h1, h2⟩, h3⟩, h4⟩, h5⟩ := h
      obtain rfl := Nat.eq_of_beq_eq_true h1
      refine ⟨ht, i, z, hi, hz, Nat.eq_of_beq_eq_true h2, Nat.eq_of_beq_eq_true h3, Nat.eq_of_beq_eq_true h4, ?_⟩
      simp only [Nat.blt, Nat.ble_eq] at h5
      omega
    · cases h
  · cases h
/-- append(s, x...): what it yields. -/
theorem app_i {P : Program} {t ty e : TypeId} {size bytes : Nat} (hap : apT P t e size bytes = true) {w : World} {base : Nat} {a : Option Addr} {l c : Nat} {r : Option Nat} {xs : List Value} (h : OS w base e size a l c r xs)
    {ad : Addr} {m k : Nat} (news : List Value) (hl : news.length = m * size) (hnews : ∀ j u, news[j]? = some u → w.cell? (ad.add j) = some u) (h1 : ∀ u ∈ news, u.oneCell' = true)
    (h63 : l + m ≤ maxLen) (hbytes : (l + m) * bytes ≤ 140737488355328) (hbase : base ≤ w.heap.size) {K : Option Addr → Nat → Nat → World → Prop}
    (hK : ∀ a' l' c' r' w', l' = l + m → w.heap.size ≤ w'.heap.size → w.grownBy w' r → OS w' base e size a' l' c' r' (xs ++ news) → (r' = r ∨ r' = some w.heap.size) → K a' l' c' w') :
    ∃ a' l' c', ∃ w', (Builtin.append_ #[t, t] ty #[.slice a l c, .slice (some ad) m k]).run P w = .ok (.slice a' l' c') w' ∧ K a' l' c' w' := by
  obtain ⟨ht, i, z, hi, hz, hs, hb, hzs, h0⟩ := apT_spec hap
  obtain ⟨v', w', hr, ho, hg, _, hat⟩ := run_append_own_at (P := P) w base t ty e i z size bytes ht hi hz hs hb hzs h0 (.slice a l c) l xs h.own ad m k news hl hnews h1 h63 hbytes hbase
  have hv : ∃ a' c', v' = .slice a' (l + m) c' := by
    rcases ho.2 with ⟨rfl, h0⟩ | ⟨g, cap, cur, rfl, _⟩
    · rw [h0]; exact ⟨none, 0, rfl⟩
    · exact ⟨_, _, rfl⟩
  obtain ⟨a', c', rfl⟩ := hv
  refine ⟨a', l + m, c', w', hr, hK a' (l + m) c' _ w' rfl hg.size (by rw [h.blk]; exact hg) ⟨ho, rfl⟩ ?_⟩
  rw [h.blk]
  exact hat

/-- A slice of the function's own that holds bytes. -/
theorem OS.bs {w : World} {base : Nat} {e : TypeId} {a : Option Addr} {l c : Nat} {b : Nat} {xs : List Int} (h : OS w base e 1 a l c (some b) (xs.map (Value.int .u8))) (hx : ∀ x ∈ xs, 0 ≤ x ∧ x < 256) : BS w b a l c xs := by
  rcases h.own.2 with ⟨hv, h0⟩ | ⟨g, cap, cur, hv, hb, hg, hc, hm, hs, ht⟩
  · have := h.blk
    rw [hv] at this
    simp [Value.ownBlock] at this
  · have hb' := h.blk
    rw [hv] at hb'
    simp only [Value.ownBlock, Option.some.injEq] at hb'
    subst hb'
    simp only [Value.slice.injEq] at hv
    obtain ⟨rfl, _, rfl⟩ := hv
    have hlen := h.len
    rw [List.length_map] at hlen
    refine ⟨by omega, hc, hm, hx, by simp, fun p hp _ => ?_, ⟨_, _, _, hg⟩⟩
    cases hp
    refine ⟨0, rfl, fun i x hi => ?_⟩
    have := h.own.cells (g := b) rfl i (.int .u8 x) (by simp [hi])
    rwa [add_flat] at this
end Go.Proofs.YtkdialecadjedaaGreat
