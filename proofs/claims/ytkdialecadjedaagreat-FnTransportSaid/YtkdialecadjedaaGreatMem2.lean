/- make, copy, and a string made of bytes (no statement of the seat is proved here; conditions: none). -/
import Derived.Test.YtkdialecadjedaaGreatMem
import Derived.Laws.OwnMore
import Derived.Laws.BytesArg
import Derived.Laws.CopyRow
namespace Go.Proofs.YtkdialecadjedaaGreat
set_option linter.unusedVariables false
set_option linter.unusedSimpArgs false
set_option linter.unusedSectionVars false
open Go

theorem madeCells_one (v : Value) (n : Nat) : (madeCells #[v] n).toList = List.replicate n v := by
  apply List.ext_getElem
  · simp [madeCells]
  · intro i h1 h2
    simp [madeCells, Nat.mod_one]
/-- make([]T, n), T of one cell. -/
theorem mk_i {P : Program} {t e : TypeId} {kl kc : IntKind} {n bytes : Nat} {z : Value} (hap : apT P t e 1 bytes = true) (hz : (P.info? e).bind (·.zero) = some z) (hzc : z.cells = #[z]) {w : World} (hn : n ≤ maxLen) (hb : bytes * n ≤ 281474976710656) {K : Option Addr → Nat → Nat → World → Prop}
    (hK : ∀ b w', b = w.heap.size → b < w'.heap.size → w.grownBy w' none → Blk w' b e (List.replicate n z) → K (some ⟨b, 0, none⟩) n n w') :
    ∃ a l c, ∃ w', (Instr.makeSlice t (.int kl (n : Int)) (.int kc (n : Int))).run P w = .ok (.slice a l c) w' ∧ K a l c w' := by
  obtain ⟨ht, i, z', hi, hz', hs, hbb, hzs, h0⟩ := apT_spec hap
  obtain rfl : z' = z := by rw [hi] at hz; simp only [Option.bind_some] at hz; rw [hz'] at hz; exact Option.some.inj hz
  obtain ⟨w', hr, ho, hg⟩ := run_make_full (P := P) w w.heap.size t e i z' 1 ht hi hz' hs kl kc n (by rw [hbb]; exact hb) hn (Nat.le_refl _)
  refine ⟨_, _, _, w', hr, ?_⟩
  rcases ho.2 with ⟨hv, _⟩ | ⟨g, cap, cur, hv, hbg, hgg, hc, hm, hsz, htk⟩
  · cases hv
  · simp only [Value.slice.injEq, Option.some.injEq, Addr.mk.injEq] at hv
    obtain ⟨⟨rfl, _⟩, _, rfl⟩ := hv
    rw [hzc, Nat.mul_one, madeCells_one] at htk
    refine hK _ w' rfl (Array.getElem?_eq_some_iff.1 hgg).1 hg ?_
    have : cur.toList = List.replicate n z' := by rw [← htk, List.take_of_length_le (by rw [Array.length_toList]; omega)]
    constructor
    rw [← this]
    exact hgg

/-- copy(dst, src), cells of one kind; what 'src' held: 'cs', as many as go over. -/
theorem cp_i {P : Program} {dT sT ty elem : TypeId} {bytes : Nat} (hap : apT P dT elem 1 bytes = true) {w : World} {g o dLen dCap sLen sCap : Nat} {a : Addr} {t : TypeId} {l : List Value} (hB : Blk w g t l) (cs : List Value)
    (hn : cs.length = Nat.min sLen dLen) (hsrc : ∀ j v, cs[j]? = some v → w.cell? (a.add j) = some v) (hfit : o + cs.length ≤ l.length) (h1 : ∀ v ∈ cs, v.oneCell' = true) {K : Int → World → Prop}
    (hK : ∀ w', w'.heap.size = w.heap.size → w.grownBy w' (some g) → Blk w' g t (l.take o ++ cs ++ l.drop (o + cs.length)) → K cs.length w') :
    ∃ n, ∃ w', (Builtin.copy_ #[dT, sT] ty #[.slice (some ⟨g, o, none⟩) dLen dCap, .slice (some a) sLen sCap]).run P w = .ok (.int .i64 n) w' ∧ K n w' := by
  obtain ⟨ht, i, z', hi, hz', hs, hbb, hzs, h0⟩ := apT_spec hap
  have hr := run_copy_row (P := P) w dT sT ty elem g o dLen dCap a sLen sCap l.toArray t cs ht (by rw [hi]; simp [hs]) hB.eq hn hsrc (by simpa using hfit) h1
  refine ⟨_, _, hr, hK _ ?_ ⟨rfl, rfl, rfl, ?_, fun k _ hk => setRow_other w g k _ (fun e => hk (by rw [e]))⟩ ?_⟩
  · simp [World.setRow]
  · simp [World.setRow]
  · have := setRow_heap w g l.toArray ((l.take o ++ cs ++ l.drop (o + cs.length)).toArray) t (0, 0) hB.eq
    exact ⟨by simpa using this⟩

/-- string(b). -/
theorem cv_bs {P : Program} {src dst e : TypeId} (hs : P.underlying src = some (.slice e)) (he : P.underlying e = some (.int .u8)) (hd : P.underlying dst = some .string) {w : World} {b : Nat} {a : Option Addr} {l c : Nat} {xs : List Int} (h : BS w b a l c xs) :
    (convert src dst (.slice a l c)).run P w = .ok (.string (strOfNums xs)) w := by
  cases a with
  | none =>
    have h1 := h.and.1; have h2 := h.and.2.1; have h3 := h.and.2.2.2.2.1 rfl
    have : xs = [] := List.eq_nil_of_length_eq_zero (by omega)
    subst this
    exact run_convert_bytes_nil w src e hs he l c dst hd
  | some p =>
    rcases Nat.eq_zero_or_pos c with h0 | h0
    · have h1 := h.and.1; have h2 := h.and.2.1
      have : xs = [] := List.eq_nil_of_length_eq_zero (by omega)
      subst this
      obtain rfl : l = 0 := by omega
      rw [run_convert_bytes_string w src dst e _ 0 c hs he hd, run_bytesToString w _ 0 c [] rfl]
      rfl
    obtain ⟨o, rfl, hx⟩ := h.and.2.2.2.2.2.1 p rfl h0
    refine run_convert_bytes_arg w src e hs he b o l c xs h.len (fun i hi => ?_) dst hd
    have hl := h.len
    have := hx i (xs[i]'(by omega)) (List.getElem?_eq_getElem (by omega))
    rw [this]
    simp [List.getD, List.getElem?_eq_getElem (show i < xs.length by omega)]

/-- A byte that is read. -/
theorem Rb {w : World} {a : Addr} {b o i : Nat} {l c : Nat} {xs : List Int} {x : Int} (ha : a = ⟨b, o + i, none⟩) (h : BS w b (some ⟨b, o, none⟩) l c xs) (hi : xs[i]? = some x) : w.cell? a = some (.int .u8 x) := by
  subst ha
  obtain ⟨o', he, hx⟩ := h.and.2.2.2.2.2.1 _ rfl (by
    have h1 := h.and.1; have h2 := h.and.2.1
    have := (List.getElem?_eq_some_iff.1 hi).1
    omega)
  simp only [Addr.mk.injEq, true_and, and_true] at he
  subst he
  exact hx i x hi
theorem flat0 (b o : Nat) : (⟨b, o, none⟩ : Addr) = ⟨b, o + 0, none⟩ := rfl
/-- The listed errors are none of them nil. -/
structure Errs (w : World) : Prop where
  e0 : ∃ t v, w.cell? ⟨0, 0, none⟩ = some (.iface t v)
  e1 : ∃ t v, w.cell? ⟨1, 0, none⟩ = some (.iface t v)
  e2 : ∃ t v, w.cell? ⟨2, 0, none⟩ = some (.iface t v)
theorem Errs.lt {w : World} (h : Errs w) : 2 < w.heap.size := by
  obtain ⟨_, _, h⟩ := h.e2
  exact World.block_lt_of_cell? _ _ h
theorem Errs.keep {w w' : World} {r : Option Nat} (hg : w.grownBy w' r) (hr : ∀ k, r = some k → 2 < k) (h : Errs w) : Errs w' := by
  have one : ∀ g, g ≤ 2 → (∃ t v, w.cell? ⟨g, 0, none⟩ = some (.iface t v)) → ∃ t v, w'.cell? ⟨g, 0, none⟩ = some (.iface t v) := fun g hg2 ⟨t, v, h⟩ =>
    ⟨t, v, hg.cell h (fun e => by have := hr g e.symm; omega)⟩
  exact ⟨one 0 (by omega) h.e0, one 1 (by omega) h.e1, one 2 (by omega) h.e2⟩
theorem Errs.drew {w : World} (h : Errs w) : Errs w.drew := ⟨h.e0, h.e1, h.e2⟩

def convB (P : Program) (t e : TypeId) : Bool := match P.underlying t, P.underlying e with
  | some (.slice e'), some (.int .u8) => Nat.beq e' e
  | _, _ => false
/-- []byte("..."): the bytes are marked as a text's. -/
theorem cv_same {P : Program} {t e : TypeId} (h : convB P t e = true) {w : World} {b : Nat} {p : Addr} {l c : Nat} {xs : List Int} (hB : BS w b (some p) l c xs) (hc : 0 < c) {K : Option Addr → Nat → Nat → World → Prop}
    (hK : ∀ w', w'.heap.size = w.heap.size → w.grownBy w' (some b) → BS w' b (some p) l c xs → K (some p) l c w') : ∃ a' l' c', ∃ w', (convert t t (.slice (some p) l c)).run P w = .ok (.slice a' l' c') w' ∧ K a' l' c' w' := by
  unfold convB at h
  split at h
  · rename_i e' ht he
    obtain rfl := Nat.eq_of_beq_eq_true h
    obtain ⟨h1, h2, h3, h4, h5, h6, cc, ty, f, h7⟩ := hB.and
    obtain ⟨o, rfl, hx⟩ := h6 p rfl hc
    have hr : (convert t t (.slice (some ⟨b, o, none⟩) l c)).run P w = .ok (.slice (some ⟨b, o, none⟩) l c) (w.freeze ⟨b, cc.size, none⟩ 1) := by
      have hsh : w.shape? b = some (ty, cc.size) := by simp [World.shape?, h7]
      simp [convert, run_underlying ht, run_underlying he, markStringish, shape, freeze, Sem.run, hsh]
    have hfz : ∀ k, k ≠ b → (w.freeze ⟨b, cc.size, none⟩ 1).heap[k]? = w.heap[k]? := fun k hk => by
      simp [World.freeze, Array.getElem?_modify, Ne.symm hk]
    have hfb : ∃ f', (w.freeze ⟨b, cc.size, none⟩ 1).heap[b]? = some (.cells cc ty f') := by
      obtain ⟨lo, hi⟩ := f
      exact ⟨_, by simp [World.freeze, Array.getElem?_modify, h7]; rfl⟩
    obtain ⟨f', hfb⟩ := hfb
    have hs : (w.freeze ⟨b, cc.size, none⟩ 1).heap.size = w.heap.size := by simp [World.freeze]
    refine ⟨_, _, _, _, hr, hK _ hs ⟨rfl, rfl, rfl, Nat.le_of_eq hs.symm, fun k _ hk => hfz k (fun e => hk (by rw [e]))⟩ ⟨h1, h2, h3, h4, by simp, fun p hp _ => ?_, _, _, _, hfb⟩⟩
    cases hp
    refine ⟨o, rfl, fun i x hi => ?_⟩
    have := hx i x hi
    simp only [World.cell?, h7] at this
    simp only [World.cell?, hfb]
    exact this
  · cases h
end Go.Proofs.YtkdialecadjedaaGreat
