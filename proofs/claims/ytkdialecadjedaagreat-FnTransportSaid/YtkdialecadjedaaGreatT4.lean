/- Transport-wide feedback, read by rtcp: what its reader's loops need (no statement of the seat is proved here; conditions: none). -/
import Derived.Test.YtkdialecadjedaaGreatT3
namespace Go.Proofs.YtkdialecadjedaaGreat
set_option linter.unusedVariables false
set_option linter.unusedSimpArgs false
set_option linter.unusedSectionVars false
open Go

theorem recv_mem {x : Int} {l : List Int} (h : x ∈ recv l) : x = 1 ∨ x = 2 := by
  simp only [recv, List.mem_filter, Bool.or_eq_true, beq_iff_eq] at h
  exact h.2
theorem n16_take {ys : List Int} : n16 (ys.take 2) = n16 ys := by
  unfold n16
  rw [List.getD_eq_getElem?_getD, List.getD_eq_getElem?_getD, List.getElem?_take, List.getElem?_take, if_pos (by omega), if_pos (by omega), ← List.getD_eq_getElem?_getD, ← List.getD_eq_getElem?_getD]
theorem n24_take {ys : List Int} : n24 (ys.take 3) = n24 ys := by
  unfold n24
  rw [List.getD_eq_getElem?_getD, List.getD_eq_getElem?_getD, List.getD_eq_getElem?_getD, List.getElem?_take, List.getElem?_take, List.getElem?_take, if_pos (by omega), if_pos (by omega), if_pos (by omega), ← List.getD_eq_getElem?_getD, ← List.getD_eq_getElem?_getD, ← List.getD_eq_getElem?_getD]
theorem chD_run {v : Int} (h : v / 32768 = 0) : chD v = .ifc 212 (.ptr [.one .nilIface, .one (.int .u16 0), .one (.int .u16 (v / 8192 % 4)), .one (.int .u16 (v % 8192))]) := if_pos h
theorem chD_vec {v : Int} (h : v / 32768 ≠ 0) : chD v = .ifc 206 (.ptr [.one .nilIface, .one (.int .u16 1), .one (.int .u16 (v / 16384 % 2)), .row 1 (oi .u16 (symL v))]) := if_neg h
/-- What is known while the chunks are read. -/
abbrev tcX (xs : List Int) (ch de : Value) : List Value := tcV false 15 205 (hL xs) (n32 (xs.drop 4)) (n32 (xs.drop 8)) (n16 (xs.drop 12)) (n16 (xs.drop 14)) (n24 (xs.drop 16)) (xs.getD 19 0) ch de
abbrev tI (b : Nat) (xs : List Int) (ca : Option Addr) (k cc : Nat) (cr : Option Nat) (cs : List Dat) (da : Option Addr) (dc : Nat) (dr : Option Nat) (bs : List (Nat × List Value)) (ex : List Ex) : List Ex :=
  .blk b 204 (tcX xs (.slice ca k cc) (.slice da bs.length dc)) :: .own 209 1 ca k cc cr cs :: .own 216 1 da bs.length dc dr (ptrs bs) :: .many 217 bs :: ex
theorem Sat.tPush {F : Fr} {w : World} {ex : List Ex} {ro : List Ro} {b q : Nat} {xs : List Int} {ca : Option Addr} {k cc : Nat} {cr : Option Nat} {cs : List Dat} {da : Option Addr} {n dc : Nat} {dr : Option Nat} {bs : List (Nat × List Value)} {s : Int} {e : Ex}
    (H : Sat F w (.blk q 217 (dl0 s) :: e :: .blk b 204 (tcX xs (.slice ca k cc) (.slice da n dc)) :: .own 209 1 ca k cc cr cs :: .own 216 1 da n dc dr (ptrs bs ++ [.one (.pointer (some ⟨q, 0, none⟩))]) :: .many 217 bs :: ex) ro) (hn : n = bs.length + 1) :
    Sat F w (e :: tI b xs ca k cc cr cs da dc dr (bs ++ [(q, dl0 s)]) ex) ro := by
  have H1 := H.r5.r1.manyPush.u4
  have el : (bs ++ [(q, dl0 s)]).length = n := by simp [hn]
  unfold tI
  rw [el, ptrs_snoc]
  exact H1
theorem Sat.atU {F : Fr} {w : World} {ex : List Ex} {ro : List Ro} {k : IntKind} {l : List Int} {a : Option Addr} {n c : Nat} (H : Sat F w ex ro) (h : Ro.deep [.row 1 (oi k l)] [.slice a n c] ∈ ro) (hn : 0 < n) :
    ∃ p : Addr, a = some p ∧ (∀ i, i < n → w.cell? (p.add i) = some (.int k (l.getD i 0))) ∧ (∀ i, ∃ cc ty f, w.heap[(p.add i).block]? = some (.cells cc ty f)) ∧ ∀ i, (p.add i).block ∉ foots ex := by
  have h' := H.deep1 h
  have hl : l.length = n := by have := h'.len.1; simpa [oi] using this
  obtain ⟨b, o, vs, rfl, hlt, hG, hL, hc⟩ := h'.at_ hn
  have he : oi k l = (l.map (Value.int k)).map .one := by simp [oi]
  rw [he] at hL
  obtain rfl := hL.of_ones
  have hcell : ∀ i, i < n → w.cell? ⟨b, o + i, none⟩ = some (.int k (l.getD i 0)) := fun i hi => hc i _ (by
    rw [List.getElem?_map, List.getElem?_eq_getElem (by omega), Option.map_some]
    simp [List.getD, List.getElem?_eq_getElem (show i < l.length by omega)])
  refine ⟨_, rfl, fun i hi => by rw [add_flat]; exact hcell i hi, fun i => ?_, fun i => by rw [add_flat]; exact hG⟩
  rw [add_flat]
  have h0 := hcell 0 hn
  unfold World.cell? at h0
  split at h0
  · rename_i cc e f hb; exact ⟨cc, e, f, hb⟩
  · cases h0
theorem ptrs_set (bs : List (Nat × List Value)) (i q : Nat) (l l' : List Value) (h : bs[i]? = some (q, l)) : ptrs (bs.set i (q, l')) = ptrs bs := by
  unfold ptrs
  rw [List.map_set]
  apply List.ext_getElem?
  intro j
  rw [List.getElem?_set]
  split
  · rename_i hj; subst hj
    have hlt := (List.getElem?_eq_some_iff.1 h).1
    rw [if_pos (by simpa using hlt), List.getElem?_map, h]; rfl
  · rfl
theorem tcc_rest {xs : List Int} {vs : List Int} {ds : List Del} (h : Tcc xs vs ds) : ∃ f zs tl, tccC f (n16 (xs.drop 14)) (xs.drop 20) = some (vs, zs) ∧ tccD (recv (vs.flatMap symL)) zs = some (ds, tl) ∧ tl.all (· == 0) = true ∧ tl.length ≤ 3 ∧
    1 ≤ zs.length ∧ xs.length = 20 + 2 * vs.length + zs.length ∧ zs = xs.drop (20 + 2 * vs.length) := by
  obtain ⟨f, zs, tl, h1, h2, h3, h4⟩ := h.chunks
  have hl := tccC_len _ _ _ _ _ h1
  have hlong := h.long
  rw [List.length_drop, List.drop_drop] at hl
  refine ⟨f, zs, tl, h1, h2, h3, h4, ?_, by omega, hl.2⟩
  have hR := h.some
  cases hr : recv (vs.flatMap symL) with
  | nil => rw [hr] at hR; simp at hR
  | cons x r =>
    rw [hr] at h2
    have hx : x = 1 ∨ x = 2 := recv_mem (l := vs.flatMap symL) (by rw [hr]; exact List.mem_cons_self)
    have := (tccD_cons h2).1
    omega
theorem recv_rep (n : Nat) {x : Int} (h : x = 1 ∨ x = 2) : recv (List.replicate n x) = List.replicate n x := by
  unfold recv
  rw [List.filter_eq_self]
  intro y hy
  rw [List.eq_of_mem_replicate hy]
  rcases h with rfl | rfl <;> rfl
theorem recv_rep0 (n : Nat) {x : Int} (h : ¬ x = 1) (h' : ¬ x = 2) : recv (List.replicate n x) = [] := by
  unfold recv
  rw [List.filter_eq_nil_iff]
  intro y hy
  rw [List.eq_of_mem_replicate hy]
  simp [h, h']
theorem recv_step {l : List Int} {j : Nat} (hj : j < l.length) : recv (l.take (j + 1)) = recv (l.take j) ++ recv [l.getD j 0] := by
  rw [List.take_add_one, recv_append, List.getElem?_eq_getElem hj]
  congr 1
  simp [List.getD, List.getElem?_eq_getElem hj]
theorem set_mid {α : Type} (a b : List α) (x y : α) : (a ++ x :: b).set a.length y = a ++ y :: b := by
  rw [List.set_append_right _ _ (Nat.le_refl _), Nat.sub_self, List.set_cons_zero]
theorem set_mid' {α : Type} (a b : List α) (x y : α) (i : Nat) (h : i = a.length) : (a ++ x :: b).set i y = a ++ y :: b := by subst h; exact set_mid a b x y
theorem del1_take1 {ys : List Int} : del1 1 (ys.take 1) = del1 1 ys := by
  unfold del1
  rw [if_neg (by decide), if_neg (by decide), List.getD_eq_getElem?_getD, List.getElem?_take, if_pos (by omega), ← List.getD_eq_getElem?_getD]
theorem del1_take2 {ys : List Int} : del1 2 (ys.take 2) = del1 2 ys := by
  unfold del1
  rw [if_pos rfl, if_pos rfl, n16_take]
end Go.Proofs.YtkdialecadjedaaGreat
