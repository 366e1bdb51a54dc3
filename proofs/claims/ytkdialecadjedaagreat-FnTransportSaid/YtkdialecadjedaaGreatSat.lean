/- What a world holds: blocks of one's own, and data that is read alone (no statement of the seat is proved here; conditions: none). -/
import Derived.Test.YtkdialecadjedaaGreatMem2
namespace Go.Proofs.YtkdialecadjedaaGreat
set_option linter.unusedVariables false
set_option linter.unusedSimpArgs false
set_option linter.unusedSectionVars false
open Go

/-- A call by its contract. -/
theorem call_j {f : FuncId} {args : Array Value} {w : World} {R R' : Ending → World → Prop} (h : Calls pg f args w R) (hR : ∀ e w', R e w' → R' e w') : Calls pg f args w R' := h.mono hR

/-! ### Growth that may turn several blocks -/
structure Gr (w w' : World) (M : Nat → Prop) : Prop where
  os : w'.os = w.os
  tape : w'.tape = w.tape
  output : w'.output = w.output
  size : w.heap.size ≤ w'.heap.size
  block : ∀ k, k < w.heap.size → ¬ M k → w'.heap[k]? = w.heap[k]?
theorem Gr.of {w w' : World} {r : Option Nat} (h : w.grownBy w' r) : Gr w w' (fun k => some k = r) := ⟨h.os, h.tape, h.output, h.size, fun k hk hn => h.block k hk hn⟩
theorem Gr.mono {w w' : World} {M M' : Nat → Prop} (h : Gr w w' M) (hm : ∀ k, k < w.heap.size → M k → M' k) : Gr w w' M' := ⟨h.os, h.tape, h.output, h.size, fun k hk hn => h.block k hk (fun hM => hn (hm k hk hM))⟩
theorem Gr.refl (w : World) (M : Nat → Prop) : Gr w w M := ⟨rfl, rfl, rfl, Nat.le_refl _, fun _ _ _ => rfl⟩
theorem Gr.trans {a b c : World} {M M' : Nat → Prop} (h : Gr a b M) (k : Gr b c M') (hm : ∀ i, M' i → a.heap.size ≤ i ∨ M i) : Gr a c M :=
  ⟨k.os.trans h.os, k.tape.trans h.tape, k.output.trans h.output, Nat.le_trans h.size k.size, fun i hi hn =>
    (k.block i (Nat.lt_of_lt_of_le hi h.size) (fun hM => by rcases hm i hM with h1 | h1; omega; exact hn h1)).trans (h.block i hi hn)⟩
theorem Gr.none {w w' : World} {M : Nat → Prop} (h : Gr w w' M) (hm : ∀ k, k < w.heap.size → ¬ M k) : w.grownBy w' none := ⟨h.os, h.tape, h.output, h.size, fun k hk _ => h.block k hk (hm k hk)⟩
theorem Gr.some {w w' : World} {M : Nat → Prop} {r : Option Nat} (h : Gr w w' M) (hm : ∀ k, k < w.heap.size → M k → some k = r) : w.grownBy w' r := ⟨h.os, h.tape, h.output, h.size, fun k hk hr => h.block k hk (fun hM => hr (hm k hk hM))⟩

/-! ### Data, read through -/
inductive Dat where
  | one (v : Value)
  | row (sz : Nat) (ds : List Dat)
  | ptr (ds : List Dat)
  | ifc (t : TypeId) (d : Dat)
inductive Deep (w : World) (G : Nat → Prop) : Dat → Value → Prop
  | one (v : Value) : Deep w G (.one v) v
  | emp (sz : Nat) (a : Option Addr) : Deep w G (.row sz []) (.slice a 0 0)
  | row (sz b o n c : Nat) (ds : List Dat) (vs : List Value) (hnc : n ≤ c) (hc : c ≤ maxLen) (hlt : b < w.heap.size) (hG : G b) (hl : ds.length = n * sz) (hv : vs.length = ds.length)
      (hcell : ∀ (i : Nat) (v : Value), vs[i]? = some v → w.cell? ⟨b, o + i, none⟩ = some v) (hd : ∀ (i : Nat) (d : Dat) (v : Value), ds[i]? = some d → vs[i]? = some v → Deep w G d v) : Deep w G (.row sz ds) (.slice (some ⟨b, o, none⟩) n c)
  | ptr (b : Nat) (t : TypeId) (fz : Nat × Nat) (ds : List Dat) (vs : List Value) (hG : G b) (hb : w.heap[b]? = some (.cells vs.toArray t fz)) (hv : vs.length = ds.length)
      (hd : ∀ (i : Nat) (d : Dat) (v : Value), ds[i]? = some d → vs[i]? = some v → Deep w G d v) : Deep w G (.ptr ds) (.pointer (some ⟨b, 0, none⟩))
  | ifc (t : TypeId) (d : Dat) (v : Value) (h : Deep w G d v) : Deep w G (.ifc t d) (.iface t v)
def DeepL (w : World) (G : Nat → Prop) (ds : List Dat) (vs : List Value) : Prop := vs.length = ds.length ∧ ∀ (i : Nat) (d : Dat) (v : Value), ds[i]? = some d → vs[i]? = some v → Deep w G d v
theorem Deep.keep {w w' : World} {G G' M : Nat → Prop} (hg : Gr w w' M) (hG : ∀ b, b < w.heap.size → G b → ¬ M b ∧ G' b) {d : Dat} {v : Value} (h : Deep w G d v) : Deep w' G' d v := by
  induction h with
  | one v => exact .one v
  | emp sz a => exact .emp sz a
  | row sz b o n c ds vs hnc hc hlt hGb hl hv hcell _ ih =>
    refine .row sz b o n c ds vs hnc hc (Nat.lt_of_lt_of_le hlt hg.size) (hG b hlt hGb).2 hl hv (fun i v hi => ?_) (fun i d v h1 h2 => ih i d v h1 h2)
    rw [World.cell?_of_block (w := w) (w' := w') (hg.block b hlt (hG b hlt hGb).1)]
    exact hcell i v hi
  | ptr b t fz ds vs hGb hb hv _ ih =>
    have hlt := (Array.getElem?_eq_some_iff.1 hb).1
    exact .ptr b t fz ds vs (hG b hlt hGb).2 ((hg.block b hlt (hG b hlt hGb).1).trans hb) hv (fun i d v h1 h2 => ih i d v h1 h2)
  | ifc t d v _ ih => exact .ifc t d v ih
theorem DeepL.keep {w w' : World} {G G' M : Nat → Prop} (hg : Gr w w' M) (hG : ∀ b, b < w.heap.size → G b → ¬ M b ∧ G' b) {ds : List Dat} {vs : List Value} (h : DeepL w G ds vs) : DeepL w' G' ds vs :=
  ⟨h.1, fun i d v h1 h2 => (h.2 i d v h1 h2).keep hg hG⟩
theorem DeepL.nil (w : World) (G : Nat → Prop) : DeepL w G [] [] := ⟨rfl, by simp⟩
theorem DeepL.cons {w : World} {G : Nat → Prop} {d : Dat} {v : Value} {ds : List Dat} {vs : List Value} (h : Deep w G d v) (hs : DeepL w G ds vs) : DeepL w G (d :: ds) (v :: vs) := by
  refine ⟨by simp [hs.1], fun i d' v' h1 h2 => ?_⟩
  cases i with
  | zero => simp only [List.getElem?_cons_zero, Option.some.injEq] at h1 h2; subst h1; subst h2; exact h
  | succ i => simp only [List.getElem?_cons_succ] at h1 h2; exact hs.2 i d' v' h1 h2
theorem DeepL.head {w : World} {G : Nat → Prop} {d : Dat} {v : Value} {ds : List Dat} {vs : List Value} (h : DeepL w G (d :: ds) (v :: vs)) : Deep w G d v := h.2 0 d v rfl rfl
theorem DeepL.tail {w : World} {G : Nat → Prop} {d : Dat} {v : Value} {ds : List Dat} {vs : List Value} (h : DeepL w G (d :: ds) (v :: vs)) : DeepL w G ds vs := ⟨by have := h.1; simpa using this, fun i d' v' h1 h2 => h.2 (i + 1) d' v' (by simpa using h1) (by simpa using h2)⟩
theorem DeepL.append {w : World} {G : Nat → Prop} : ∀ {ds es : List Dat} {vs us : List Value}, DeepL w G ds vs → DeepL w G es us → DeepL w G (ds ++ es) (vs ++ us)
  | [], es, [], us, _, h2 => h2
  | [], _, _ :: _, _, h1, _ => by have := h1.1; simp at this
  | _ :: _, _, [], _, h1, _ => by have := h1.1; simp at this
  | d :: ds, es, v :: vs, us, h1, h2 => DeepL.cons h1.head (h1.tail.append h2)
theorem DeepL.ones {w : World} {G : Nat → Prop} : ∀ (vs : List Value), DeepL w G (vs.map .one) vs
  | [] => DeepL.nil _ _
  | v :: vs => DeepL.cons (.one v) (DeepL.ones vs)
theorem DeepL.of_ones {w : World} {G : Nat → Prop} : ∀ {us vs : List Value}, DeepL w G (us.map .one) vs → vs = us
  | [], [], _ => rfl
  | [], _ :: _, h => by have := h.1; simp at this
  | _ :: _, [], h => by have := h.1; simp at this
  | u :: us, v :: vs, h => by
    have h1 := h.head
    cases h1
    rw [DeepL.of_ones (us := us) (vs := vs) h.tail]
theorem DeepL.drop {w : World} {G : Nat → Prop} {ds : List Dat} {vs : List Value} (h : DeepL w G ds vs) (k : Nat) : DeepL w G (ds.drop k) (vs.drop k) :=
  ⟨by simp [h.1], fun i d v h1 h2 => by rw [List.getElem?_drop] at h1 h2; exact h.2 _ d v h1 h2⟩
theorem DeepL.take {w : World} {G : Nat → Prop} {ds : List Dat} {vs : List Value} (h : DeepL w G ds vs) (k : Nat) : DeepL w G (ds.take k) (vs.take k) := by
  refine ⟨by simp [h.1], fun i d v h1 h2 => ?_⟩
  rw [List.getElem?_take] at h1 h2
  split at h1
  · rename_i hi; rw [if_pos hi] at h2; exact h.2 _ d v h1 h2
  · cases h1
/-- The bytes of a text. -/
def ob (xs : List Int) : List Dat := xs.map fun x => .one (.int .u8 x)
theorem ob_length (xs : List Int) : (ob xs).length = xs.length := by simp [ob]
theorem ob_ones (xs : List Int) : ob xs = (xs.map (Value.int .u8)).map .one := by simp [ob]
theorem ob_append (xs ys : List Int) : ob (xs ++ ys) = ob xs ++ ob ys := by simp [ob]
theorem ob_drop (xs : List Int) (k : Nat) : (ob xs).drop k = ob (xs.drop k) := by simp [ob]
theorem ob_take (xs : List Int) (k : Nat) : (ob xs).take k = ob (xs.take k) := by simp [ob]
theorem Deep.len {w : World} {G : Nat → Prop} {sz : Nat} {ds : List Dat} {a : Option Addr} {n c : Nat} (h : Deep w G (.row sz ds) (.slice a n c)) : ds.length = n * sz ∧ n ≤ c ∧ c ≤ maxLen ∧ (a = none → c = 0) := by
  cases h with
  | emp => exact ⟨by simp, by simp, by simp, fun _ => rfl⟩
  | row _ b o n c ds vs hnc hc hlt hG hl hv hcell hd => exact ⟨hl, hnc, hc, fun h => by cases h⟩
theorem Deep.lenB {w : World} {G : Nat → Prop} {xs : List Int} {a : Option Addr} {n c : Nat} (h : Deep w G (.row 1 (ob xs)) (.slice a n c)) : xs.length = n := by
  have := h.len.1; simpa [ob_length] using this
theorem Deep.at_ {w : World} {G : Nat → Prop} {sz : Nat} {ds : List Dat} {a : Option Addr} {n c : Nat} (h : Deep w G (.row sz ds) (.slice a n c)) (hn : 0 < n) :
    ∃ (b o : Nat) (vs : List Value), a = some ⟨b, o, none⟩ ∧ b < w.heap.size ∧ G b ∧ DeepL w G ds vs ∧ ∀ (i : Nat) (v : Value), vs[i]? = some v → w.cell? ⟨b, o + i, none⟩ = some v := by
  cases h with
  | emp => omega
  | row _ b o n c ds vs hnc hc hlt hG hl hv hcell hd => exact ⟨_, _, _, rfl, hlt, hG, ⟨hv, hd⟩, hcell⟩
theorem cutA_of {a : Option Addr} {l m sz b o : Nat} (h : a = some ⟨b, o, none⟩) : (m = l ∧ cutA a l m sz = a) ∨ (m ≠ l ∧ cutA a l m sz = some ⟨b, o + l * sz, none⟩) := by
  unfold cutA
  by_cases hm : m = l
  · rw [if_pos hm]; exact .inl ⟨hm, rfl⟩
  · rw [if_neg hm, h]; exact .inr ⟨hm, by rw [Option.map_some, add_flat]⟩
theorem Deep.cut {w : World} {G : Nat → Prop} {sz : Nat} {ds : List Dat} {a : Option Addr} {n c : Nat} (h : Deep w G (.row sz ds) (.slice a n c)) (i j m : Nat) (hi : i ≤ j) (hj : j ≤ n) (hjm : j ≤ m) (hm : m ≤ c) :
    Deep w G (.row sz ((ds.drop (i * sz)).take ((j - i) * sz))) (.slice (cutA a i m sz) (j - i) (m - i)) := by
  have hlen := h.len
  rcases Nat.eq_zero_or_pos (m - i) with h0 | h0
  · have hji : j - i = 0 := by omega
    rw [h0, hji, Nat.zero_mul, List.take_zero]
    exact .emp _ _
  · cases h with
    | emp => omega
    | row _ b o n c ds vs hnc hc hlt hG hl hv hcell hd =>
      rcases cutA_of (l := i) (m := m) (sz := sz) (rfl : (some (⟨b, o, none⟩ : Addr)) = some ⟨b, o, none⟩) with ⟨h1, h2⟩ | ⟨h1, h2⟩
      · omega
      · rw [h2]
        have hL : DeepL w G ds vs := ⟨hv, hd⟩
        have hL2 := (hL.drop (i * sz)).take ((j - i) * sz)
        refine .row sz b (o + i * sz) (j - i) (m - i) _ ((vs.drop (i * sz)).take ((j - i) * sz)) (by omega) (by omega) hlt hG ?_ hL2.1 (fun k v hk => ?_) hL2.2
        · rw [List.length_take, List.length_drop, hl, ← Nat.sub_mul]
          have := Nat.mul_le_mul_right sz (show j - i ≤ n - i by omega)
          omega
        · rw [List.getElem?_take] at hk
          split at hk
          · rw [List.getElem?_drop] at hk
            have := hcell _ v hk
            rwa [← Nat.add_assoc] at this
          · cases hk

/-! ### Blocks of one's own -/
inductive Ex where
  | blk (b : Nat) (t : TypeId) (l : List Value)
  | own (e : TypeId) (sz : Nat) (a : Option Addr) (n c : Nat) (r : Option Nat) (ds : List Dat)
  | many (t : TypeId) (bs : List (Nat × List Value))
def Ex.foot : Ex → List Nat
  | .blk b _ _ => [b]
  | .own _ _ _ _ _ r _ => r.toList
  | .many _ bs => bs.map (·.1)
def Ex.holds (w : World) (G : Nat → Prop) : Ex → Prop
  | .blk b t l => Blk w b t l
  | .own e sz a n c r ds => ∃ xs, OS w 0 e sz a n c r xs ∧ DeepL w G ds xs
  | .many t bs => ∀ p ∈ bs, Blk w p.1 t p.2
inductive Ro where
  | deep (ds : List Dat) (vs : List Value)
  | cell (b o : Nat) (v : Value)
def Ro.holds (w : World) (G : Nat → Prop) : Ro → Prop
  | .deep ds vs => DeepL w G ds vs
  | .cell b o v => w.cell? ⟨b, o, none⟩ = some v ∧ G b
abbrev Ro.B (xs : List Int) (a : Option Addr) (n c : Nat) : Ro := .deep [.row 1 (ob xs)] [.slice a n c]
def foots (ex : List Ex) : List Nat := ex.flatMap Ex.foot
theorem foots_cons (e : Ex) (ex : List Ex) : foots (e :: ex) = e.foot ++ foots ex := by simp [foots]
theorem foots_append (e ex : List Ex) : foots (e ++ ex) = foots e ++ foots ex := by simp [foots]
structure Fr where
  w0 : World
  M : Nat → Prop
structure Sat (F : Fr) (w : World) (ex : List Ex) (ro : List Ro) : Prop where
  gr : Gr F.w0 w F.M
  nd : (foots ex).Nodup
  lt : ∀ b ∈ foots ex, b < w.heap.size ∧ (F.w0.heap.size ≤ b ∨ F.M b)
  he : ∀ e ∈ ex, e.holds w (fun b => b ∉ foots ex)
  hr : ∀ r ∈ ro, r.holds w (fun b => b ∉ foots ex)
theorem Ex.holds.keep {w w' : World} {G G' M : Nat → Prop} (hg : Gr w w' M) (hG : ∀ b, b < w.heap.size → G b → ¬ M b ∧ G' b) {e : Ex} (hf : ∀ b ∈ e.foot, ¬ M b) (h : e.holds w G) : e.holds w' G' := by
  cases e with
  | blk b t l =>
    have h : Blk w b t l := h
    exact (⟨(hg.block b h.lt (hf b (by simp [Ex.foot]))).trans h.eq⟩ : Blk w' b t l)
  | own e sz a n c r ds =>
    obtain ⟨xs, ho, hd⟩ := h
    refine ⟨xs, ?_, hd.keep hg hG⟩
    refine ⟨⟨ho.own.1, ?_⟩, ho.blk⟩
    rcases ho.own.2 with h1 | ⟨g, cap, cur, hv, hb, hgg, rest⟩
    · exact .inl h1
    · refine .inr ⟨g, cap, cur, hv, hb, ?_, rest⟩
      have hr : r = some g := by rw [ho.blk, hv]; rfl
      exact (hg.block g (Array.getElem?_eq_some_iff.1 hgg).1 (hf g (by simp [Ex.foot, hr]))).trans hgg
  | many t bs =>
    have h : ∀ p ∈ bs, Blk w p.1 t p.2 := h
    exact fun p hp => ⟨(hg.block p.1 (h p hp).lt (hf p.1 (by simp only [Ex.foot, List.mem_map]; exact ⟨p, hp, rfl⟩))).trans (h p hp).eq⟩
theorem Ro.holds.keep {w w' : World} {G G' M : Nat → Prop} (hg : Gr w w' M) (hG : ∀ b, b < w.heap.size → G b → ¬ M b ∧ G' b) {r : Ro} (h : r.holds w G) : r.holds w' G' := by
  cases r with
  | deep ds vs => exact DeepL.keep hg hG h
  | cell b o v =>
    obtain ⟨h1, h2⟩ := h
    have hlt := World.block_lt_of_cell? _ _ h1
    exact ⟨(World.cell?_of_block (w := w) (w' := w') (hg.block b hlt (hG b hlt h2).1)).trans h1, (hG b hlt h2).2⟩
/-- The blocks in 'used' are turned, others may be new. -/
theorem Sat.step {F : Fr} {w w' : World} {used used' rest : List Ex} {ro : List Ro} (H : Sat F w (used ++ rest) ro) (hg : Gr w w' (fun k => k ∈ foots used)) (hnd : (foots used').Nodup)
    (hnew : ∀ b ∈ foots used', b < w'.heap.size ∧ (b ∈ foots used ∨ w.heap.size ≤ b)) (hex : ∀ e ∈ used', (∀ b, b < w.heap.size → b ∉ foots (used ++ rest) → b ∉ foots (used' ++ rest)) → e.holds w' (fun b => b ∉ foots (used' ++ rest))) :
    Sat F w' (used' ++ rest) ro := by
  have hnd0 := H.nd
  rw [foots_append, List.nodup_append] at hnd0
  have hlt := H.lt
  rw [foots_append] at hlt
  have hsub : ∀ b, b < w.heap.size → b ∉ foots (used ++ rest) → b ∉ foots (used' ++ rest) := by
    intro b hb hn
    rw [foots_append, List.mem_append] at hn ⊢
    rintro (h | h)
    · rcases (hnew b h).2 with h1 | h1
      · exact hn (.inl h1)
      · omega
    · exact hn (.inr h)
  have hG : ∀ b, b < w.heap.size → b ∉ foots (used ++ rest) → ¬ b ∈ foots used ∧ b ∉ foots (used' ++ rest) := fun b hb hn =>
    ⟨fun h => hn (by rw [foots_append, List.mem_append]; exact .inl h), hsub b hb hn⟩
  refine ⟨H.gr.trans hg (fun i hi => (hlt i (List.mem_append_left _ hi)).2), ?_, ?_, ?_, fun r hr => (H.hr r hr).keep hg hG⟩
  · rw [foots_append, List.nodup_append]
    refine ⟨hnd, hnd0.2.1, fun x hx y hy e => ?_⟩
    subst e
    rcases (hnew x hx).2 with h1 | h1
    · exact hnd0.2.2 x h1 x hy rfl
    · have := (hlt x (List.mem_append_right _ hy)).1; omega
  · intro b hb
    rw [foots_append, List.mem_append] at hb
    rcases hb with hb | hb
    · refine ⟨(hnew b hb).1, ?_⟩
      rcases (hnew b hb).2 with h1 | h1
      · exact (hlt b (List.mem_append_left _ h1)).2
      · exact .inl (Nat.le_trans H.gr.size h1)
    · exact ⟨Nat.lt_of_lt_of_le (hlt b (List.mem_append_right _ hb)).1 hg.size, (hlt b (List.mem_append_right _ hb)).2⟩
  · intro e he
    rcases List.mem_append.1 he with he | he
    · exact hex e he hsub
    · refine (H.he e (List.mem_append_right _ he)).keep hg hG (fun b hb hbu => ?_)
      have hbr : b ∈ foots rest := by simp only [foots, List.mem_flatMap]; exact ⟨e, he, hb⟩
      exact hnd0.2.2 b hbu b hbr rfl
theorem Sat.grow {F : Fr} {w w' : World} {ex : List Ex} {ro : List Ro} (H : Sat F w ex ro) (hg : w.grownBy w' none) : Sat F w' ex ro :=
  Sat.step (used := []) (used' := []) (rest := ex) H ((Gr.of hg).mono (fun k _ h => by cases h)) (by simp [foots]) (by simp [foots]) (by simp)
theorem Sat.drew {F : Fr} {w : World} {ex : List Ex} {ro : List Ro} (H : Sat F w ex ro) : Sat F w.drew ex ro := H.grow (grew_drew _ _)
theorem Sat.perm {F : Fr} {w : World} {ex ex' : List Ex} {ro : List Ro} (H : Sat F w ex ro) (hp : ex.Perm ex') : Sat F w ex' ro := by
  have hf : (foots ex).Perm (foots ex') := hp.flatMap_right _
  have hm : ∀ b, b ∉ foots ex ↔ b ∉ foots ex' := fun b => not_congr hf.mem_iff
  have hG : (fun b => b ∉ foots ex) = (fun b => b ∉ foots ex') := funext fun b => propext (hm b)
  exact ⟨H.gr, hf.nodup_iff.1 H.nd, fun b hb => H.lt b (hf.mem_iff.2 hb), fun e he => by rw [← hG]; exact H.he e (hp.mem_iff.2 he), fun r hr => by rw [← hG]; exact H.hr r hr⟩
theorem Sat.sub {F : Fr} {w : World} {ex ex' : List Ex} {ro ro' : List Ro} (H : Sat F w ex ro) (hs : ex'.Sublist ex) (hr : ∀ r ∈ ro', r ∈ ro) : Sat F w ex' ro' := by
  have hf : (foots ex').Sublist (foots ex) := by
    clear H
    induction hs with
    | slnil => exact List.Sublist.refl _
    | cons a _ ih => rw [foots_cons]; exact ih.trans (List.sublist_append_right _ _)
    | cons_cons a _ ih => rw [foots_cons, foots_cons]; exact (List.Sublist.refl _).append ih
  have hG : ∀ b, b < w.heap.size → b ∉ foots ex → ¬ False ∧ b ∉ foots ex' := fun b _ h => ⟨id, fun h' => h (hf.subset h')⟩
  have hg := Gr.refl w (fun _ => False)
  exact ⟨H.gr, H.nd.sublist hf, fun b hb => H.lt b (hf.subset hb), fun e he => (H.he e (hs.subset he)).keep hg hG (fun _ _ => id), fun r hr' => (H.hr r (hr r hr')).keep hg hG⟩
theorem Sat.addRo {F : Fr} {w : World} {ex : List Ex} {ro : List Ro} (H : Sat F w ex ro) {r : Ro} (h : r.holds w (fun b => b ∉ foots ex)) : Sat F w ex (r :: ro) :=
  ⟨H.gr, H.nd, H.lt, H.he, fun r' hr => by rcases List.mem_cons.1 hr with rfl | hr; exact h; exact H.hr r' hr⟩
theorem Sat.addD {F : Fr} {w : World} {ex : List Ex} {ro : List Ro} (H : Sat F w ex ro) {ds : List Dat} {vs : List Value} (hD : ∀ G : Nat → Prop, (∀ r ∈ ro, Ro.holds w G r) → DeepL w G ds vs) : Sat F w ex (.deep ds vs :: ro) := H.addRo (hD _ H.hr)
/-- A frame of one's own for a call. -/
theorem Sat.start {w : World} {ex : List Ex} {ro : List Ro} {M : Nat → Prop} (nd : (foots ex).Nodup) (lt : ∀ b ∈ foots ex, b < w.heap.size ∧ M b) (hex : ∀ e ∈ ex, e.holds w (fun b => b ∉ foots ex)) (hro : ∀ r ∈ ro, r.holds w (fun b => b ∉ foots ex)) : Sat ⟨w, M⟩ w ex ro :=
  ⟨Gr.refl _ _, nd, fun b hb => ⟨(lt b hb).1, .inr (lt b hb).2⟩, hex, hro⟩

/-! ### Reading -/
theorem Sat.b0 {F : Fr} {w : World} {b : Nat} {t : TypeId} {l : List Value} {ex : List Ex} {ro : List Ro} (H : Sat F w (.blk b t l :: ex) ro) : Blk w b t l := H.he (.blk b t l) (by simp)
theorem Sat.deep {F : Fr} {w : World} {ex : List Ex} {ro : List Ro} {ds : List Dat} {vs : List Value} (H : Sat F w ex ro) (h : Ro.deep ds vs ∈ ro) : DeepL w (fun b => b ∉ foots ex) ds vs := H.hr _ h
theorem Sat.deep1 {F : Fr} {w : World} {ex : List Ex} {ro : List Ro} {d : Dat} {v : Value} (H : Sat F w ex ro) (h : Ro.deep [d] [v] ∈ ro) : Deep w (fun b => b ∉ foots ex) d v := (H.hr _ h).head
theorem Sat.cell {F : Fr} {w : World} {ex : List Ex} {ro : List Ro} {b o : Nat} {v : Value} (H : Sat F w ex ro) (h : Ro.cell b o v ∈ ro) {a : Addr} (ha : a = ⟨b, o, none⟩) : w.cell? a = some v := by subst ha; exact (H.hr _ h).1
theorem Sat.lenB {F : Fr} {w : World} {ex : List Ex} {ro : List Ro} {xs : List Int} {a : Option Addr} {n c : Nat} (H : Sat F w ex ro) (h : Ro.B xs a n c ∈ ro) : xs.length = n := (H.deep1 h).lenB
/-- An element of a row of scalars. -/
theorem Sat.elt {F : Fr} {w : World} {ex : List Ex} {ro : List Ro} {sz : Nat} {ds : List Dat} {a : Option Addr} {n c : Nat} (H : Sat F w ex ro) (h : Ro.deep [.row sz ds] [.slice a n c] ∈ ro) (hn : 0 < n) :
    ∃ b o, a = some ⟨b, o, none⟩ ∧ ∀ (i : Nat) (u : Value), ds[i]? = some (.one u) → w.cell? ⟨b, o + i, none⟩ = some u := by
  obtain ⟨b, o, vs, ha, _, _, hL, hc⟩ := (H.deep1 h).at_ hn
  refine ⟨b, o, ha, fun i u hu => ?_⟩
  have hlt : i < vs.length := by rw [hL.1]; exact (List.getElem?_eq_some_iff.1 hu).1
  have := hL.2 i _ _ hu (List.getElem?_eq_getElem hlt)
  cases this
  exact hc i _ (List.getElem?_eq_getElem hlt)
/-- An element of a row, and what it reads. -/
theorem Sat.elts {F : Fr} {w : World} {ex : List Ex} {ro : List Ro} {sz : Nat} {ds : List Dat} {a : Option Addr} {n c : Nat} (H : Sat F w ex ro) (h : Ro.deep [.row sz ds] [.slice a n c] ∈ ro) (hn : 0 < n) :
    ∃ (b o : Nat) (vs : List Value), a = some ⟨b, o, none⟩ ∧ vs.length = ds.length ∧ (∀ (i : Nat) (u : Value), vs[i]? = some u → w.cell? ⟨b, o + i, none⟩ = some u) ∧ Sat F w ex (.deep ds vs :: ro) := by
  obtain ⟨b, o, vs, ha, _, _, hL, hc⟩ := (H.deep1 h).at_ hn
  exact ⟨b, o, vs, ha, hL.1, hc, H.addRo hL⟩
theorem Sat.splitRo {F : Fr} {w : World} {ex : List Ex} {ro : List Ro} {ds : List Dat} {vs : List Value} (H : Sat F w ex ro) (h : Ro.deep ds vs ∈ ro) (i : Nat) {d : Dat} {v : Value} (hd : ds[i]? = some d) (hv : vs[i]? = some v) : Sat F w ex (.deep [d] [v] :: ro) :=
  H.addRo (DeepL.cons ((H.deep h).2 i d v hd hv) (DeepL.nil _ _))
theorem Sat.cutRo {F : Fr} {w : World} {ex : List Ex} {ro : List Ro} {sz : Nat} {ds : List Dat} {a : Option Addr} {n c : Nat} (H : Sat F w ex ro) (h : Ro.deep [.row sz ds] [.slice a n c] ∈ ro) (i j m : Nat) (hi : i ≤ j) (hj : j ≤ n) (hjm : j ≤ m) (hm : m ≤ c) :
    Sat F w ex (.deep [.row sz ((ds.drop (i * sz)).take ((j - i) * sz))] [.slice (cutA a i m sz) (j - i) (m - i)] :: ro) :=
  H.addRo (DeepL.cons ((H.deep1 h).cut i j m hi hj hjm hm) (DeepL.nil _ _))
/-- b[i:] -/
theorem Sat.skipB {F : Fr} {w : World} {ex : List Ex} {ro : List Ro} {xs : List Int} {a : Option Addr} {n c : Nat} (H : Sat F w ex ro) (h : Ro.B xs a n c ∈ ro) (i : Nat) (hi : i ≤ n) : Sat F w ex (Ro.B (xs.drop i) (cutA a i c 1) (n - i) (c - i) :: ro) := by
  have hl := (H.deep1 h).len
  have h1 := H.cutRo h i n c hi (Nat.le_refl _) hl.2.1 (Nat.le_refl _)
  rw [Nat.mul_one, Nat.mul_one, ob_drop, ob_take, List.take_of_length_le (by rw [List.length_drop, H.lenB h]; exact Nat.le_refl _)] at h1
  exact h1
/-- b[i:j] -/
theorem Sat.cutB {F : Fr} {w : World} {ex : List Ex} {ro : List Ro} {xs : List Int} {a : Option Addr} {n c : Nat} (H : Sat F w ex ro) (h : Ro.B xs a n c ∈ ro) (i j : Nat) (hi : i ≤ j) (hj : j ≤ n) : Sat F w ex (Ro.B ((xs.drop i).take (j - i)) (cutA a i c 1) (j - i) (c - i) :: ro) := by
  have hl := (H.deep1 h).len
  have h1 := H.cutRo h i j c hi hj (by omega) (Nat.le_refl _)
  rw [Nat.mul_one, Nat.mul_one, ob_drop, ob_take] at h1
  exact h1
/-- A byte. -/
theorem Sat.byteB {F : Fr} {w : World} {ex : List Ex} {ro : List Ro} {xs : List Int} {a : Option Addr} {n c : Nat} (H : Sat F w ex ro) (h : Ro.B xs a n c ∈ ro) (hn : 0 < n) :
    ∃ p : Addr, a = some p ∧ ∀ (i : Nat) (x : Int), xs[i]? = some x → w.cell? (p.add i) = some (.int .u8 x) := by
  obtain ⟨b, o, rfl, hc⟩ := H.elt h hn
  exact ⟨_, rfl, fun i x hi => by rw [add_flat]; exact hc i _ (by simp [ob, hi])⟩

/-! ### Turning -/
theorem sNew {F : Fr} {w : World} {ex : List Ex} {ro : List Ro} (H : Sat F w ex ro) {cs : Array Value} {t : TypeId} {K : Addr → World → Prop} (h : ∀ b w', w.grownBy w' none → Sat F w' (.blk b t cs.toList :: ex) ro → K ⟨b, 0, none⟩ w') : gNew cs t K w := by
  refine gNew_i fun b w' hb hs hg hB => h b w' hg ?_
  refine Sat.step (used := []) (used' := [.blk b t cs.toList]) (rest := ex) H ((Gr.of hg).mono (fun k _ h => by cases h)) (by simp [foots, Ex.foot]) (fun q hq => ?_) (fun e he _ => ?_)
  · simp only [foots, Ex.foot, List.flatMap_cons, List.flatMap_nil, List.append_nil, List.mem_singleton] at hq
    subst hq
    exact ⟨by omega, .inr (by omega)⟩
  · simp only [List.mem_singleton] at he
    subst he
    exact hB
/-- A block of one's own is turned. -/
theorem Sat.turn {F : Fr} {w w' : World} {b : Nat} {t : TypeId} {l l' : List Value} {ex : List Ex} {ro : List Ro} (H : Sat F w (.blk b t l :: ex) ro) (hg : w.grownBy w' (some b)) (hB : Blk w' b t l') : Sat F w' (.blk b t l' :: ex) ro := by
  refine Sat.step (used := [.blk b t l]) (used' := [.blk b t l']) (rest := ex) H ((Gr.of hg).mono (fun k _ h => ?_)) (by simp [foots, Ex.foot]) (fun q hq => ?_) (fun e he _ => ?_)
  · injection h with h; subst h; simp [foots, Ex.foot]
  · simp only [foots, Ex.foot, List.flatMap_cons, List.flatMap_nil, List.append_nil, List.mem_singleton] at hq ⊢
    subst hq
    exact ⟨hB.lt, .inl rfl⟩
  · simp only [List.mem_singleton] at he
    subst he
    exact hB
theorem sSt0 {F : Fr} {w : World} {b : Nat} {ty : TypeId} {l : List Value} {ex : List Ex} {ro : List Ro} (H : Sat F w (.blk b ty l :: ex) ro) {P : Program} {t : TypeId} {a : Addr} {i : Nat} {v : Value} {K : World → Prop} (ha : a = ⟨b, i, none⟩)
    (ht : sizeB P t v.cells.toList.length = true) (hi : Nat.ble (i + v.cells.toList.length) l.length = true) (h1 : v.cells.toList.all Value.oneCell' = true)
    (h : ∀ w', w.grownBy w' (some b) → Sat F w' (.blk b ty (putL l i v.cells.toList) :: ex) ro → K w') : ∃ w', StV P t a v w w' ∧ K w' :=
  St ha H.b0 ht hi h1 fun w' _ hg hB => h w' hg (H.turn hg hB)
/-- A struct that is written whole. -/
theorem sSw0 {F : Fr} {w : World} {b : Nat} {ty : TypeId} {l : List Value} {ex : List Ex} {ro : List Ro} (H : Sat F w (.blk b ty l :: ex) ro) {P : Program} {t : TypeId} {a : Addr} {vs : List Value} {K : World → Prop} (ha : a = ⟨b, 0, none⟩)
    (ht : sizeB P t vs.length = true) (hi : Nat.beq vs.length l.length = true) (h1 : vs.all Value.oneCell' = true)
    (h : ∀ w', w.grownBy w' (some b) → Sat F w' (.blk b ty vs :: ex) ro → K w') : ∃ w', StV P t a (.agg vs.toArray) w w' ∧ K w' :=
  St0 ha H.b0 ht hi h1 fun w' _ hg hB => h w' hg (H.turn hg hB)
/-- Behind an append. -/
theorem Sat.owned {F : Fr} {w w' : World} {e : TypeId} {size : Nat} {a a' : Option Addr} {n c n' c' : Nat} {r r' : Option Nat} {ds nds : List Dat} {ex : List Ex} {ro : List Ro} (H : Sat F w (.own e size a n c r ds :: ex) ro) {xs news : List Value}
    (hxs : DeepL w (fun b => b ∉ foots (.own e size a n c r ds :: ex)) ds xs) (hD : DeepL w (fun b => b ∉ foots (.own e size a n c r ds :: ex)) nds news) (hg : w.grownBy w' r) (ho' : OS w' 0 e size a' n' c' r' (xs ++ news))
    (hr : r' = r ∨ ∃ k, r' = some k ∧ w.heap.size ≤ k) : Sat F w' (.own e size a' n' c' r' (ds ++ nds) :: ex) ro := by
  have hrr : ∀ k, r' = some k → k ∈ r.toList ∨ w.heap.size ≤ k := by
    intro k hk
    rcases hr with h | ⟨j, h, hj⟩
    · rw [h] at hk; exact .inl (by simp [hk])
    · rw [h] at hk; injection hk with hk; exact .inr (by omega)
  refine Sat.step (used := [.own e size a n c r ds]) (used' := [.own e size a' n' c' r' (ds ++ nds)]) (rest := ex) H ((Gr.of hg).mono (fun k _ h => ?_)) ?_ (fun q hq => ?_) (fun e' he hsub => ?_)
  · simp [foots, Ex.foot, ← h]
  · simp only [foots, Ex.foot, List.flatMap_cons, List.flatMap_nil, List.append_nil]
    cases r' <;> simp
  · simp only [foots, Ex.foot, List.flatMap_cons, List.flatMap_nil, List.append_nil] at hq ⊢
    have hq' : r' = some q := by simpa using hq
    exact ⟨(ho'.lt hq').2, hrr q hq'⟩
  · simp only [List.mem_singleton] at he
    subst he
    refine ⟨_, ho', (hxs.append hD).keep (Gr.of hg) (fun b hb hn => ⟨fun hM => hn ?_, hsub b hb hn⟩)⟩
    rw [foots_append, List.mem_append]
    exact .inl (by simp [foots, Ex.foot, ← hM])
/-- append(s, x...) -/
theorem sApp0 {F : Fr} {w : World} {e : TypeId} {size : Nat} {a : Option Addr} {n c : Nat} {r : Option Nat} {ds : List Dat} {ex : List Ex} {ro : List Ro} (H : Sat F w (.own e size a n c r ds :: ex) ro)
    {P : Program} {t ty : TypeId} {bytes : Nat} (hap : apT P t e size bytes = true) {ad : Addr} {m k : Nat} (news : List Value) (nds : List Dat) (hl : news.length = m * size) (hnews : ∀ j u, news[j]? = some u → w.cell? (ad.add j) = some u)
    (hD : ∀ G : Nat → Prop, (∀ r ∈ ro, Ro.holds w G r) → DeepL w G nds news) (h1 : ∀ u ∈ news, u.oneCell' = true) (h63 : n + m ≤ maxLen) (hbytes : (n + m) * bytes ≤ 140737488355328) {K : Option Addr → Nat → Nat → World → Prop}
    (hK : ∀ a' n' c' r' w', n' = n + m → w.grownBy w' r → Sat F w' (.own e size a' n' c' r' (ds ++ nds) :: ex) ro → K a' n' c' w') :
    ∃ a' n' c', ∃ w', (Builtin.append_ #[t, t] ty #[.slice a n c, .slice (some ad) m k]).run P w = .ok (.slice a' n' c') w' ∧ K a' n' c' w' := by
  obtain ⟨xs, ho, hxs⟩ := H.he (.own e size a n c r ds) (by simp)
  refine app_i hap ho news hl hnews h1 h63 hbytes (Nat.zero_le _) fun a' l' c' r' w' hl' hs hg ho' hr => hK a' l' c' r' w' hl' hg ?_
  exact H.owned hxs (hD _ H.hr) hg ho' (hr.imp id fun h => ⟨_, h, Nat.le_refl _⟩)
/-- append(s, x, y, ..) -/
theorem sPush0 {F : Fr} {w : World} {e : TypeId} {size : Nat} {a : Option Addr} {n c : Nat} {r : Option Nat} {ds : List Dat} {ex : List Ex} {ro : List Ro} (H : Sat F w (.own e size a n c r ds :: ex) ro)
    {P : Program} {t ty t' : TypeId} {bytes : Nat} (hap : apT P t e size bytes = true) {m k : Nat} {cs : Array Value} (nds : List Dat) (hl : cs.toList.length = m * size)
    (hD : ∀ G : Nat → Prop, (∀ r ∈ ro, Ro.holds w G r) → DeepL w G nds cs.toList) (h1 : cs.toList.all Value.oneCell' = true) (h63 : n + m ≤ maxLen) (hbytes : (n + m) * bytes ≤ 140737488355328) {K : Option Addr → Nat → Nat → World → Prop}
    (hK : ∀ a' n' c' r' w', n' = n + m → w.grownBy w' r → Sat F w' (.own e size a' n' c' r' (ds ++ nds) :: ex) ro → K a' n' c' w') :
    gNew cs t' (fun p w1 => ∃ a' n' c', ∃ w', (Builtin.append_ #[t, t] ty #[.slice a n c, .slice (some p) m k]).run P w1 = .ok (.slice a' n' c') w' ∧ K a' n' c' w') w := by
  refine gNew_i fun b w1 hb hs hg hB => ?_
  obtain ⟨xs, ho, hxs⟩ := H.he (.own e size a n c r ds) (by simp)
  have ho1 : OS w1 0 e size a n c r xs := ho.keep hg (by cases r <;> simp)
  refine app_i hap ho1 cs.toList hl (fun j u hu => by rw [add_flat, Nat.zero_add]; exact hB.cell hu) (fun u hu => List.all_eq_true.1 h1 u hu) h63 hbytes (Nat.zero_le _) fun a' l' c' r' w' hl' hs' hg' ho' hr => ?_
  have hgg := World.grownBy.trans (grew_none r hg) hg'
  exact hK a' l' c' r' w' hl' hgg (H.owned hxs (hD _ H.hr) hgg ho' (hr.imp id fun h => ⟨_, h, by omega⟩))
/-- The slice is one's own no more: it is read alone. -/
theorem Sat.freeze {F : Fr} {w : World} {e : TypeId} {size : Nat} {a : Option Addr} {n c : Nat} {r : Option Nat} {ds : List Dat} {ex : List Ex} {ro : List Ro} (H : Sat F w (.own e size a n c r ds :: ex) ro) : Sat F w ex (.deep [.row size ds] [.slice a n c] :: ro) := by
  obtain ⟨xs, ho, hxs⟩ := H.he (.own e size a n c r ds) (by simp)
  have H' := H.sub (ex' := ex) (ro' := ro) (List.sublist_cons_self _ _) (fun _ h => h)
  refine H'.addRo (DeepL.cons ?_ (DeepL.nil _ _))
  have hnd := H.nd
  rw [foots_cons, List.nodup_append] at hnd
  have hxs' : DeepL w (fun b => b ∉ foots ex) ds xs := hxs.keep (Gr.refl w (fun _ => False)) (fun b _ hn => ⟨id, fun h => hn (by rw [foots_cons, List.mem_append]; exact .inr h)⟩)
  have hlen := ho.own.1
  rcases ho.own.2 with ⟨hv, h0⟩ | ⟨g, cap, cur, hv, hb, hgg, hc, hm, hs, ht⟩
  · simp only [Value.slice.injEq] at hv
    obtain ⟨rfl, rfl, rfl⟩ := hv
    have : ds = [] := List.eq_nil_of_length_eq_zero (by rw [← hxs.1, hlen]; simp)
    subst this
    exact .emp _ _
  · simp only [Value.slice.injEq] at hv
    obtain ⟨rfl, _, rfl⟩ := hv
    have hr : r = some g := ho.blk
    refine .row size g 0 n c ds xs hc hm (Array.getElem?_eq_some_iff.1 hgg).1 (fun h => hnd.2.2 g (by simp [Ex.foot, hr]) g h rfl) (by rw [← hxs.1, hlen]) hxs.1 (fun i v hi => ?_) hxs'.2
    have := ho.own.cells (g := g) rfl i v hi
    rwa [add_flat] at this
/-- A new slice of one's own, out of a block. -/
theorem Sat.toOwn {F : Fr} {w : World} {b : Nat} {e : TypeId} {l : List Value} {ex : List Ex} {ro : List Ro} (H : Sat F w (.blk b e l :: ex) ro) (size n : Nat) (ds : List Dat) (hl : l.length = n * size) (hn : n ≤ maxLen) (hd : ∀ G : Nat → Prop, (∀ r ∈ ro, Ro.holds w G r) → DeepL w G ds l) : Sat F w (.own e size (some ⟨b, 0, none⟩) n n (some b) ds :: ex) ro := by
  have hf : foots (.own e size (some ⟨b, 0, none⟩) n n (some b) ds :: ex) = foots (.blk b e l :: ex) := by simp [foots_cons, Ex.foot]
  refine ⟨H.gr, by rw [hf]; exact H.nd, by rw [hf]; exact H.lt, fun e' he => ?_, by rw [hf]; exact H.hr⟩
  rw [hf]
  rcases List.mem_cons.1 he with rfl | he
  · exact ⟨l, OS.of_blk H.b0 hl (Nat.zero_le _) hn, hd _ H.hr⟩
  · exact H.he e' (List.mem_cons_of_mem _ he)
theorem Sat.nilOwn {F : Fr} {w : World} {ex : List Ex} {ro : List Ro} (H : Sat F w ex ro) (e : TypeId) (size : Nat) : Sat F w (.own e size none 0 0 none [] :: ex) ro := by
  have hf : foots (.own e size none 0 0 none [] :: ex) = foots ex := by simp [foots_cons, Ex.foot]
  refine ⟨H.gr, by rw [hf]; exact H.nd, by rw [hf]; exact H.lt, fun e' he => ?_, by rw [hf]; exact H.hr⟩
  rw [hf]
  rcases List.mem_cons.1 he with rfl | he
  · exact ⟨[], OS.nil _ _ _ _, DeepL.nil _ _⟩
  · exact H.he e' he
/-- A block is one's own no more: a row that is read alone. -/
theorem Sat.blkRow {F : Fr} {w : World} {b : Nat} {e : TypeId} {l : List Value} {ex : List Ex} {ro : List Ro} (H : Sat F w (.blk b e l :: ex) ro) (size n : Nat) (ds : List Dat) (hl : l.length = n * size) (hn : n ≤ maxLen) (hd : ∀ G : Nat → Prop, (∀ r ∈ ro, Ro.holds w G r) → DeepL w G ds l) : Sat F w ex (.deep [.row size ds] [.slice (some ⟨b, 0, none⟩) n n] :: ro) :=
  (H.toOwn size n ds hl hn hd).freeze
/-- A block is one's own no more: what a pointer points to. -/
theorem Sat.blkPtr {F : Fr} {w : World} {b : Nat} {e : TypeId} {l : List Value} {ex : List Ex} {ro : List Ro} (H : Sat F w (.blk b e l :: ex) ro) (ds : List Dat) (hd : ∀ G : Nat → Prop, (∀ r ∈ ro, Ro.holds w G r) → DeepL w G ds l) : Sat F w ex (.deep [.ptr ds] [.pointer (some ⟨b, 0, none⟩)] :: ro) := by
  have H' := H.sub (ex' := ex) (ro' := ro) (List.sublist_cons_self _ _) (fun _ h => h)
  have hnd := H.nd
  rw [foots_cons, List.nodup_append] at hnd
  have hd' : DeepL w (fun b => b ∉ foots ex) ds l := hd _ H'.hr
  exact H'.addRo (DeepL.cons (.ptr b e (0, 0) ds l (fun h => hnd.2.2 b (by simp [Ex.foot]) b h rfl) H.b0.eq hd'.1 hd'.2) (DeepL.nil _ _))
/-- make([]T, n), T of one cell. -/
theorem sMk {F : Fr} {w : World} {ex : List Ex} {ro : List Ro} (H : Sat F w ex ro) {P : Program} {t e : TypeId} {kl kc : IntKind} {n bytes : Nat} {z : Value} (hap : apT P t e 1 bytes = true) (hz : (P.info? e).bind (·.zero) = some z) (hzc : z.cells = #[z]) (hn : n ≤ maxLen) (hb : bytes * n ≤ 281474976710656)
    {ln cp : Int} (hln : ln = (n : Int)) (hcp : cp = (n : Int)) {K : Option Addr → Nat → Nat → World → Prop} (hK : ∀ b w', w.grownBy w' none → Sat F w' (.blk b e (List.replicate n z) :: ex) ro → K (some ⟨b, 0, none⟩) n n w') :
    ∃ a l c, ∃ w', (Instr.makeSlice t (.int kl ln) (.int kc cp)).run P w = .ok (.slice a l c) w' ∧ K a l c w' := by
  subst hln; subst hcp
  refine mk_i hap hz hzc hn hb fun b w' hb hlt hg hB => hK b w' hg ?_
  refine Sat.step (used := []) (used' := [.blk b e (List.replicate n z)]) (rest := ex) H ((Gr.of hg).mono (fun k _ h => by cases h)) (by simp [foots, Ex.foot]) (fun q hq => ?_) (fun e he _ => ?_)
  · simp only [foots, Ex.foot, List.flatMap_cons, List.flatMap_nil, List.append_nil, List.mem_singleton] at hq
    subst hq
    exact ⟨by omega, .inr (by omega)⟩
  · simp only [List.mem_singleton] at he
    subst he
    exact hB
/-- copy(dst[o:], src) -/
theorem sCp {F : Fr} {w : World} {g : Nat} {t : TypeId} {l : List Value} {ex : List Ex} {ro : List Ro} (H : Sat F w (.blk g t l :: ex) ro) {P : Program} {dT sT ty elem : TypeId} {bytes : Nat} (hap : apT P dT elem 1 bytes = true) {o dLen dCap sLen sCap : Nat} {a : Addr} (cs : List Value)
    (hn : cs.length = Nat.min sLen dLen) (hsrc : ∀ j v, cs[j]? = some v → w.cell? (a.add j) = some v) (hfit : o + cs.length ≤ l.length) (h1 : ∀ v ∈ cs, v.oneCell' = true) {K : Int → World → Prop}
    (hK : ∀ w', w.grownBy w' (some g) → Sat F w' (.blk g t (l.take o ++ cs ++ l.drop (o + cs.length)) :: ex) ro → K cs.length w') :
    ∃ n, ∃ w', (Builtin.copy_ #[dT, sT] ty #[.slice (some ⟨g, o, none⟩) dLen dCap, .slice (some a) sLen sCap]).run P w = .ok (.int .i64 n) w' ∧ K n w' :=
  cp_i hap H.b0 cs hn hsrc hfit h1 fun w' _ hg hB => hK w' hg (H.turn hg hB)
/-- string(b) -/
theorem strDeep {w : World} {G : Nat → Prop} {xs : List Int} {a : Option Addr} {n c : Nat} (hD : Deep w G (.row 1 (ob xs)) (.slice a n c)) {P : Program} {src dst e : TypeId} (hs : P.underlying src = some (.slice e)) (he : P.underlying e = some (.int .u8)) (hd : P.underlying dst = some .string) :
    (convert src dst (.slice a n c)).run P w = .ok (.string (strOfNums xs)) w := by
  have hl := hD.lenB
  generalize hob : ob xs = ds at hD
  cases hD with
  | emp =>
    have : xs = [] := List.eq_nil_of_length_eq_zero hl
    subst this
    cases a with
    | none => exact run_convert_bytes_nil w src e hs he 0 0 dst hd
    | some p => rw [run_convert_bytes_string w src dst e _ 0 0 hs he hd, run_bytesToString w _ 0 0 [] rfl]; rfl
  | row _ b o n c ds vs hnc hc hlt hG hlen hv hcell hdd =>
    subst hob
    obtain rfl : vs = xs.map (Value.int .u8) := DeepL.of_ones (w := w) (G := G) (us := xs.map (Value.int .u8)) ⟨by rw [← ob_ones]; exact hv, by rw [← ob_ones]; exact hdd⟩
    refine run_convert_bytes_arg w src e hs he b o n c xs hl (fun i hi => ?_) dst hd
    have := hcell i (.int .u8 (xs[i]'(by omega))) (by simp [List.getElem?_eq_getElem (show i < xs.length by omega)])
    rw [this]
    simp [List.getD, List.getElem?_eq_getElem (show i < xs.length by omega)]
theorem sStr {F : Fr} {w : World} {ex : List Ex} {ro : List Ro} {xs : List Int} {a : Option Addr} {n c : Nat} (H : Sat F w ex ro) (h : Ro.B xs a n c ∈ ro) {P : Program} {src dst e : TypeId} (hs : P.underlying src = some (.slice e)) (he : P.underlying e = some (.int .u8)) (hd : P.underlying dst = some .string) :
    (convert src dst (.slice a n c)).run P w = .ok (.string (strOfNums xs)) w := strDeep (H.deep1 h) hs he hd
theorem Sat.in_foots {F : Fr} {w : World} {ex : List Ex} {ro : List Ro} (_ : Sat F w ex ro) {e : TypeId} {sz : Nat} {a : Option Addr} {n c : Nat} {r : Option Nat} {ds : List Dat} (h : Ex.own e sz a n c r ds ∈ ex) {b : Nat} (hr : some b = r) : b ∈ foots ex := by
  simp only [foots, List.mem_flatMap]
  exact ⟨_, h, by simp [Ex.foot, ← hr]⟩
/-- string(b), whatever is made of a row of one's own. -/
theorem strRow {F : Fr} {w : World} {ex : List Ex} {ro : List Ro} {xs : List Int} {a : Option Addr} {n c : Nat} (H : Sat F w ex ro) (h : Ro.B xs a n c ∈ ro) {r : Option Nat} (hr : ∀ b, some b = r → b ∈ foots ex) {P : Program} {src dst e : TypeId} (hs : P.underlying src = some (.slice e)) (he : P.underlying e = some (.int .u8)) (hd : P.underlying dst = some .string) :
    ∀ wx, w.grownBy wx r → (convert src dst (.slice a n c)).run P wx = .ok (.string (strOfNums xs)) wx :=
  fun _ hg => strDeep ((H.deep1 h).keep (G' := fun _ => True) (Gr.of hg) (fun b _ hn => ⟨fun e => hn (hr b e), trivial⟩)) hs he hd
theorem mem_foots {e : Ex} {b : Nat} (hb : b ∈ e.foot) : ∀ {ex : List Ex}, e ∈ ex → b ∈ foots ex := fun {ex} he => by
  simp only [foots, List.mem_flatMap]
  exact ⟨e, he, hb⟩
theorem foots_disj {e1 e2 : Ex} {b : Nat} : ∀ {ex : List Ex}, (foots ex).Nodup → e1 ∈ ex → e2 ∈ ex → e1 ≠ e2 → b ∈ e1.foot → b ∈ e2.foot → False
  | [], _, h1, _, _, _, _ => by cases h1
  | e :: ex, hnd, h1, h2, hne, hb1, hb2 => by
    rw [foots_cons, List.nodup_append] at hnd
    rcases List.mem_cons.1 h1 with h1 | h1
    · subst h1
      rcases List.mem_cons.1 h2 with h2 | h2
      · exact hne h2.symm
      · exact hnd.2.2 b hb1 b (mem_foots hb2 h2) rfl
    · rcases List.mem_cons.1 h2 with h2 | h2
      · subst h2; exact hnd.2.2 b hb2 b (mem_foots hb1 (by assumption)) rfl
      · exact foots_disj hnd.2.1 h1 h2 hne hb1 hb2
/-- A block of one's own is not the row of a slice of one's own. -/
theorem Sat.ne {F : Fr} {w : World} {ex : List Ex} {ro : List Ro} (H : Sat F w ex ro) {b : Nat} {t : TypeId} {l : List Value} {e : TypeId} {sz : Nat} {a : Option Addr} {n c : Nat} {r : Option Nat} {ds : List Dat} (h1 : Ex.blk b t l ∈ ex) (h2 : Ex.own e sz a n c r ds ∈ ex) : some b ≠ r :=
  fun hr => foots_disj H.nd h1 h2 (by intro e; cases e) (b := b) (by simp [Ex.foot]) (by simp [Ex.foot, ← hr])
theorem Sat.at_ {F : Fr} {w : World} {ex : List Ex} {ro : List Ro} {xs : List Int} {a : Option Addr} {n c : Nat} (H : Sat F w ex ro) (h : Ro.B xs a n c ∈ ro) (hn : 0 < n) :
    ∃ p : Addr, a = some p ∧ (∀ i, i < n → w.cell? (p.add i) = some (.int .u8 (xs.getD i 0))) ∧ (∀ i, ∃ cc ty f, w.heap[(p.add i).block]? = some (.cells cc ty f)) ∧ ∀ i, (p.add i).block ∉ foots ex := by
  have h' := H.deep1 h
  have hl := h'.lenB
  obtain ⟨b, o, vs, rfl, hlt, hG, hL, hc⟩ := h'.at_ hn
  rw [ob_ones] at hL
  obtain rfl := hL.of_ones
  have hcell : ∀ i, i < n → w.cell? ⟨b, o + i, none⟩ = some (.int .u8 (xs.getD i 0)) := fun i hi => hc i _ (by
    rw [List.getElem?_map, List.getElem?_eq_getElem (by omega), Option.map_some]
    simp [List.getD, List.getElem?_eq_getElem (show i < xs.length by omega)])
  refine ⟨_, rfl, fun i hi => by rw [add_flat]; exact hcell i hi, fun i => ?_, fun i => by rw [add_flat]; exact hG⟩
  rw [add_flat]
  have h0 := hcell 0 hn
  unfold World.cell? at h0
  split at h0
  · rename_i cc e f hb; exact ⟨cc, e, f, hb⟩
  · cases h0
theorem Sat.ne_own {F : Fr} {w : World} {ex : List Ex} {ro : List Ro} (H : Sat F w ex ro) {e : TypeId} {sz : Nat} {a : Option Addr} {n c : Nat} {r : Option Nat} {ds : List Dat} (h : Ex.own e sz a n c r ds ∈ ex) {b : Nat} (hb : b ∉ foots ex) : some b ≠ r := fun hr => hb (H.in_foots h hr)
theorem Sat.ne_blk {F : Fr} {w : World} {ex : List Ex} {ro : List Ro} (_ : Sat F w ex ro) {b : Nat} {t : TypeId} {l : List Value} (h : Ex.blk b t l ∈ ex) {q : Nat} (hq : q ∉ foots ex) : some q ≠ some b := by
  rintro e
  injection e with e
  subst e
  exact hq (by simp only [foots, List.mem_flatMap]; exact ⟨_, h, by simp [Ex.foot]⟩)
end Go.Proofs.YtkdialecadjedaaGreat
