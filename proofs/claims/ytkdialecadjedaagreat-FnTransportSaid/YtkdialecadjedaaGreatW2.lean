/- rtcp's writers of headers, chunks and deltas (no statement of the seat is proved here; conditions: none). -/
import Derived.Test.YtkdialecadjedaaGreatW1
namespace Go.Proofs.YtkdialecadjedaaGreat
set_option linter.unusedVariables false
set_option linter.unusedSimpArgs false
set_option linter.unusedSectionVars false
open Go

theorem run_mapPut {P : Program} {w : World} {mty kt et : TypeId} {k : IntKind} {r clock : Nat} {es : Array MapEntry} {key : Int} {val : Value} (hm : P.underlying mty = some (.map kt et)) (hk : P.underlying kt = some (.int k)) (hb : w.heap[r]? = some (.map es clock))
    (hf : Instr.findNow (.int k) (.int k key) es.toList 0 = some none) :
    (Instr.mapUpdate mty (.map (some r)) (.int k key) val).run P w = .ok () { w with heap := w.heap.setIfInBounds r (.map (es.push { key := .int k key, val := val, born := clock }) (clock + 1)) } := by
  have hc : (Instr.checkKey false 10000 kt (.int k key)).run P w = .ok () w := MapKept.run_checkKey (k := .int k key) hk (by simp [MapKept.IsKey]) false 9999
  simp [Instr.mapUpdate, run_underlying hm, MapKept.run_getObj_map hb, hc, MapKept.run_findKey hk hf, MapKept.run_setObj_map _ hb, Result.andThen]
theorem run_mapGet {P : Program} {w : World} {mty kt et : TypeId} {k : IntKind} {r clock : Nat} {es : Array MapEntry} {key : Int} {i : Nat} {e : MapEntry} {z : Value} (hm : P.underlying mty = some (.map kt et)) (hk : P.underlying kt = some (.int k)) (hb : w.heap[r]? = some (.map es clock))
    (hz : (zeroValue et).run P w = .ok z w) (hf : Instr.findNow (.int k) (.int k key) es.toList 0 = some (some (i, e.val))) :
    (Instr.lookup mty (.map (some r)) (.int k key) false).run P w = .ok e.val w := by
  have hc : (Instr.checkKey true 10000 kt (.int k key)).run P w = .ok () w := MapKept.run_checkKey (k := .int k key) hk (by simp [MapKept.IsKey]) true 9999
  simp [Instr.lookup, run_underlying hm, MapKept.run_getObj_map hb, MapKept.run_checkKey hk (show MapKept.IsKey (.int k) (.int k key) by simp [MapKept.IsKey]), MapKept.run_findKey hk hf, hz, Result.andThen]
def bitsMap : Array MapEntry := (#[].push { key := .int .u16 0, val := .int .u16 1, born := 0 }).push { key := .int .u16 1, val := .int .u16 2, born := 0 + 1 }
set_option maxRecDepth 20000 in
theorem c179 {w : World} : Calls pg 179 #[] w fun en w' => ∃ r, en = .returned (.map (some r)) ∧ w.grownBy w' none ∧ w'.heap[r]? = some (.map bitsMap (0 + 1 + 1)) := by
  apply of179
  have h0 : (w.alloc (.map #[] 0)).heap[w.heap.size]? = some (.map #[] 0) := (MapKept.heap_alloc w _).1
  refine ⟨_, w.alloc (.map #[] 0), rfl, ?_⟩
  refine ⟨_, run_mapPut (kt := 32) (et := 32) (by kernel_rfl) (by kernel_rfl) h0 (by rfl), ?_⟩
  have h1 : (w.alloc (.map #[] 0)).heap.size = w.heap.size + 1 := by simp
  generalize hw : w.alloc (.map #[] 0) = w1 at h0 h1 ⊢
  have h2 := (MapKept.heap_set (o' := .map (#[].push { key := .int .u16 0, val := .int .u16 1, born := 0 }) (0 + 1)) h0).1
  refine ⟨_, run_mapPut (w := { w1 with heap := w1.heap.setIfInBounds w.heap.size (.map (#[].push { key := .int .u16 0, val := .int .u16 1, born := 0 }) (0 + 1)) }) (k := .u16) (key := 1) (kt := 32) (et := 32) (by kernel_rfl) (by kernel_rfl) h2 (by rfl), ?_⟩
  have h3 := (MapKept.heap_set (w := { w1 with heap := w1.heap.setIfInBounds w.heap.size (.map (#[].push { key := .int .u16 0, val := .int .u16 1, born := 0 }) (0 + 1)) }) (r := w.heap.size) (o' := .map ((#[].push { key := .int .u16 0, val := .int .u16 1, born := 0 }).push { key := .int .u16 1, val := .int .u16 2, born := 0 + 1 }) (0 + 1 + 1)) h2)
  refine ⟨w.heap.size, rfl, ?_, h3.1⟩
  have g : w.grownBy w1 none := by rw [← hw]; exact World.grownBy_alloc _ _ _
  refine ⟨g.os, g.tape, g.output, by rw [Array.size_setIfInBounds, Array.size_setIfInBounds]; exact g.size, fun k hk _ => ?_⟩
  rw [h3.2 k (by omega), (MapKept.heap_set h0).2 k (by omega)]
  exact g.block k hk (by simp)
theorem get_bits {w : World} {r : Nat} (h : w.heap[r]? = some (.map bitsMap (0 + 1 + 1))) {S : Int} (hS : S = 0 ∨ S = 1) : (Instr.lookup 264 (.map (some r)) (.int .u16 S) false).run pg w = .ok (.int .u16 (S + 1)) w := by
  rcases hS with rfl | rfl
  · exact run_mapGet (e := { key := .int .u16 0, val := .int .u16 1, born := 0 }) (i := 0) (z := .int .u16 0) (kt := 32) (et := 32) (by kernel_rfl) (by kernel_rfl) h (by kernel_rfl) (by rfl)
  · exact run_mapGet (e := { key := .int .u16 1, val := .int .u16 2, born := 1 }) (i := 1) (z := .int .u16 0) (kt := 32) (et := 32) (by kernel_rfl) (by kernel_rfl) h (by kernel_rfl) (by rfl)
/-! ### Headers -/
theorem c68 {F : Fr} {w : World} {ex : List Ex} {ro : List Ro} (H : Sat F w ex ro) {c t n : Int} (hc : 0 ≤ c ∧ c < 32) (ht : 0 ≤ t ∧ t < 256) (hn : 0 ≤ n ∧ n < 65536) :
    Calls pg 68 #[.agg #[.bool false, .int .u8 c, .int .u8 t, .int .u16 n]] w fun en w' => ∃ g, en = .returned (.tuple #[.slice (some ⟨g, 0, none⟩) 4 4, .nilIface]) ∧
      Sat F w' (.blk g 5 (u8s [128 + c, t, n / 256, n % 256]) :: ex) ro := by
  apply of68
  refine sNew H ?_; clear H; intro b1 w _ H
  refine sMk H (e := 5) (z := .int .u8 0) (bytes := 1) (by kernel_rfl) (by kernel_rfl) (by rfl) (by unfold maxLen; omega) (by omega) (n := 4) (by omega) (by omega) ?_
  clear H; intro g w _ H
  replace H : Sat F w (.blk g 5 (u8s [0, 0, 0, 0]) :: .blk b1 199 [.bool false, .int .u8 c, .int .u8 t, .int .u16 n] :: ex) ro := H
  refine ⟨_, rfl, by omega, by omega, ?_⟩
  refine ⟨_, H.bcell (i := 0) (by rw [add_flat]; rfl) (by decide), ?_⟩
  refine ⟨_, rfl, by omega, by omega, ?_⟩
  refine sStB H (i := 0) (by rw [add_flat]; rfl) (by decide) ?_
  clear H; intro w _ H
  replace H : Sat F w (.blk g 5 (u8s [128, 0, 0, 0]) :: .blk b1 199 [.bool false, .int .u8 c, .int .u8 t, .int .u16 n] :: ex) ro := H
  refine ⟨fun _ w => Sat F w (.blk g 5 (u8s [128, 0, 0, 0]) :: .blk b1 199 [.bool false, .int .u8 c, .int .u8 t, .int .u16 n] :: ex) ro, ?_, ?_⟩
  · refine ⟨_, (by first | exact Ce (by first | exact add_flat _ _ _ | exact add_flat2 _ _ _ _ | rfl) H.b0 rfl | exact Ce (by first | exact add_flat _ _ _ | exact add_flat2 _ _ _ _ | rfl) H.b1 rfl | exact Ce (by first | exact add_flat _ _ _ | exact add_flat2 _ _ _ _ | rfl) H.b2 rfl | exact Ce (by first | exact add_flat _ _ _ | exact add_flat2 _ _ _ _ | rfl) H.b3 rfl | exact Ce (by first | exact add_flat _ _ _ | exact add_flat2 _ _ _ _ | rfl) H.b4 rfl | exact Ce (by first | exact add_flat _ _ _ | exact add_flat2 _ _ _ _ | rfl) H.b5 rfl | exact Ce (by first | exact add_flat _ _ _ | exact add_flat2 _ _ _ _ | rfl) H.b6 rfl | exact Ce (by first | exact add_flat _ _ _ | exact add_flat2 _ _ _ _ | rfl) H.b7 rfl | exact Ce (by first | exact add_flat _ _ _ | exact add_flat2 _ _ _ _ | rfl) H.b8 rfl | exact Ce (by first | exact add_flat _ _ _ | exact add_flat2 _ _ _ _ | rfl) H.b9 rfl), ?_⟩
    exact ⟨fun h => absurd h (by decide), fun _ => H⟩
  clear H; rintro dd10 w H
  refine ⟨_, (by first | exact Ce (by first | exact add_flat _ _ _ | exact add_flat2 _ _ _ _ | rfl) H.b0 rfl | exact Ce (by first | exact add_flat _ _ _ | exact add_flat2 _ _ _ _ | rfl) H.b1 rfl | exact Ce (by first | exact add_flat _ _ _ | exact add_flat2 _ _ _ _ | rfl) H.b2 rfl | exact Ce (by first | exact add_flat _ _ _ | exact add_flat2 _ _ _ _ | rfl) H.b3 rfl | exact Ce (by first | exact add_flat _ _ _ | exact add_flat2 _ _ _ _ | rfl) H.b4 rfl | exact Ce (by first | exact add_flat _ _ _ | exact add_flat2 _ _ _ _ | rfl) H.b5 rfl | exact Ce (by first | exact add_flat _ _ _ | exact add_flat2 _ _ _ _ | rfl) H.b6 rfl | exact Ce (by first | exact add_flat _ _ _ | exact add_flat2 _ _ _ _ | rfl) H.b7 rfl | exact Ce (by first | exact add_flat _ _ _ | exact add_flat2 _ _ _ _ | rfl) H.b8 rfl | exact Ce (by first | exact add_flat _ _ _ | exact add_flat2 _ _ _ _ | rfl) H.b9 rfl), ?_⟩
  refine ⟨fun h => ?_, fun _ => ?_⟩
  · rw [decide_eq_true_eq] at h; omega
  refine ⟨_, rfl, by omega, by omega, ?_⟩
  replace H := H.drew; generalize w.drew = w at H ⊢
  refine ⟨_, H.bcell (i := 0) (by rw [add_flat]; rfl) (by decide), ?_⟩
  refine ⟨_, (by first | exact Ce (by first | exact add_flat _ _ _ | exact add_flat2 _ _ _ _ | rfl) H.b0 rfl | exact Ce (by first | exact add_flat _ _ _ | exact add_flat2 _ _ _ _ | rfl) H.b1 rfl | exact Ce (by first | exact add_flat _ _ _ | exact add_flat2 _ _ _ _ | rfl) H.b2 rfl | exact Ce (by first | exact add_flat _ _ _ | exact add_flat2 _ _ _ _ | rfl) H.b3 rfl | exact Ce (by first | exact add_flat _ _ _ | exact add_flat2 _ _ _ _ | rfl) H.b4 rfl | exact Ce (by first | exact add_flat _ _ _ | exact add_flat2 _ _ _ _ | rfl) H.b5 rfl | exact Ce (by first | exact add_flat _ _ _ | exact add_flat2 _ _ _ _ | rfl) H.b6 rfl | exact Ce (by first | exact add_flat _ _ _ | exact add_flat2 _ _ _ _ | rfl) H.b7 rfl | exact Ce (by first | exact add_flat _ _ _ | exact add_flat2 _ _ _ _ | rfl) H.b8 rfl | exact Ce (by first | exact add_flat _ _ _ | exact add_flat2 _ _ _ _ | rfl) H.b9 rfl), ?_⟩
  refine ⟨_, rfl, by omega, by omega, ?_⟩
  have e1 : ior .u8 (([128, 0, 0, 0] : List Int).getD 0 0) (ishl .u8 c (0 : Int)) = 128 + c := by
    rw [ishl_of (b := (0 : Int)) 0 (by rfl) (by decide), wu8, show c * 2 ^ 0 % 256 = c by omega]
    exact ior_add (k := .u8) (by rfl) 5 4 (by rfl) (by decide) hc.1 (by omega) (by simp only [IntKind.bits]; show (128 : Int) + c < _; omega)
  rw [e1]
  refine sStB H (i := 0) (by rw [add_flat]; rfl) (by decide) ?_
  clear H; intro w _ H
  refine ⟨_, (by first | exact Ce (by first | exact add_flat _ _ _ | exact add_flat2 _ _ _ _ | rfl) H.b0 rfl | exact Ce (by first | exact add_flat _ _ _ | exact add_flat2 _ _ _ _ | rfl) H.b1 rfl | exact Ce (by first | exact add_flat _ _ _ | exact add_flat2 _ _ _ _ | rfl) H.b2 rfl | exact Ce (by first | exact add_flat _ _ _ | exact add_flat2 _ _ _ _ | rfl) H.b3 rfl | exact Ce (by first | exact add_flat _ _ _ | exact add_flat2 _ _ _ _ | rfl) H.b4 rfl | exact Ce (by first | exact add_flat _ _ _ | exact add_flat2 _ _ _ _ | rfl) H.b5 rfl | exact Ce (by first | exact add_flat _ _ _ | exact add_flat2 _ _ _ _ | rfl) H.b6 rfl | exact Ce (by first | exact add_flat _ _ _ | exact add_flat2 _ _ _ _ | rfl) H.b7 rfl | exact Ce (by first | exact add_flat _ _ _ | exact add_flat2 _ _ _ _ | rfl) H.b8 rfl | exact Ce (by first | exact add_flat _ _ _ | exact add_flat2 _ _ _ _ | rfl) H.b9 rfl), ?_⟩
  refine ⟨_, rfl, by omega, by omega, ?_⟩
  refine sStB H (i := 1) (by rw [add_flat]; rfl) (by simp) ?_
  clear H; intro w _ H
  refine ⟨by omega, by omega, ?_⟩
  replace H := H.drew; generalize w.drew = w at H ⊢
  refine ⟨_, (by first | exact Ce (by first | exact add_flat _ _ _ | exact add_flat2 _ _ _ _ | rfl) H.b0 rfl | exact Ce (by first | exact add_flat _ _ _ | exact add_flat2 _ _ _ _ | rfl) H.b1 rfl | exact Ce (by first | exact add_flat _ _ _ | exact add_flat2 _ _ _ _ | rfl) H.b2 rfl | exact Ce (by first | exact add_flat _ _ _ | exact add_flat2 _ _ _ _ | rfl) H.b3 rfl | exact Ce (by first | exact add_flat _ _ _ | exact add_flat2 _ _ _ _ | rfl) H.b4 rfl | exact Ce (by first | exact add_flat _ _ _ | exact add_flat2 _ _ _ _ | rfl) H.b5 rfl | exact Ce (by first | exact add_flat _ _ _ | exact add_flat2 _ _ _ _ | rfl) H.b6 rfl | exact Ce (by first | exact add_flat _ _ _ | exact add_flat2 _ _ _ _ | rfl) H.b7 rfl | exact Ce (by first | exact add_flat _ _ _ | exact add_flat2 _ _ _ _ | rfl) H.b8 rfl | exact Ce (by first | exact add_flat _ _ _ | exact add_flat2 _ _ _ _ | rfl) H.b9 rfl), ?_⟩
  refine call_j (c75 (o := 2) (n := 2) (c := 2) H hn (by omega) (by simp)) ?_
  clear H
  rintro _ w ⟨rfl, H⟩
  refine ⟨rfl, g, rfl, ?_⟩
  refine H.sub ?_ (fun _ h => h)
  exact List.Sublist.cons_cons _ (List.sublist_cons_self _ _)
/-! ### Chunks -/
theorem c180 {F : Fr} {w : World} {ex : List Ex} {ro : List Ro} (H : Sat F w ex ro) {x : Value} {v : Int} {ty : Int} (hx : x = .nilIface) (hv : 0 ≤ v ∧ v < 32768) :
    Calls pg 180 #[.agg #[x, .int .u16 ty, .int .u16 (v / 8192 % 4), .int .u16 (v % 8192)]] w fun en w' => ∃ a c, en = .returned (.tuple #[.slice a 2 c, .nilIface]) ∧ Sat F w' ex (Ro.B [v / 256, v % 256] a 2 c :: ro) := by
  apply of180
  subst hx
  refine sNew H ?_; clear H; intro b1 w _ H
  refine sMk H (e := 5) (z := .int .u8 0) (bytes := 1) (by kernel_rfl) (by kernel_rfl) (by rfl) (by unfold maxLen; omega) (by omega) (n := 2) (by omega) (by omega) ?_
  clear H; intro g w _ H
  refine call_j (c123 (k := 15) (m := 2) (q := 0) (by omega) (.inl ⟨rfl, rfl⟩) (by omega) (by omega) (by decide) (by decide)) ?_
  rintro _ w ⟨rfl, gr⟩
  replace H := H.grow gr; clear gr
  refine ⟨_, _, rfl, by simp [isIf], fun h => absurd h (by decide), fun _ => ?_⟩
  refine ⟨_, (by first | exact Ce (by first | exact add_flat _ _ _ | exact add_flat2 _ _ _ _ | rfl) H.b0 rfl | exact Ce (by first | exact add_flat _ _ _ | exact add_flat2 _ _ _ _ | rfl) H.b1 rfl | exact Ce (by first | exact add_flat _ _ _ | exact add_flat2 _ _ _ _ | rfl) H.b2 rfl | exact Ce (by first | exact add_flat _ _ _ | exact add_flat2 _ _ _ _ | rfl) H.b3 rfl | exact Ce (by first | exact add_flat _ _ _ | exact add_flat2 _ _ _ _ | rfl) H.b4 rfl | exact Ce (by first | exact add_flat _ _ _ | exact add_flat2 _ _ _ _ | rfl) H.b5 rfl | exact Ce (by first | exact add_flat _ _ _ | exact add_flat2 _ _ _ _ | rfl) H.b6 rfl | exact Ce (by first | exact add_flat _ _ _ | exact add_flat2 _ _ _ _ | rfl) H.b7 rfl | exact Ce (by first | exact add_flat _ _ _ | exact add_flat2 _ _ _ _ | rfl) H.b8 rfl | exact Ce (by first | exact add_flat _ _ _ | exact add_flat2 _ _ _ _ | rfl) H.b9 rfl), ?_⟩
  refine call_j (c123 (k := 13) (m := 4) (q := 0) (by omega) (.inr (.inl ⟨rfl, rfl⟩)) (by omega) (by omega) (by decide) (by omega)) ?_
  rintro _ w ⟨rfl, gr⟩
  replace H := H.grow gr; clear gr
  refine ⟨_, _, rfl, by simp [isIf], fun h => absurd h (by decide), fun _ => ?_⟩
  refine ⟨_, (by first | exact Ce (by first | exact add_flat _ _ _ | exact add_flat2 _ _ _ _ | rfl) H.b0 rfl | exact Ce (by first | exact add_flat _ _ _ | exact add_flat2 _ _ _ _ | rfl) H.b1 rfl | exact Ce (by first | exact add_flat _ _ _ | exact add_flat2 _ _ _ _ | rfl) H.b2 rfl | exact Ce (by first | exact add_flat _ _ _ | exact add_flat2 _ _ _ _ | rfl) H.b3 rfl | exact Ce (by first | exact add_flat _ _ _ | exact add_flat2 _ _ _ _ | rfl) H.b4 rfl | exact Ce (by first | exact add_flat _ _ _ | exact add_flat2 _ _ _ _ | rfl) H.b5 rfl | exact Ce (by first | exact add_flat _ _ _ | exact add_flat2 _ _ _ _ | rfl) H.b6 rfl | exact Ce (by first | exact add_flat _ _ _ | exact add_flat2 _ _ _ _ | rfl) H.b7 rfl | exact Ce (by first | exact add_flat _ _ _ | exact add_flat2 _ _ _ _ | rfl) H.b8 rfl | exact Ce (by first | exact add_flat _ _ _ | exact add_flat2 _ _ _ _ | rfl) H.b9 rfl), ?_⟩
  refine call_j (c123 (k := 0) (m := 8192) (q := v / 8192) (by omega) (.inr (.inr ⟨rfl, rfl⟩)) (by omega) (by omega) (by omega) (by omega)) ?_
  rintro _ w ⟨rfl, gr⟩
  replace H := H.grow gr; clear gr
  refine ⟨_, _, rfl, by simp [isIf], fun h => absurd h (by decide), fun _ => ?_⟩
  rw [show (0 : Int) + 0 * 2 ^ 15 + v / 8192 % 4 * 2 ^ 13 + v % 8192 * 2 ^ 0 = v by omega]
  refine call_j (c75 (l := [0, 0]) (o := 0) (n := 2) (c := 2) H (by omega) (by omega) (by decide)) ?_
  clear H
  rintro _ w ⟨rfl, H⟩
  have H1 := H.blkRow 1 2 (ob [v / 256, v % 256]) (by rfl) (by decide) (fun G h => DeepL.ones [.int .u8 (v / 256), .int .u8 (v % 256)])
  exact ⟨rfl, _, _, rfl, H1.sub (List.sublist_cons_self _ _) (fun _ h => h)⟩
/-- The vector, down to a place. -/
theorem vec_step1 {v : Int} (hv : 0 ≤ v ∧ v < 65536) : ∀ i : Nat, i < 14 → v / 2 ^ (14 - i) * 2 ^ (14 - i) + bitAt v (13 - i) 2 * 2 ^ (13 - i) = v / 2 ^ (14 - (i + 1)) * 2 ^ (14 - (i + 1)) := by
  intro i hi
  unfold bitAt
  have : i = 0 ∨ i = 1 ∨ i = 2 ∨ i = 3 ∨ i = 4 ∨ i = 5 ∨ i = 6 ∨ i = 7 ∨ i = 8 ∨ i = 9 ∨ i = 10 ∨ i = 11 ∨ i = 12 ∨ i = 13 := by omega
  rcases this with rfl | rfl | rfl | rfl | rfl | rfl | rfl | rfl | rfl | rfl | rfl | rfl | rfl | rfl <;> simp <;> omega
theorem vec_step2 {v : Int} (hv : 0 ≤ v ∧ v < 65536) : ∀ i : Nat, i < 7 → v / 2 ^ (14 - 2 * i) * 2 ^ (14 - 2 * i) + bitAt v (12 - 2 * i) 4 * 2 ^ (12 - 2 * i) = v / 2 ^ (14 - 2 * (i + 1)) * 2 ^ (14 - 2 * (i + 1)) := by
  intro i hi
  unfold bitAt
  have : i = 0 ∨ i = 1 ∨ i = 2 ∨ i = 3 ∨ i = 4 ∨ i = 5 ∨ i = 6 := by omega
  rcases this with rfl | rfl | rfl | rfl | rfl | rfl | rfl <;> simp <;> omega
theorem vecL_get {v S : Int} {t i : Nat} (h : i < t) : (vecL v S t).getD i 0 = if S = 0 then bitAt v (13 - i) 2 else bitAt v (12 - 2 * i) 4 := by
  unfold vecL
  rw [List.getD_eq_getElem?_getD, List.getElem?_map, List.getElem?_range h]
  rfl
end Go.Proofs.YtkdialecadjedaaGreat
