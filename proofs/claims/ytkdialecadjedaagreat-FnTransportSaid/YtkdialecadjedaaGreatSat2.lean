/- The lemmas of Sat at other places of the list of blocks (no statement of the seat is proved here; conditions: none). -/
import Derived.Test.YtkdialecadjedaaGreatSat
namespace Go.Proofs.YtkdialecadjedaaGreat
set_option linter.unusedVariables false
set_option linter.unusedSimpArgs false
set_option linter.unusedSectionVars false
open Go

theorem Sat.r1 {e0 x : Ex} {ex : List Ex} {ro : List Ro} {F : Fr} {w : World} (H : Sat F w (e0 :: x :: ex) ro) : Sat F w (x :: e0 :: ex) ro := H.perm (List.perm_middle (l₁ := [e0]) (l₂ := ex) (a := x))
theorem Sat.u1 {e0 x : Ex} {ex : List Ex} {ro : List Ro} {F : Fr} {w : World} (H : Sat F w (x :: e0 :: ex) ro) : Sat F w (e0 :: x :: ex) ro := H.perm (List.perm_middle (l₁ := [e0]) (l₂ := ex) (a := x)).symm
theorem Sat.b1 {e0 : Ex} {ex : List Ex} {ro : List Ro} {F : Fr} {w : World} {b : Nat} {t : TypeId} {l : List Value} (H : Sat F w (e0 :: .blk b t l :: ex) ro) : Blk w b t l := H.r1.b0
theorem sSt1 {e0 : Ex} {ex : List Ex} {ro : List Ro} {F : Fr} {w : World} {b : Nat} {ty : TypeId} {l : List Value} (H : Sat F w (e0 :: .blk b ty l :: ex) ro) {P : Program} {t : TypeId} {a : Addr} {i : Nat} {v : Value} {K : World → Prop} (ha : a = ⟨b, i, none⟩)
    (ht : sizeB P t v.cells.toList.length = true) (hi : Nat.ble (i + v.cells.toList.length) l.length = true) (h1 : v.cells.toList.all Value.oneCell' = true)
    (h : ∀ w', w.grownBy w' (some b) → Sat F w' (e0 :: .blk b ty (putL l i v.cells.toList) :: ex) ro → K w') : ∃ w', StV P t a v w w' ∧ K w' :=
  sSt0 H.r1 ha ht hi h1 fun w' hg H' => h w' hg H'.u1
theorem sSw1 {e0 : Ex} {ex : List Ex} {ro : List Ro} {F : Fr} {w : World} {b : Nat} {ty : TypeId} {l : List Value} (H : Sat F w (e0 :: .blk b ty l :: ex) ro) {P : Program} {t : TypeId} {a : Addr} {vs : List Value} {K : World → Prop} (ha : a = ⟨b, 0, none⟩)
    (ht : sizeB P t vs.length = true) (hi : Nat.beq vs.length l.length = true) (h1 : vs.all Value.oneCell' = true)
    (h : ∀ w', w.grownBy w' (some b) → Sat F w' (e0 :: .blk b ty vs :: ex) ro → K w') : ∃ w', StV P t a (.agg vs.toArray) w w' ∧ K w' :=
  sSw0 H.r1 ha ht hi h1 fun w' hg H' => h w' hg H'.u1
theorem sApp1 {e0 : Ex} {ex : List Ex} {ro : List Ro} {F : Fr} {w : World} {e : TypeId} {size : Nat} {a : Option Addr} {n c : Nat} {r : Option Nat} {ds : List Dat} (H : Sat F w (e0 :: .own e size a n c r ds :: ex) ro)
    {P : Program} {t ty : TypeId} {bytes : Nat} (hap : apT P t e size bytes = true) {ad : Addr} {m k : Nat} (news : List Value) (nds : List Dat) (hl : news.length = m * size) (hnews : ∀ j u, news[j]? = some u → w.cell? (ad.add j) = some u)
    (hD : ∀ G : Nat → Prop, (∀ r ∈ ro, Ro.holds w G r) → DeepL w G nds news) (h1 : ∀ u ∈ news, u.oneCell' = true) (h63 : n + m ≤ maxLen) (hbytes : (n + m) * bytes ≤ 140737488355328) {K : Option Addr → Nat → Nat → World → Prop}
    (hK : ∀ a' n' c' r' w', n' = n + m → w.grownBy w' r → Sat F w' (e0 :: .own e size a' n' c' r' (ds ++ nds) :: ex) ro → K a' n' c' w') :
    ∃ a' n' c', ∃ w', (Builtin.append_ #[t, t] ty #[.slice a n c, .slice (some ad) m k]).run P w = .ok (.slice a' n' c') w' ∧ K a' n' c' w' :=
  sApp0 H.r1 hap news nds hl hnews hD h1 h63 hbytes fun a' n' c' r' w' hn hg H' => hK a' n' c' r' w' hn hg H'.u1
theorem sPush1 {e0 : Ex} {ex : List Ex} {ro : List Ro} {F : Fr} {w : World} {e : TypeId} {size : Nat} {a : Option Addr} {n c : Nat} {r : Option Nat} {ds : List Dat} (H : Sat F w (e0 :: .own e size a n c r ds :: ex) ro)
    {P : Program} {t ty t' : TypeId} {bytes : Nat} (hap : apT P t e size bytes = true) {m k : Nat} {cs : Array Value} (nds : List Dat) (hl : cs.toList.length = m * size)
    (hD : ∀ G : Nat → Prop, (∀ r ∈ ro, Ro.holds w G r) → DeepL w G nds cs.toList) (h1 : cs.toList.all Value.oneCell' = true) (h63 : n + m ≤ maxLen) (hbytes : (n + m) * bytes ≤ 140737488355328) {K : Option Addr → Nat → Nat → World → Prop}
    (hK : ∀ a' n' c' r' w', n' = n + m → w.grownBy w' r → Sat F w' (e0 :: .own e size a' n' c' r' (ds ++ nds) :: ex) ro → K a' n' c' w') :
    gNew cs t' (fun p w1 => ∃ a' n' c', ∃ w', (Builtin.append_ #[t, t] ty #[.slice a n c, .slice (some p) m k]).run P w1 = .ok (.slice a' n' c') w' ∧ K a' n' c' w') w :=
  sPush0 H.r1 hap nds hl hD h1 h63 hbytes fun a' n' c' r' w' hn hg H' => hK a' n' c' r' w' hn hg H'.u1
theorem Sat.r2 {e0 e1 x : Ex} {ex : List Ex} {ro : List Ro} {F : Fr} {w : World} (H : Sat F w (e0 :: e1 :: x :: ex) ro) : Sat F w (x :: e0 :: e1 :: ex) ro := H.perm (List.perm_middle (l₁ := [e0, e1]) (l₂ := ex) (a := x))
theorem Sat.u2 {e0 e1 x : Ex} {ex : List Ex} {ro : List Ro} {F : Fr} {w : World} (H : Sat F w (x :: e0 :: e1 :: ex) ro) : Sat F w (e0 :: e1 :: x :: ex) ro := H.perm (List.perm_middle (l₁ := [e0, e1]) (l₂ := ex) (a := x)).symm
theorem Sat.b2 {e0 e1 : Ex} {ex : List Ex} {ro : List Ro} {F : Fr} {w : World} {b : Nat} {t : TypeId} {l : List Value} (H : Sat F w (e0 :: e1 :: .blk b t l :: ex) ro) : Blk w b t l := H.r2.b0
theorem sSt2 {e0 e1 : Ex} {ex : List Ex} {ro : List Ro} {F : Fr} {w : World} {b : Nat} {ty : TypeId} {l : List Value} (H : Sat F w (e0 :: e1 :: .blk b ty l :: ex) ro) {P : Program} {t : TypeId} {a : Addr} {i : Nat} {v : Value} {K : World → Prop} (ha : a = ⟨b, i, none⟩)
    (ht : sizeB P t v.cells.toList.length = true) (hi : Nat.ble (i + v.cells.toList.length) l.length = true) (h1 : v.cells.toList.all Value.oneCell' = true)
    (h : ∀ w', w.grownBy w' (some b) → Sat F w' (e0 :: e1 :: .blk b ty (putL l i v.cells.toList) :: ex) ro → K w') : ∃ w', StV P t a v w w' ∧ K w' :=
  sSt0 H.r2 ha ht hi h1 fun w' hg H' => h w' hg H'.u2
theorem sSw2 {e0 e1 : Ex} {ex : List Ex} {ro : List Ro} {F : Fr} {w : World} {b : Nat} {ty : TypeId} {l : List Value} (H : Sat F w (e0 :: e1 :: .blk b ty l :: ex) ro) {P : Program} {t : TypeId} {a : Addr} {vs : List Value} {K : World → Prop} (ha : a = ⟨b, 0, none⟩)
    (ht : sizeB P t vs.length = true) (hi : Nat.beq vs.length l.length = true) (h1 : vs.all Value.oneCell' = true)
    (h : ∀ w', w.grownBy w' (some b) → Sat F w' (e0 :: e1 :: .blk b ty vs :: ex) ro → K w') : ∃ w', StV P t a (.agg vs.toArray) w w' ∧ K w' :=
  sSw0 H.r2 ha ht hi h1 fun w' hg H' => h w' hg H'.u2
theorem sApp2 {e0 e1 : Ex} {ex : List Ex} {ro : List Ro} {F : Fr} {w : World} {e : TypeId} {size : Nat} {a : Option Addr} {n c : Nat} {r : Option Nat} {ds : List Dat} (H : Sat F w (e0 :: e1 :: .own e size a n c r ds :: ex) ro)
    {P : Program} {t ty : TypeId} {bytes : Nat} (hap : apT P t e size bytes = true) {ad : Addr} {m k : Nat} (news : List Value) (nds : List Dat) (hl : news.length = m * size) (hnews : ∀ j u, news[j]? = some u → w.cell? (ad.add j) = some u)
    (hD : ∀ G : Nat → Prop, (∀ r ∈ ro, Ro.holds w G r) → DeepL w G nds news) (h1 : ∀ u ∈ news, u.oneCell' = true) (h63 : n + m ≤ maxLen) (hbytes : (n + m) * bytes ≤ 140737488355328) {K : Option Addr → Nat → Nat → World → Prop}
    (hK : ∀ a' n' c' r' w', n' = n + m → w.grownBy w' r → Sat F w' (e0 :: e1 :: .own e size a' n' c' r' (ds ++ nds) :: ex) ro → K a' n' c' w') :
    ∃ a' n' c', ∃ w', (Builtin.append_ #[t, t] ty #[.slice a n c, .slice (some ad) m k]).run P w = .ok (.slice a' n' c') w' ∧ K a' n' c' w' :=
  sApp0 H.r2 hap news nds hl hnews hD h1 h63 hbytes fun a' n' c' r' w' hn hg H' => hK a' n' c' r' w' hn hg H'.u2
theorem sPush2 {e0 e1 : Ex} {ex : List Ex} {ro : List Ro} {F : Fr} {w : World} {e : TypeId} {size : Nat} {a : Option Addr} {n c : Nat} {r : Option Nat} {ds : List Dat} (H : Sat F w (e0 :: e1 :: .own e size a n c r ds :: ex) ro)
    {P : Program} {t ty t' : TypeId} {bytes : Nat} (hap : apT P t e size bytes = true) {m k : Nat} {cs : Array Value} (nds : List Dat) (hl : cs.toList.length = m * size)
    (hD : ∀ G : Nat → Prop, (∀ r ∈ ro, Ro.holds w G r) → DeepL w G nds cs.toList) (h1 : cs.toList.all Value.oneCell' = true) (h63 : n + m ≤ maxLen) (hbytes : (n + m) * bytes ≤ 140737488355328) {K : Option Addr → Nat → Nat → World → Prop}
    (hK : ∀ a' n' c' r' w', n' = n + m → w.grownBy w' r → Sat F w' (e0 :: e1 :: .own e size a' n' c' r' (ds ++ nds) :: ex) ro → K a' n' c' w') :
    gNew cs t' (fun p w1 => ∃ a' n' c', ∃ w', (Builtin.append_ #[t, t] ty #[.slice a n c, .slice (some p) m k]).run P w1 = .ok (.slice a' n' c') w' ∧ K a' n' c' w') w :=
  sPush0 H.r2 hap nds hl hD h1 h63 hbytes fun a' n' c' r' w' hn hg H' => hK a' n' c' r' w' hn hg H'.u2
theorem Sat.r3 {e0 e1 e2 x : Ex} {ex : List Ex} {ro : List Ro} {F : Fr} {w : World} (H : Sat F w (e0 :: e1 :: e2 :: x :: ex) ro) : Sat F w (x :: e0 :: e1 :: e2 :: ex) ro := H.perm (List.perm_middle (l₁ := [e0, e1, e2]) (l₂ := ex) (a := x))
theorem Sat.u3 {e0 e1 e2 x : Ex} {ex : List Ex} {ro : List Ro} {F : Fr} {w : World} (H : Sat F w (x :: e0 :: e1 :: e2 :: ex) ro) : Sat F w (e0 :: e1 :: e2 :: x :: ex) ro := H.perm (List.perm_middle (l₁ := [e0, e1, e2]) (l₂ := ex) (a := x)).symm
theorem Sat.b3 {e0 e1 e2 : Ex} {ex : List Ex} {ro : List Ro} {F : Fr} {w : World} {b : Nat} {t : TypeId} {l : List Value} (H : Sat F w (e0 :: e1 :: e2 :: .blk b t l :: ex) ro) : Blk w b t l := H.r3.b0
theorem sSt3 {e0 e1 e2 : Ex} {ex : List Ex} {ro : List Ro} {F : Fr} {w : World} {b : Nat} {ty : TypeId} {l : List Value} (H : Sat F w (e0 :: e1 :: e2 :: .blk b ty l :: ex) ro) {P : Program} {t : TypeId} {a : Addr} {i : Nat} {v : Value} {K : World → Prop} (ha : a = ⟨b, i, none⟩)
    (ht : sizeB P t v.cells.toList.length = true) (hi : Nat.ble (i + v.cells.toList.length) l.length = true) (h1 : v.cells.toList.all Value.oneCell' = true)
    (h : ∀ w', w.grownBy w' (some b) → Sat F w' (e0 :: e1 :: e2 :: .blk b ty (putL l i v.cells.toList) :: ex) ro → K w') : ∃ w', StV P t a v w w' ∧ K w' :=
  sSt0 H.r3 ha ht hi h1 fun w' hg H' => h w' hg H'.u3
theorem sSw3 {e0 e1 e2 : Ex} {ex : List Ex} {ro : List Ro} {F : Fr} {w : World} {b : Nat} {ty : TypeId} {l : List Value} (H : Sat F w (e0 :: e1 :: e2 :: .blk b ty l :: ex) ro) {P : Program} {t : TypeId} {a : Addr} {vs : List Value} {K : World → Prop} (ha : a = ⟨b, 0, none⟩)
    (ht : sizeB P t vs.length = true) (hi : Nat.beq vs.length l.length = true) (h1 : vs.all Value.oneCell' = true)
    (h : ∀ w', w.grownBy w' (some b) → Sat F w' (e0 :: e1 :: e2 :: .blk b ty vs :: ex) ro → K w') : ∃ w', StV P t a (.agg vs.toArray) w w' ∧ K w' :=
  sSw0 H.r3 ha ht hi h1 fun w' hg H' => h w' hg H'.u3
theorem sApp3 {e0 e1 e2 : Ex} {ex : List Ex} {ro : List Ro} {F : Fr} {w : World} {e : TypeId} {size : Nat} {a : Option Addr} {n c : Nat} {r : Option Nat} {ds : List Dat} (H : Sat F w (e0 :: e1 :: e2 :: .own e size a n c r ds :: ex) ro)
    {P : Program} {t ty : TypeId} {bytes : Nat} (hap : apT P t e size bytes = true) {ad : Addr} {m k : Nat} (news : List Value) (nds : List Dat) (hl : news.length = m * size) (hnews : ∀ j u, news[j]? = some u → w.cell? (ad.add j) = some u)
    (hD : ∀ G : Nat → Prop, (∀ r ∈ ro, Ro.holds w G r) → DeepL w G nds news) (h1 : ∀ u ∈ news, u.oneCell' = true) (h63 : n + m ≤ maxLen) (hbytes : (n + m) * bytes ≤ 140737488355328) {K : Option Addr → Nat → Nat → World → Prop}
    (hK : ∀ a' n' c' r' w', n' = n + m → w.grownBy w' r → Sat F w' (e0 :: e1 :: e2 :: .own e size a' n' c' r' (ds ++ nds) :: ex) ro → K a' n' c' w') :
    ∃ a' n' c', ∃ w', (Builtin.append_ #[t, t] ty #[.slice a n c, .slice (some ad) m k]).run P w = .ok (.slice a' n' c') w' ∧ K a' n' c' w' :=
  sApp0 H.r3 hap news nds hl hnews hD h1 h63 hbytes fun a' n' c' r' w' hn hg H' => hK a' n' c' r' w' hn hg H'.u3
theorem sPush3 {e0 e1 e2 : Ex} {ex : List Ex} {ro : List Ro} {F : Fr} {w : World} {e : TypeId} {size : Nat} {a : Option Addr} {n c : Nat} {r : Option Nat} {ds : List Dat} (H : Sat F w (e0 :: e1 :: e2 :: .own e size a n c r ds :: ex) ro)
    {P : Program} {t ty t' : TypeId} {bytes : Nat} (hap : apT P t e size bytes = true) {m k : Nat} {cs : Array Value} (nds : List Dat) (hl : cs.toList.length = m * size)
    (hD : ∀ G : Nat → Prop, (∀ r ∈ ro, Ro.holds w G r) → DeepL w G nds cs.toList) (h1 : cs.toList.all Value.oneCell' = true) (h63 : n + m ≤ maxLen) (hbytes : (n + m) * bytes ≤ 140737488355328) {K : Option Addr → Nat → Nat → World → Prop}
    (hK : ∀ a' n' c' r' w', n' = n + m → w.grownBy w' r → Sat F w' (e0 :: e1 :: e2 :: .own e size a' n' c' r' (ds ++ nds) :: ex) ro → K a' n' c' w') :
    gNew cs t' (fun p w1 => ∃ a' n' c', ∃ w', (Builtin.append_ #[t, t] ty #[.slice a n c, .slice (some p) m k]).run P w1 = .ok (.slice a' n' c') w' ∧ K a' n' c' w') w :=
  sPush0 H.r3 hap nds hl hD h1 h63 hbytes fun a' n' c' r' w' hn hg H' => hK a' n' c' r' w' hn hg H'.u3
theorem Sat.r4 {e0 e1 e2 e3 x : Ex} {ex : List Ex} {ro : List Ro} {F : Fr} {w : World} (H : Sat F w (e0 :: e1 :: e2 :: e3 :: x :: ex) ro) : Sat F w (x :: e0 :: e1 :: e2 :: e3 :: ex) ro := H.perm (List.perm_middle (l₁ := [e0, e1, e2, e3]) (l₂ := ex) (a := x))
theorem Sat.u4 {e0 e1 e2 e3 x : Ex} {ex : List Ex} {ro : List Ro} {F : Fr} {w : World} (H : Sat F w (x :: e0 :: e1 :: e2 :: e3 :: ex) ro) : Sat F w (e0 :: e1 :: e2 :: e3 :: x :: ex) ro := H.perm (List.perm_middle (l₁ := [e0, e1, e2, e3]) (l₂ := ex) (a := x)).symm
theorem Sat.b4 {e0 e1 e2 e3 : Ex} {ex : List Ex} {ro : List Ro} {F : Fr} {w : World} {b : Nat} {t : TypeId} {l : List Value} (H : Sat F w (e0 :: e1 :: e2 :: e3 :: .blk b t l :: ex) ro) : Blk w b t l := H.r4.b0
theorem sSt4 {e0 e1 e2 e3 : Ex} {ex : List Ex} {ro : List Ro} {F : Fr} {w : World} {b : Nat} {ty : TypeId} {l : List Value} (H : Sat F w (e0 :: e1 :: e2 :: e3 :: .blk b ty l :: ex) ro) {P : Program} {t : TypeId} {a : Addr} {i : Nat} {v : Value} {K : World → Prop} (ha : a = ⟨b, i, none⟩)
    (ht : sizeB P t v.cells.toList.length = true) (hi : Nat.ble (i + v.cells.toList.length) l.length = true) (h1 : v.cells.toList.all Value.oneCell' = true)
    (h : ∀ w', w.grownBy w' (some b) → Sat F w' (e0 :: e1 :: e2 :: e3 :: .blk b ty (putL l i v.cells.toList) :: ex) ro → K w') : ∃ w', StV P t a v w w' ∧ K w' :=
  sSt0 H.r4 ha ht hi h1 fun w' hg H' => h w' hg H'.u4
theorem sSw4 {e0 e1 e2 e3 : Ex} {ex : List Ex} {ro : List Ro} {F : Fr} {w : World} {b : Nat} {ty : TypeId} {l : List Value} (H : Sat F w (e0 :: e1 :: e2 :: e3 :: .blk b ty l :: ex) ro) {P : Program} {t : TypeId} {a : Addr} {vs : List Value} {K : World → Prop} (ha : a = ⟨b, 0, none⟩)
    (ht : sizeB P t vs.length = true) (hi : Nat.beq vs.length l.length = true) (h1 : vs.all Value.oneCell' = true)
    (h : ∀ w', w.grownBy w' (some b) → Sat F w' (e0 :: e1 :: e2 :: e3 :: .blk b ty vs :: ex) ro → K w') : ∃ w', StV P t a (.agg vs.toArray) w w' ∧ K w' :=
  sSw0 H.r4 ha ht hi h1 fun w' hg H' => h w' hg H'.u4
theorem sApp4 {e0 e1 e2 e3 : Ex} {ex : List Ex} {ro : List Ro} {F : Fr} {w : World} {e : TypeId} {size : Nat} {a : Option Addr} {n c : Nat} {r : Option Nat} {ds : List Dat} (H : Sat F w (e0 :: e1 :: e2 :: e3 :: .own e size a n c r ds :: ex) ro)
    {P : Program} {t ty : TypeId} {bytes : Nat} (hap : apT P t e size bytes = true) {ad : Addr} {m k : Nat} (news : List Value) (nds : List Dat) (hl : news.length = m * size) (hnews : ∀ j u, news[j]? = some u → w.cell? (ad.add j) = some u)
    (hD : ∀ G : Nat → Prop, (∀ r ∈ ro, Ro.holds w G r) → DeepL w G nds news) (h1 : ∀ u ∈ news, u.oneCell' = true) (h63 : n + m ≤ maxLen) (hbytes : (n + m) * bytes ≤ 140737488355328) {K : Option Addr → Nat → Nat → World → Prop}
    (hK : ∀ a' n' c' r' w', n' = n + m → w.grownBy w' r → Sat F w' (e0 :: e1 :: e2 :: e3 :: .own e size a' n' c' r' (ds ++ nds) :: ex) ro → K a' n' c' w') :
    ∃ a' n' c', ∃ w', (Builtin.append_ #[t, t] ty #[.slice a n c, .slice (some ad) m k]).run P w = .ok (.slice a' n' c') w' ∧ K a' n' c' w' :=
  sApp0 H.r4 hap news nds hl hnews hD h1 h63 hbytes fun a' n' c' r' w' hn hg H' => hK a' n' c' r' w' hn hg H'.u4
theorem sPush4 {e0 e1 e2 e3 : Ex} {ex : List Ex} {ro : List Ro} {F : Fr} {w : World} {e : TypeId} {size : Nat} {a : Option Addr} {n c : Nat} {r : Option Nat} {ds : List Dat} (H : Sat F w (e0 :: e1 :: e2 :: e3 :: .own e size a n c r ds :: ex) ro)
    {P : Program} {t ty t' : TypeId} {bytes : Nat} (hap : apT P t e size bytes = true) {m k : Nat} {cs : Array Value} (nds : List Dat) (hl : cs.toList.length = m * size)
    (hD : ∀ G : Nat → Prop, (∀ r ∈ ro, Ro.holds w G r) → DeepL w G nds cs.toList) (h1 : cs.toList.all Value.oneCell' = true) (h63 : n + m ≤ maxLen) (hbytes : (n + m) * bytes ≤ 140737488355328) {K : Option Addr → Nat → Nat → World → Prop}
    (hK : ∀ a' n' c' r' w', n' = n + m → w.grownBy w' r → Sat F w' (e0 :: e1 :: e2 :: e3 :: .own e size a' n' c' r' (ds ++ nds) :: ex) ro → K a' n' c' w') :
    gNew cs t' (fun p w1 => ∃ a' n' c', ∃ w', (Builtin.append_ #[t, t] ty #[.slice a n c, .slice (some p) m k]).run P w1 = .ok (.slice a' n' c') w' ∧ K a' n' c' w') w :=
  sPush0 H.r4 hap nds hl hD h1 h63 hbytes fun a' n' c' r' w' hn hg H' => hK a' n' c' r' w' hn hg H'.u4
theorem Sat.r5 {e0 e1 e2 e3 e4 x : Ex} {ex : List Ex} {ro : List Ro} {F : Fr} {w : World} (H : Sat F w (e0 :: e1 :: e2 :: e3 :: e4 :: x :: ex) ro) : Sat F w (x :: e0 :: e1 :: e2 :: e3 :: e4 :: ex) ro := H.perm (List.perm_middle (l₁ := [e0, e1, e2, e3, e4]) (l₂ := ex) (a := x))
theorem Sat.u5 {e0 e1 e2 e3 e4 x : Ex} {ex : List Ex} {ro : List Ro} {F : Fr} {w : World} (H : Sat F w (x :: e0 :: e1 :: e2 :: e3 :: e4 :: ex) ro) : Sat F w (e0 :: e1 :: e2 :: e3 :: e4 :: x :: ex) ro := H.perm (List.perm_middle (l₁ := [e0, e1, e2, e3, e4]) (l₂ := ex) (a := x)).symm
theorem Sat.b5 {e0 e1 e2 e3 e4 : Ex} {ex : List Ex} {ro : List Ro} {F : Fr} {w : World} {b : Nat} {t : TypeId} {l : List Value} (H : Sat F w (e0 :: e1 :: e2 :: e3 :: e4 :: .blk b t l :: ex) ro) : Blk w b t l := H.r5.b0
theorem sSt5 {e0 e1 e2 e3 e4 : Ex} {ex : List Ex} {ro : List Ro} {F : Fr} {w : World} {b : Nat} {ty : TypeId} {l : List Value} (H : Sat F w (e0 :: e1 :: e2 :: e3 :: e4 :: .blk b ty l :: ex) ro) {P : Program} {t : TypeId} {a : Addr} {i : Nat} {v : Value} {K : World → Prop} (ha : a = ⟨b, i, none⟩)
    (ht : sizeB P t v.cells.toList.length = true) (hi : Nat.ble (i + v.cells.toList.length) l.length = true) (h1 : v.cells.toList.all Value.oneCell' = true)
    (h : ∀ w', w.grownBy w' (some b) → Sat F w' (e0 :: e1 :: e2 :: e3 :: e4 :: .blk b ty (putL l i v.cells.toList) :: ex) ro → K w') : ∃ w', StV P t a v w w' ∧ K w' :=
  sSt0 H.r5 ha ht hi h1 fun w' hg H' => h w' hg H'.u5
theorem sSw5 {e0 e1 e2 e3 e4 : Ex} {ex : List Ex} {ro : List Ro} {F : Fr} {w : World} {b : Nat} {ty : TypeId} {l : List Value} (H : Sat F w (e0 :: e1 :: e2 :: e3 :: e4 :: .blk b ty l :: ex) ro) {P : Program} {t : TypeId} {a : Addr} {vs : List Value} {K : World → Prop} (ha : a = ⟨b, 0, none⟩)
    (ht : sizeB P t vs.length = true) (hi : Nat.beq vs.length l.length = true) (h1 : vs.all Value.oneCell' = true)
    (h : ∀ w', w.grownBy w' (some b) → Sat F w' (e0 :: e1 :: e2 :: e3 :: e4 :: .blk b ty vs :: ex) ro → K w') : ∃ w', StV P t a (.agg vs.toArray) w w' ∧ K w' :=
  sSw0 H.r5 ha ht hi h1 fun w' hg H' => h w' hg H'.u5
theorem sApp5 {e0 e1 e2 e3 e4 : Ex} {ex : List Ex} {ro : List Ro} {F : Fr} {w : World} {e : TypeId} {size : Nat} {a : Option Addr} {n c : Nat} {r : Option Nat} {ds : List Dat} (H : Sat F w (e0 :: e1 :: e2 :: e3 :: e4 :: .own e size a n c r ds :: ex) ro)
    {P : Program} {t ty : TypeId} {bytes : Nat} (hap : apT P t e size bytes = true) {ad : Addr} {m k : Nat} (news : List Value) (nds : List Dat) (hl : news.length = m * size) (hnews : ∀ j u, news[j]? = some u → w.cell? (ad.add j) = some u)
    (hD : ∀ G : Nat → Prop, (∀ r ∈ ro, Ro.holds w G r) → DeepL w G nds news) (h1 : ∀ u ∈ news, u.oneCell' = true) (h63 : n + m ≤ maxLen) (hbytes : (n + m) * bytes ≤ 140737488355328) {K : Option Addr → Nat → Nat → World → Prop}
    (hK : ∀ a' n' c' r' w', n' = n + m → w.grownBy w' r → Sat F w' (e0 :: e1 :: e2 :: e3 :: e4 :: .own e size a' n' c' r' (ds ++ nds) :: ex) ro → K a' n' c' w') :
    ∃ a' n' c', ∃ w', (Builtin.append_ #[t, t] ty #[.slice a n c, .slice (some ad) m k]).run P w = .ok (.slice a' n' c') w' ∧ K a' n' c' w' :=
  sApp0 H.r5 hap news nds hl hnews hD h1 h63 hbytes fun a' n' c' r' w' hn hg H' => hK a' n' c' r' w' hn hg H'.u5
theorem sPush5 {e0 e1 e2 e3 e4 : Ex} {ex : List Ex} {ro : List Ro} {F : Fr} {w : World} {e : TypeId} {size : Nat} {a : Option Addr} {n c : Nat} {r : Option Nat} {ds : List Dat} (H : Sat F w (e0 :: e1 :: e2 :: e3 :: e4 :: .own e size a n c r ds :: ex) ro)
    {P : Program} {t ty t' : TypeId} {bytes : Nat} (hap : apT P t e size bytes = true) {m k : Nat} {cs : Array Value} (nds : List Dat) (hl : cs.toList.length = m * size)
    (hD : ∀ G : Nat → Prop, (∀ r ∈ ro, Ro.holds w G r) → DeepL w G nds cs.toList) (h1 : cs.toList.all Value.oneCell' = true) (h63 : n + m ≤ maxLen) (hbytes : (n + m) * bytes ≤ 140737488355328) {K : Option Addr → Nat → Nat → World → Prop}
    (hK : ∀ a' n' c' r' w', n' = n + m → w.grownBy w' r → Sat F w' (e0 :: e1 :: e2 :: e3 :: e4 :: .own e size a' n' c' r' (ds ++ nds) :: ex) ro → K a' n' c' w') :
    gNew cs t' (fun p w1 => ∃ a' n' c', ∃ w', (Builtin.append_ #[t, t] ty #[.slice a n c, .slice (some p) m k]).run P w1 = .ok (.slice a' n' c') w' ∧ K a' n' c' w') w :=
  sPush0 H.r5 hap nds hl hD h1 h63 hbytes fun a' n' c' r' w' hn hg H' => hK a' n' c' r' w' hn hg H'.u5
theorem Sat.r6 {e0 e1 e2 e3 e4 e5 x : Ex} {ex : List Ex} {ro : List Ro} {F : Fr} {w : World} (H : Sat F w (e0 :: e1 :: e2 :: e3 :: e4 :: e5 :: x :: ex) ro) : Sat F w (x :: e0 :: e1 :: e2 :: e3 :: e4 :: e5 :: ex) ro := H.perm (List.perm_middle (l₁ := [e0, e1, e2, e3, e4, e5]) (l₂ := ex) (a := x))
theorem Sat.u6 {e0 e1 e2 e3 e4 e5 x : Ex} {ex : List Ex} {ro : List Ro} {F : Fr} {w : World} (H : Sat F w (x :: e0 :: e1 :: e2 :: e3 :: e4 :: e5 :: ex) ro) : Sat F w (e0 :: e1 :: e2 :: e3 :: e4 :: e5 :: x :: ex) ro := H.perm (List.perm_middle (l₁ := [e0, e1, e2, e3, e4, e5]) (l₂ := ex) (a := x)).symm
theorem Sat.b6 {e0 e1 e2 e3 e4 e5 : Ex} {ex : List Ex} {ro : List Ro} {F : Fr} {w : World} {b : Nat} {t : TypeId} {l : List Value} (H : Sat F w (e0 :: e1 :: e2 :: e3 :: e4 :: e5 :: .blk b t l :: ex) ro) : Blk w b t l := H.r6.b0
theorem sSt6 {e0 e1 e2 e3 e4 e5 : Ex} {ex : List Ex} {ro : List Ro} {F : Fr} {w : World} {b : Nat} {ty : TypeId} {l : List Value} (H : Sat F w (e0 :: e1 :: e2 :: e3 :: e4 :: e5 :: .blk b ty l :: ex) ro) {P : Program} {t : TypeId} {a : Addr} {i : Nat} {v : Value} {K : World → Prop} (ha : a = ⟨b, i, none⟩)
    (ht : sizeB P t v.cells.toList.length = true) (hi : Nat.ble (i + v.cells.toList.length) l.length = true) (h1 : v.cells.toList.all Value.oneCell' = true)
    (h : ∀ w', w.grownBy w' (some b) → Sat F w' (e0 :: e1 :: e2 :: e3 :: e4 :: e5 :: .blk b ty (putL l i v.cells.toList) :: ex) ro → K w') : ∃ w', StV P t a v w w' ∧ K w' :=
  sSt0 H.r6 ha ht hi h1 fun w' hg H' => h w' hg H'.u6
theorem sSw6 {e0 e1 e2 e3 e4 e5 : Ex} {ex : List Ex} {ro : List Ro} {F : Fr} {w : World} {b : Nat} {ty : TypeId} {l : List Value} (H : Sat F w (e0 :: e1 :: e2 :: e3 :: e4 :: e5 :: .blk b ty l :: ex) ro) {P : Program} {t : TypeId} {a : Addr} {vs : List Value} {K : World → Prop} (ha : a = ⟨b, 0, none⟩)
    (ht : sizeB P t vs.length = true) (hi : Nat.beq vs.length l.length = true) (h1 : vs.all Value.oneCell' = true)
    (h : ∀ w', w.grownBy w' (some b) → Sat F w' (e0 :: e1 :: e2 :: e3 :: e4 :: e5 :: .blk b ty vs :: ex) ro → K w') : ∃ w', StV P t a (.agg vs.toArray) w w' ∧ K w' :=
  sSw0 H.r6 ha ht hi h1 fun w' hg H' => h w' hg H'.u6
theorem sApp6 {e0 e1 e2 e3 e4 e5 : Ex} {ex : List Ex} {ro : List Ro} {F : Fr} {w : World} {e : TypeId} {size : Nat} {a : Option Addr} {n c : Nat} {r : Option Nat} {ds : List Dat} (H : Sat F w (e0 :: e1 :: e2 :: e3 :: e4 :: e5 :: .own e size a n c r ds :: ex) ro)
    {P : Program} {t ty : TypeId} {bytes : Nat} (hap : apT P t e size bytes = true) {ad : Addr} {m k : Nat} (news : List Value) (nds : List Dat) (hl : news.length = m * size) (hnews : ∀ j u, news[j]? = some u → w.cell? (ad.add j) = some u)
    (hD : ∀ G : Nat → Prop, (∀ r ∈ ro, Ro.holds w G r) → DeepL w G nds news) (h1 : ∀ u ∈ news, u.oneCell' = true) (h63 : n + m ≤ maxLen) (hbytes : (n + m) * bytes ≤ 140737488355328) {K : Option Addr → Nat → Nat → World → Prop}
    (hK : ∀ a' n' c' r' w', n' = n + m → w.grownBy w' r → Sat F w' (e0 :: e1 :: e2 :: e3 :: e4 :: e5 :: .own e size a' n' c' r' (ds ++ nds) :: ex) ro → K a' n' c' w') :
    ∃ a' n' c', ∃ w', (Builtin.append_ #[t, t] ty #[.slice a n c, .slice (some ad) m k]).run P w = .ok (.slice a' n' c') w' ∧ K a' n' c' w' :=
  sApp0 H.r6 hap news nds hl hnews hD h1 h63 hbytes fun a' n' c' r' w' hn hg H' => hK a' n' c' r' w' hn hg H'.u6
theorem sPush6 {e0 e1 e2 e3 e4 e5 : Ex} {ex : List Ex} {ro : List Ro} {F : Fr} {w : World} {e : TypeId} {size : Nat} {a : Option Addr} {n c : Nat} {r : Option Nat} {ds : List Dat} (H : Sat F w (e0 :: e1 :: e2 :: e3 :: e4 :: e5 :: .own e size a n c r ds :: ex) ro)
    {P : Program} {t ty t' : TypeId} {bytes : Nat} (hap : apT P t e size bytes = true) {m k : Nat} {cs : Array Value} (nds : List Dat) (hl : cs.toList.length = m * size)
    (hD : ∀ G : Nat → Prop, (∀ r ∈ ro, Ro.holds w G r) → DeepL w G nds cs.toList) (h1 : cs.toList.all Value.oneCell' = true) (h63 : n + m ≤ maxLen) (hbytes : (n + m) * bytes ≤ 140737488355328) {K : Option Addr → Nat → Nat → World → Prop}
    (hK : ∀ a' n' c' r' w', n' = n + m → w.grownBy w' r → Sat F w' (e0 :: e1 :: e2 :: e3 :: e4 :: e5 :: .own e size a' n' c' r' (ds ++ nds) :: ex) ro → K a' n' c' w') :
    gNew cs t' (fun p w1 => ∃ a' n' c', ∃ w', (Builtin.append_ #[t, t] ty #[.slice a n c, .slice (some p) m k]).run P w1 = .ok (.slice a' n' c') w' ∧ K a' n' c' w') w :=
  sPush0 H.r6 hap nds hl hD h1 h63 hbytes fun a' n' c' r' w' hn hg H' => hK a' n' c' r' w' hn hg H'.u6
theorem Sat.r7 {e0 e1 e2 e3 e4 e5 e6 x : Ex} {ex : List Ex} {ro : List Ro} {F : Fr} {w : World} (H : Sat F w (e0 :: e1 :: e2 :: e3 :: e4 :: e5 :: e6 :: x :: ex) ro) : Sat F w (x :: e0 :: e1 :: e2 :: e3 :: e4 :: e5 :: e6 :: ex) ro := H.perm (List.perm_middle (l₁ := [e0, e1, e2, e3, e4, e5, e6]) (l₂ := ex) (a := x))
theorem Sat.u7 {e0 e1 e2 e3 e4 e5 e6 x : Ex} {ex : List Ex} {ro : List Ro} {F : Fr} {w : World} (H : Sat F w (x :: e0 :: e1 :: e2 :: e3 :: e4 :: e5 :: e6 :: ex) ro) : Sat F w (e0 :: e1 :: e2 :: e3 :: e4 :: e5 :: e6 :: x :: ex) ro := H.perm (List.perm_middle (l₁ := [e0, e1, e2, e3, e4, e5, e6]) (l₂ := ex) (a := x)).symm
theorem Sat.b7 {e0 e1 e2 e3 e4 e5 e6 : Ex} {ex : List Ex} {ro : List Ro} {F : Fr} {w : World} {b : Nat} {t : TypeId} {l : List Value} (H : Sat F w (e0 :: e1 :: e2 :: e3 :: e4 :: e5 :: e6 :: .blk b t l :: ex) ro) : Blk w b t l := H.r7.b0
theorem sSt7 {e0 e1 e2 e3 e4 e5 e6 : Ex} {ex : List Ex} {ro : List Ro} {F : Fr} {w : World} {b : Nat} {ty : TypeId} {l : List Value} (H : Sat F w (e0 :: e1 :: e2 :: e3 :: e4 :: e5 :: e6 :: .blk b ty l :: ex) ro) {P : Program} {t : TypeId} {a : Addr} {i : Nat} {v : Value} {K : World → Prop} (ha : a = ⟨b, i, none⟩)
    (ht : sizeB P t v.cells.toList.length = true) (hi : Nat.ble (i + v.cells.toList.length) l.length = true) (h1 : v.cells.toList.all Value.oneCell' = true)
    (h : ∀ w', w.grownBy w' (some b) → Sat F w' (e0 :: e1 :: e2 :: e3 :: e4 :: e5 :: e6 :: .blk b ty (putL l i v.cells.toList) :: ex) ro → K w') : ∃ w', StV P t a v w w' ∧ K w' :=
  sSt0 H.r7 ha ht hi h1 fun w' hg H' => h w' hg H'.u7
theorem sSw7 {e0 e1 e2 e3 e4 e5 e6 : Ex} {ex : List Ex} {ro : List Ro} {F : Fr} {w : World} {b : Nat} {ty : TypeId} {l : List Value} (H : Sat F w (e0 :: e1 :: e2 :: e3 :: e4 :: e5 :: e6 :: .blk b ty l :: ex) ro) {P : Program} {t : TypeId} {a : Addr} {vs : List Value} {K : World → Prop} (ha : a = ⟨b, 0, none⟩)
    (ht : sizeB P t vs.length = true) (hi : Nat.beq vs.length l.length = true) (h1 : vs.all Value.oneCell' = true)
    (h : ∀ w', w.grownBy w' (some b) → Sat F w' (e0 :: e1 :: e2 :: e3 :: e4 :: e5 :: e6 :: .blk b ty vs :: ex) ro → K w') : ∃ w', StV P t a (.agg vs.toArray) w w' ∧ K w' :=
  sSw0 H.r7 ha ht hi h1 fun w' hg H' => h w' hg H'.u7
theorem sApp7 {e0 e1 e2 e3 e4 e5 e6 : Ex} {ex : List Ex} {ro : List Ro} {F : Fr} {w : World} {e : TypeId} {size : Nat} {a : Option Addr} {n c : Nat} {r : Option Nat} {ds : List Dat} (H : Sat F w (e0 :: e1 :: e2 :: e3 :: e4 :: e5 :: e6 :: .own e size a n c r ds :: ex) ro)
    {P : Program} {t ty : TypeId} {bytes : Nat} (hap : apT P t e size bytes = true) {ad : Addr} {m k : Nat} (news : List Value) (nds : List Dat) (hl : news.length = m * size) (hnews : ∀ j u, news[j]? = some u → w.cell? (ad.add j) = some u)
    (hD : ∀ G : Nat → Prop, (∀ r ∈ ro, Ro.holds w G r) → DeepL w G nds news) (h1 : ∀ u ∈ news, u.oneCell' = true) (h63 : n + m ≤ maxLen) (hbytes : (n + m) * bytes ≤ 140737488355328) {K : Option Addr → Nat → Nat → World → Prop}
    (hK : ∀ a' n' c' r' w', n' = n + m → w.grownBy w' r → Sat F w' (e0 :: e1 :: e2 :: e3 :: e4 :: e5 :: e6 :: .own e size a' n' c' r' (ds ++ nds) :: ex) ro → K a' n' c' w') :
    ∃ a' n' c', ∃ w', (Builtin.append_ #[t, t] ty #[.slice a n c, .slice (some ad) m k]).run P w = .ok (.slice a' n' c') w' ∧ K a' n' c' w' :=
  sApp0 H.r7 hap news nds hl hnews hD h1 h63 hbytes fun a' n' c' r' w' hn hg H' => hK a' n' c' r' w' hn hg H'.u7
theorem sPush7 {e0 e1 e2 e3 e4 e5 e6 : Ex} {ex : List Ex} {ro : List Ro} {F : Fr} {w : World} {e : TypeId} {size : Nat} {a : Option Addr} {n c : Nat} {r : Option Nat} {ds : List Dat} (H : Sat F w (e0 :: e1 :: e2 :: e3 :: e4 :: e5 :: e6 :: .own e size a n c r ds :: ex) ro)
    {P : Program} {t ty t' : TypeId} {bytes : Nat} (hap : apT P t e size bytes = true) {m k : Nat} {cs : Array Value} (nds : List Dat) (hl : cs.toList.length = m * size)
    (hD : ∀ G : Nat → Prop, (∀ r ∈ ro, Ro.holds w G r) → DeepL w G nds cs.toList) (h1 : cs.toList.all Value.oneCell' = true) (h63 : n + m ≤ maxLen) (hbytes : (n + m) * bytes ≤ 140737488355328) {K : Option Addr → Nat → Nat → World → Prop}
    (hK : ∀ a' n' c' r' w', n' = n + m → w.grownBy w' r → Sat F w' (e0 :: e1 :: e2 :: e3 :: e4 :: e5 :: e6 :: .own e size a' n' c' r' (ds ++ nds) :: ex) ro → K a' n' c' w') :
    gNew cs t' (fun p w1 => ∃ a' n' c', ∃ w', (Builtin.append_ #[t, t] ty #[.slice a n c, .slice (some p) m k]).run P w1 = .ok (.slice a' n' c') w' ∧ K a' n' c' w') w :=
  sPush0 H.r7 hap nds hl hD h1 h63 hbytes fun a' n' c' r' w' hn hg H' => hK a' n' c' r' w' hn hg H'.u7
theorem Sat.r8 {e0 e1 e2 e3 e4 e5 e6 e7 x : Ex} {ex : List Ex} {ro : List Ro} {F : Fr} {w : World} (H : Sat F w (e0 :: e1 :: e2 :: e3 :: e4 :: e5 :: e6 :: e7 :: x :: ex) ro) : Sat F w (x :: e0 :: e1 :: e2 :: e3 :: e4 :: e5 :: e6 :: e7 :: ex) ro := H.perm (List.perm_middle (l₁ := [e0, e1, e2, e3, e4, e5, e6, e7]) (l₂ := ex) (a := x))
theorem Sat.u8 {e0 e1 e2 e3 e4 e5 e6 e7 x : Ex} {ex : List Ex} {ro : List Ro} {F : Fr} {w : World} (H : Sat F w (x :: e0 :: e1 :: e2 :: e3 :: e4 :: e5 :: e6 :: e7 :: ex) ro) : Sat F w (e0 :: e1 :: e2 :: e3 :: e4 :: e5 :: e6 :: e7 :: x :: ex) ro := H.perm (List.perm_middle (l₁ := [e0, e1, e2, e3, e4, e5, e6, e7]) (l₂ := ex) (a := x)).symm
theorem Sat.b8 {e0 e1 e2 e3 e4 e5 e6 e7 : Ex} {ex : List Ex} {ro : List Ro} {F : Fr} {w : World} {b : Nat} {t : TypeId} {l : List Value} (H : Sat F w (e0 :: e1 :: e2 :: e3 :: e4 :: e5 :: e6 :: e7 :: .blk b t l :: ex) ro) : Blk w b t l := H.r8.b0
theorem sSt8 {e0 e1 e2 e3 e4 e5 e6 e7 : Ex} {ex : List Ex} {ro : List Ro} {F : Fr} {w : World} {b : Nat} {ty : TypeId} {l : List Value} (H : Sat F w (e0 :: e1 :: e2 :: e3 :: e4 :: e5 :: e6 :: e7 :: .blk b ty l :: ex) ro) {P : Program} {t : TypeId} {a : Addr} {i : Nat} {v : Value} {K : World → Prop} (ha : a = ⟨b, i, none⟩)
    (ht : sizeB P t v.cells.toList.length = true) (hi : Nat.ble (i + v.cells.toList.length) l.length = true) (h1 : v.cells.toList.all Value.oneCell' = true)
    (h : ∀ w', w.grownBy w' (some b) → Sat F w' (e0 :: e1 :: e2 :: e3 :: e4 :: e5 :: e6 :: e7 :: .blk b ty (putL l i v.cells.toList) :: ex) ro → K w') : ∃ w', StV P t a v w w' ∧ K w' :=
  sSt0 H.r8 ha ht hi h1 fun w' hg H' => h w' hg H'.u8
theorem sSw8 {e0 e1 e2 e3 e4 e5 e6 e7 : Ex} {ex : List Ex} {ro : List Ro} {F : Fr} {w : World} {b : Nat} {ty : TypeId} {l : List Value} (H : Sat F w (e0 :: e1 :: e2 :: e3 :: e4 :: e5 :: e6 :: e7 :: .blk b ty l :: ex) ro) {P : Program} {t : TypeId} {a : Addr} {vs : List Value} {K : World → Prop} (ha : a = ⟨b, 0, none⟩)
    (ht : sizeB P t vs.length = true) (hi : Nat.beq vs.length l.length = true) (h1 : vs.all Value.oneCell' = true)
    (h : ∀ w', w.grownBy w' (some b) → Sat F w' (e0 :: e1 :: e2 :: e3 :: e4 :: e5 :: e6 :: e7 :: .blk b ty vs :: ex) ro → K w') : ∃ w', StV P t a (.agg vs.toArray) w w' ∧ K w' :=
  sSw0 H.r8 ha ht hi h1 fun w' hg H' => h w' hg H'.u8
theorem sApp8 {e0 e1 e2 e3 e4 e5 e6 e7 : Ex} {ex : List Ex} {ro : List Ro} {F : Fr} {w : World} {e : TypeId} {size : Nat} {a : Option Addr} {n c : Nat} {r : Option Nat} {ds : List Dat} (H : Sat F w (e0 :: e1 :: e2 :: e3 :: e4 :: e5 :: e6 :: e7 :: .own e size a n c r ds :: ex) ro)
    {P : Program} {t ty : TypeId} {bytes : Nat} (hap : apT P t e size bytes = true) {ad : Addr} {m k : Nat} (news : List Value) (nds : List Dat) (hl : news.length = m * size) (hnews : ∀ j u, news[j]? = some u → w.cell? (ad.add j) = some u)
    (hD : ∀ G : Nat → Prop, (∀ r ∈ ro, Ro.holds w G r) → DeepL w G nds news) (h1 : ∀ u ∈ news, u.oneCell' = true) (h63 : n + m ≤ maxLen) (hbytes : (n + m) * bytes ≤ 140737488355328) {K : Option Addr → Nat → Nat → World → Prop}
    (hK : ∀ a' n' c' r' w', n' = n + m → w.grownBy w' r → Sat F w' (e0 :: e1 :: e2 :: e3 :: e4 :: e5 :: e6 :: e7 :: .own e size a' n' c' r' (ds ++ nds) :: ex) ro → K a' n' c' w') :
    ∃ a' n' c', ∃ w', (Builtin.append_ #[t, t] ty #[.slice a n c, .slice (some ad) m k]).run P w = .ok (.slice a' n' c') w' ∧ K a' n' c' w' :=
  sApp0 H.r8 hap news nds hl hnews hD h1 h63 hbytes fun a' n' c' r' w' hn hg H' => hK a' n' c' r' w' hn hg H'.u8
theorem sPush8 {e0 e1 e2 e3 e4 e5 e6 e7 : Ex} {ex : List Ex} {ro : List Ro} {F : Fr} {w : World} {e : TypeId} {size : Nat} {a : Option Addr} {n c : Nat} {r : Option Nat} {ds : List Dat} (H : Sat F w (e0 :: e1 :: e2 :: e3 :: e4 :: e5 :: e6 :: e7 :: .own e size a n c r ds :: ex) ro)
    {P : Program} {t ty t' : TypeId} {bytes : Nat} (hap : apT P t e size bytes = true) {m k : Nat} {cs : Array Value} (nds : List Dat) (hl : cs.toList.length = m * size)
    (hD : ∀ G : Nat → Prop, (∀ r ∈ ro, Ro.holds w G r) → DeepL w G nds cs.toList) (h1 : cs.toList.all Value.oneCell' = true) (h63 : n + m ≤ maxLen) (hbytes : (n + m) * bytes ≤ 140737488355328) {K : Option Addr → Nat → Nat → World → Prop}
    (hK : ∀ a' n' c' r' w', n' = n + m → w.grownBy w' r → Sat F w' (e0 :: e1 :: e2 :: e3 :: e4 :: e5 :: e6 :: e7 :: .own e size a' n' c' r' (ds ++ nds) :: ex) ro → K a' n' c' w') :
    gNew cs t' (fun p w1 => ∃ a' n' c', ∃ w', (Builtin.append_ #[t, t] ty #[.slice a n c, .slice (some p) m k]).run P w1 = .ok (.slice a' n' c') w' ∧ K a' n' c' w') w :=
  sPush0 H.r8 hap nds hl hD h1 h63 hbytes fun a' n' c' r' w' hn hg H' => hK a' n' c' r' w' hn hg H'.u8
theorem Sat.r9 {e0 e1 e2 e3 e4 e5 e6 e7 e8 x : Ex} {ex : List Ex} {ro : List Ro} {F : Fr} {w : World} (H : Sat F w (e0 :: e1 :: e2 :: e3 :: e4 :: e5 :: e6 :: e7 :: e8 :: x :: ex) ro) : Sat F w (x :: e0 :: e1 :: e2 :: e3 :: e4 :: e5 :: e6 :: e7 :: e8 :: ex) ro := H.perm (List.perm_middle (l₁ := [e0, e1, e2, e3, e4, e5, e6, e7, e8]) (l₂ := ex) (a := x))
theorem Sat.u9 {e0 e1 e2 e3 e4 e5 e6 e7 e8 x : Ex} {ex : List Ex} {ro : List Ro} {F : Fr} {w : World} (H : Sat F w (x :: e0 :: e1 :: e2 :: e3 :: e4 :: e5 :: e6 :: e7 :: e8 :: ex) ro) : Sat F w (e0 :: e1 :: e2 :: e3 :: e4 :: e5 :: e6 :: e7 :: e8 :: x :: ex) ro := H.perm (List.perm_middle (l₁ := [e0, e1, e2, e3, e4, e5, e6, e7, e8]) (l₂ := ex) (a := x)).symm
theorem Sat.b9 {e0 e1 e2 e3 e4 e5 e6 e7 e8 : Ex} {ex : List Ex} {ro : List Ro} {F : Fr} {w : World} {b : Nat} {t : TypeId} {l : List Value} (H : Sat F w (e0 :: e1 :: e2 :: e3 :: e4 :: e5 :: e6 :: e7 :: e8 :: .blk b t l :: ex) ro) : Blk w b t l := H.r9.b0
theorem sSt9 {e0 e1 e2 e3 e4 e5 e6 e7 e8 : Ex} {ex : List Ex} {ro : List Ro} {F : Fr} {w : World} {b : Nat} {ty : TypeId} {l : List Value} (H : Sat F w (e0 :: e1 :: e2 :: e3 :: e4 :: e5 :: e6 :: e7 :: e8 :: .blk b ty l :: ex) ro) {P : Program} {t : TypeId} {a : Addr} {i : Nat} {v : Value} {K : World → Prop} (ha : a = ⟨b, i, none⟩)
    (ht : sizeB P t v.cells.toList.length = true) (hi : Nat.ble (i + v.cells.toList.length) l.length = true) (h1 : v.cells.toList.all Value.oneCell' = true)
    (h : ∀ w', w.grownBy w' (some b) → Sat F w' (e0 :: e1 :: e2 :: e3 :: e4 :: e5 :: e6 :: e7 :: e8 :: .blk b ty (putL l i v.cells.toList) :: ex) ro → K w') : ∃ w', StV P t a v w w' ∧ K w' :=
  sSt0 H.r9 ha ht hi h1 fun w' hg H' => h w' hg H'.u9
theorem sSw9 {e0 e1 e2 e3 e4 e5 e6 e7 e8 : Ex} {ex : List Ex} {ro : List Ro} {F : Fr} {w : World} {b : Nat} {ty : TypeId} {l : List Value} (H : Sat F w (e0 :: e1 :: e2 :: e3 :: e4 :: e5 :: e6 :: e7 :: e8 :: .blk b ty l :: ex) ro) {P : Program} {t : TypeId} {a : Addr} {vs : List Value} {K : World → Prop} (ha : a = ⟨b, 0, none⟩)
    (ht : sizeB P t vs.length = true) (hi : Nat.beq vs.length l.length = true) (h1 : vs.all Value.oneCell' = true)
    (h : ∀ w', w.grownBy w' (some b) → Sat F w' (e0 :: e1 :: e2 :: e3 :: e4 :: e5 :: e6 :: e7 :: e8 :: .blk b ty vs :: ex) ro → K w') : ∃ w', StV P t a (.agg vs.toArray) w w' ∧ K w' :=
  sSw0 H.r9 ha ht hi h1 fun w' hg H' => h w' hg H'.u9
theorem sApp9 {e0 e1 e2 e3 e4 e5 e6 e7 e8 : Ex} {ex : List Ex} {ro : List Ro} {F : Fr} {w : World} {e : TypeId} {size : Nat} {a : Option Addr} {n c : Nat} {r : Option Nat} {ds : List Dat} (H : Sat F w (e0 :: e1 :: e2 :: e3 :: e4 :: e5 :: e6 :: e7 :: e8 :: .own e size a n c r ds :: ex) ro)
    {P : Program} {t ty : TypeId} {bytes : Nat} (hap : apT P t e size bytes = true) {ad : Addr} {m k : Nat} (news : List Value) (nds : List Dat) (hl : news.length = m * size) (hnews : ∀ j u, news[j]? = some u → w.cell? (ad.add j) = some u)
    (hD : ∀ G : Nat → Prop, (∀ r ∈ ro, Ro.holds w G r) → DeepL w G nds news) (h1 : ∀ u ∈ news, u.oneCell' = true) (h63 : n + m ≤ maxLen) (hbytes : (n + m) * bytes ≤ 140737488355328) {K : Option Addr → Nat → Nat → World → Prop}
    (hK : ∀ a' n' c' r' w', n' = n + m → w.grownBy w' r → Sat F w' (e0 :: e1 :: e2 :: e3 :: e4 :: e5 :: e6 :: e7 :: e8 :: .own e size a' n' c' r' (ds ++ nds) :: ex) ro → K a' n' c' w') :
    ∃ a' n' c', ∃ w', (Builtin.append_ #[t, t] ty #[.slice a n c, .slice (some ad) m k]).run P w = .ok (.slice a' n' c') w' ∧ K a' n' c' w' :=
  sApp0 H.r9 hap news nds hl hnews hD h1 h63 hbytes fun a' n' c' r' w' hn hg H' => hK a' n' c' r' w' hn hg H'.u9
theorem sPush9 {e0 e1 e2 e3 e4 e5 e6 e7 e8 : Ex} {ex : List Ex} {ro : List Ro} {F : Fr} {w : World} {e : TypeId} {size : Nat} {a : Option Addr} {n c : Nat} {r : Option Nat} {ds : List Dat} (H : Sat F w (e0 :: e1 :: e2 :: e3 :: e4 :: e5 :: e6 :: e7 :: e8 :: .own e size a n c r ds :: ex) ro)
    {P : Program} {t ty t' : TypeId} {bytes : Nat} (hap : apT P t e size bytes = true) {m k : Nat} {cs : Array Value} (nds : List Dat) (hl : cs.toList.length = m * size)
    (hD : ∀ G : Nat → Prop, (∀ r ∈ ro, Ro.holds w G r) → DeepL w G nds cs.toList) (h1 : cs.toList.all Value.oneCell' = true) (h63 : n + m ≤ maxLen) (hbytes : (n + m) * bytes ≤ 140737488355328) {K : Option Addr → Nat → Nat → World → Prop}
    (hK : ∀ a' n' c' r' w', n' = n + m → w.grownBy w' r → Sat F w' (e0 :: e1 :: e2 :: e3 :: e4 :: e5 :: e6 :: e7 :: e8 :: .own e size a' n' c' r' (ds ++ nds) :: ex) ro → K a' n' c' w') :
    gNew cs t' (fun p w1 => ∃ a' n' c', ∃ w', (Builtin.append_ #[t, t] ty #[.slice a n c, .slice (some p) m k]).run P w1 = .ok (.slice a' n' c') w' ∧ K a' n' c' w') w :=
  sPush0 H.r9 hap nds hl hD h1 h63 hbytes fun a' n' c' r' w' hn hg H' => hK a' n' c' r' w' hn hg H'.u9
end Go.Proofs.YtkdialecadjedaaGreat
