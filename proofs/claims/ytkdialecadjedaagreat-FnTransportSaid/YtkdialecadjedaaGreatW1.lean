/- rtcp's writers of numbers, headers, chunks and deltas (no statement of the seat is proved here; conditions: none). -/
import Derived.Test.YtkdialecadjedaaGreatIm4
import Derived.MapKept
namespace Go.Proofs.YtkdialecadjedaaGreat
set_option linter.unusedVariables false
set_option linter.unusedSimpArgs false
set_option linter.unusedSectionVars false
open Go

/-! ### Bytes that are being written -/
def u8s (l : List Int) : List Value := l.map (Value.int .u8)
theorem u8s_length (l : List Int) : (u8s l).length = l.length := by simp [u8s]
/-- The first k bytes are written. -/
def pre (ys : List Int) (k N : Nat) : List Int := ys.take k ++ List.replicate (N - k) 0
theorem pre_length {ys : List Int} {k N : Nat} (h : k ≤ N) (hy : N ≤ ys.length) : (pre ys k N).length = N := by simp [pre]; omega
theorem pre_zero (ys : List Int) (N : Nat) : pre ys 0 N = List.replicate N 0 := by simp [pre]
theorem pre_set {ys : List Int} {k N : Nat} (h : k < N) (hy : N ≤ ys.length) : (pre ys k N).set k (ys.getD k 0) = pre ys (k + 1) N := by
  unfold pre
  have hl : (ys.take k).length = k := by simp; omega
  have ht : ys.take (k + 1) = ys.take k ++ [ys[k]'(by omega)] := by rw [List.take_add_one, List.getElem?_eq_getElem (show k < ys.length by omega)]; rfl
  rw [List.set_append_right _ _ (by omega), hl, Nat.sub_self, ht]
  obtain ⟨q, hq⟩ : ∃ q, N - k = q + 1 := ⟨N - k - 1, by omega⟩
  rw [hq, List.replicate_succ, List.set_cons_zero, show N - (k + 1) = q by omega, List.append_assoc, List.singleton_append]
  congr 2
  simp [List.getD, List.getElem?_eq_getElem (show k < ys.length by omega)]
theorem pre_cp {ys : List Int} {k N : Nat} (m : Nat) (h : k + m ≤ N) (hy : N ≤ ys.length) : (u8s (pre ys k N)).take k ++ u8s ((ys.drop k).take m) ++ (u8s (pre ys k N)).drop (k + (u8s ((ys.drop k).take m)).length) = u8s (pre ys (k + m) N) := by
  have hl : (ys.take k).length = k := by simp; omega
  have hm : ((ys.drop k).take m).length = m := by simp; omega
  rw [u8s_length, hm]
  unfold u8s
  rw [← List.map_take, ← List.map_drop, ← List.map_append, ← List.map_append]
  congr 1
  unfold pre
  have hd : (ys.take k).drop (k + m) = [] := List.drop_of_length_le (by omega)
  rw [List.take_left' hl, List.drop_append, hl, hd, List.nil_append, List.drop_replicate, List.take_add, show N - k - (k + m - k) = N - (k + m) by omega]
theorem pre_full {ys : List Int} {k N : Nat} (hN : N = ys.length) (hk : k ≤ N) (hz : (ys.drop k).all (· == 0) = true) : pre ys k N = ys := by
  unfold pre
  have : ys.drop k = List.replicate (N - k) 0 := by
    rw [List.eq_replicate_iff]
    refine ⟨by simp [hN], fun x hx => ?_⟩
    have := List.all_eq_true.1 hz x hx
    simpa using this
  rw [← this, List.take_append_drop]
theorem sStB {F : Fr} {w : World} {g : Nat} {t : TypeId} {l : List Int} {ex : List Ex} {ro : List Ro} (H : Sat F w (.blk g t (u8s l) :: ex) ro) {a : Addr} {i : Nat} {x : Int} {K : World → Prop} (ha : a = ⟨g, i, none⟩) (hi : i < l.length)
    (h : ∀ w', w.grownBy w' (some g) → Sat F w' (.blk g t (u8s (l.set i x)) :: ex) ro → K w') : ∃ w', StV pg 5 a (.int .u8 x) w w' ∧ K w' := by
  refine sSt0 H ha (by kernel_rfl) ?_ (by rfl) ?_
  · rw [u8s_length]
    exact Nat.ble_eq_true_of_le (show i + 1 ≤ l.length by omega)
  · intro w' hg H1
    refine h w' hg ?_
    have e : putL (u8s l) i (Value.int .u8 x).cells.toList = u8s (l.set i x) := by
      show (u8s l).set i (Value.int .u8 x) = _
      unfold u8s
      rw [List.map_set]
    rw [e] at H1
    exact H1
theorem Sat.bcell {F : Fr} {w : World} {g : Nat} {t : TypeId} {l : List Int} {ex : List Ex} {ro : List Ro} (H : Sat F w (.blk g t (u8s l) :: ex) ro) {a : Addr} {i : Nat} (ha : a = ⟨g, i, none⟩) (hi : i < l.length) : w.cell? a = some (.int .u8 (l.getD i 0)) := by
  subst ha
  refine H.b0.cell ?_
  unfold u8s
  rw [List.getElem?_map, List.getElem?_eq_getElem hi]
  simp [List.getD, List.getElem?_eq_getElem hi]
theorem c75 {F : Fr} {w : World} {g : Nat} {t : TypeId} {l : List Int} {ex : List Ex} {ro : List Ro} (H : Sat F w (.blk g t (u8s l) :: ex) ro) {o n c : Nat} {v : Int} (hv : 0 ≤ v ∧ v < 65536) (hn : 2 ≤ n) (ho : o + 2 ≤ l.length) :
    Calls pg 75 #[.slice (some ⟨g, o, none⟩) n c, .int .u16 v] w fun en w' => en = .returned (.tuple #[]) ∧ Sat F w' (.blk g t (u8s ((l.set o (v / 256)).set (o + 1) (v % 256))) :: ex) ro := by
  apply of75
  refine ⟨_, rfl, by omega, by omega, ?_⟩
  refine ⟨_, H.bcell (i := o + 1) (by rw [add_flat]; rfl) (by omega), ?_⟩
  refine ⟨_, rfl, by omega, by omega, ?_⟩
  rw [ishr_of (b := (8 : Int)) 8 (by rfl) (by decide), wu8, show v / 2 ^ 8 % 256 = v / 256 by omega]
  refine sStB H (i := o) (by rw [add_flat]; rfl) (by omega) ?_
  clear H; intro w _ H
  refine ⟨_, rfl, by omega, by omega, ?_⟩
  rw [wu8]
  refine sStB H (i := o + 1) (by rw [add_flat]; rfl) (by simp; omega) ?_
  clear H; intro w _ H
  exact ⟨rfl, H⟩
theorem c64 {F : Fr} {w : World} {g : Nat} {t : TypeId} {l : List Int} {ex : List Ex} {ro : List Ro} (H : Sat F w (.blk g t (u8s l) :: ex) ro) {o n c : Nat} {v : Int} (hv : 0 ≤ v ∧ v < 4294967296) (hn : 4 ≤ n) (ho : o + 4 ≤ l.length) :
    Calls pg 64 #[.slice (some ⟨g, o, none⟩) n c, .int .u32 v] w fun en w' => en = .returned (.tuple #[]) ∧ Sat F w' (.blk g t (u8s ((((l.set o (v / 16777216)).set (o + 1) (v / 65536 % 256)).set (o + 2) (v / 256 % 256)).set (o + 3) (v % 256))) :: ex) ro := by
  apply of64
  refine ⟨_, rfl, by omega, by omega, ?_⟩
  refine ⟨_, H.bcell (i := o + 3) (by rw [add_flat]; rfl) (by omega), ?_⟩
  refine ⟨_, rfl, by omega, by omega, ?_⟩
  rw [ishr_of (b := (24 : Int)) 24 (by rfl) (by decide), wu8, show v / 2 ^ 24 % 256 = v / 16777216 by omega]
  refine sStB H (i := o) (by rw [add_flat]; rfl) (by omega) ?_
  clear H; intro w _ H
  refine ⟨_, rfl, by omega, by omega, ?_⟩
  rw [ishr_of (b := (16 : Int)) 16 (by rfl) (by decide), wu8, show v / 2 ^ 16 % 256 = v / 65536 % 256 by omega]
  refine sStB H (i := o + 1) (by rw [add_flat]; rfl) (by simp; omega) ?_
  clear H; intro w _ H
  refine ⟨_, rfl, by omega, by omega, ?_⟩
  rw [ishr_of (b := (8 : Int)) 8 (by rfl) (by decide), wu8, show v / 2 ^ 8 % 256 = v / 256 % 256 by omega]
  refine sStB H (i := o + 2) (by rw [add_flat]; rfl) (by simp; omega) ?_
  clear H; intro w _ H
  refine ⟨_, rfl, by omega, by omega, ?_⟩
  rw [wu8]
  refine sStB H (i := o + 3) (by rw [add_flat]; rfl) (by simp; omega) ?_
  clear H; intro w _ H
  exact ⟨rfl, H⟩
/-! ### Numbers -/
theorem c162 {w : World} {s v : Int} {n : Nat} (hs : 0 ≤ s ∧ s * 2 ^ n < 4294967296) (hv : 0 ≤ v ∧ v < 2 ^ n) (hn : n = 8 ∨ n = 24) : Calls pg 162 #[.int .u32 s, .int .u32 (n : Int), .int .u32 v] w fun en w' => en = .returned (.int .u32 (s * 2 ^ n + v)) ∧ w.grownBy w' none := by
  apply of162
  have key : ior .u32 (ishl .u32 s (n : Int)) (iand .u32 v (ishr .u32 (4294967295 : Int) (IntKind.u32.wrap ((32 : Int) - (n : Int))))) = s * 2 ^ n + v := by
    rcases hn with rfl | rfl
    · rw [ishl_of 8 (by rfl) (by decide), wu32, wu32, show ((32 : Int) - ((8 : Nat) : Int)) % 4294967296 = ((24 : Nat) : Int) by rfl, ishr_of 24 (by rfl) (by decide)]
      rw [show (4294967295 : Int) / 2 ^ 24 = 255 by rfl, iand_low (k := .u32) (by rfl) 8 hv.1 (by simp only [IntKind.bits]; omega) (by rfl) (by decide), show v % 2 ^ 8 = v by omega, show s * 2 ^ 8 % 4294967296 = s * 2 ^ 8 by omega]
      exact ior_add (k := .u32) (by rfl) 8 s rfl hs.1 hv.1 (by omega) (by simp only [IntKind.bits]; omega)
    · rw [ishl_of 24 (by rfl) (by decide), wu32, wu32, show ((32 : Int) - ((24 : Nat) : Int)) % 4294967296 = ((8 : Nat) : Int) by rfl, ishr_of 8 (by rfl) (by decide)]
      rw [show (4294967295 : Int) / 2 ^ 8 = 16777215 by rfl, iand_low (k := .u32) (by rfl) 24 hv.1 (by simp only [IntKind.bits]; omega) (by rfl) (by decide), show v % 2 ^ 24 = v by omega, show s * 2 ^ 24 % 4294967296 = s * 2 ^ 24 by omega]
      exact ior_add (k := .u32) (by rfl) 24 s rfl hs.1 hv.1 (by omega) (by simp only [IntKind.bits]; omega)
  refine ⟨by omega, by rw [wu32]; omega, ?_⟩
  rw [key]
  exact ⟨rfl, grew_refl _ _⟩
theorem c123 {w : World} {src val q size start : Int} (k : Nat) {m : Nat} (hk : (k : Int) + size + start = 16) (hsz : (size = 1 ∧ m = 2) ∨ (size = 2 ∧ m = 4) ∨ (size = 13 ∧ m = 8192)) (hst : 0 ≤ start) (hs : src = q * (m * 2 ^ k)) (hq : 0 ≤ q ∧ src + m * 2 ^ k ≤ 65536) (hv : 0 ≤ val ∧ val < m) :
    Calls pg 123 #[.int .u16 src, .int .u16 size, .int .u16 start, .int .u16 val] w fun en w' => en = .returned (.tuple #[.int .u16 (src + val * 2 ^ k), .nilIface]) ∧ w.grownBy w' none := by
  apply of123
  refine ⟨fun hc => ?_, fun hc => ?_⟩
  · rw [decide_eq_true_eq, wu16] at hc; omega
  have ek : IntKind.u16.wrap ((IntKind.u16.wrap ((16 : Int) - size)) - start) = (k : Int) := by rw [wu16, wu16]; omega
  have hk16 : k ≤ 15 := by omega
  have hp : (0 : Int) < 2 ^ k := Int.pow_pos (by omega)
  have hv2 : val * 2 ^ k < m * 2 ^ k := Int.mul_lt_mul_of_pos_right hv.2 hp
  have hv0 : 0 ≤ val * 2 ^ k := Int.mul_nonneg hv.1 (by omega)
  have hs0 : 0 ≤ src := by rw [hs]; exact Int.mul_nonneg hq.1 (Int.mul_nonneg (by omega) (by omega))
  have hm : iand .u16 val (IntKind.u16.wrap ((ishl .u16 (1 : Int) size) - (1 : Int))) = val := by
    rcases hsz with ⟨rfl, rfl⟩ | ⟨rfl, rfl⟩ | ⟨rfl, rfl⟩
    · rw [ishl_of (b := (1 : Int)) 1 (by rfl) (by decide), iand_low (k := .u16) (by rfl) 1 hv.1 (by simp only [IntKind.bits]; omega) (by rfl) (by decide)]; omega
    · rw [ishl_of (b := (2 : Int)) 2 (by rfl) (by decide), iand_low (k := .u16) (by rfl) 2 hv.1 (by simp only [IntKind.bits]; omega) (by rfl) (by decide)]; omega
    · rw [ishl_of (b := (13 : Int)) 13 (by rfl) (by decide), iand_low (k := .u16) (by rfl) 13 hv.1 (by simp only [IntKind.bits]; omega) (by rfl) (by decide)]; omega
  have key : ior .u16 src (ishl .u16 val (k : Int)) = src + val * 2 ^ k := by
    rw [ishl_of (k := .u16) k rfl (by simp only [IntKind.bits]; omega), wu16, Int.emod_eq_of_lt hv0 (by omega)]
    have hpow : ∀ e : Nat, (m : Int) = 2 ^ e → ior .u16 src (val * 2 ^ k) = src + val * 2 ^ k := by
      intro e he
      refine ior_add (k := .u16) (by rfl) (e + k) q ?_ hq.1 hv0 ?_ (by simp only [IntKind.bits]; omega)
      · rw [hs, he, Int.pow_add]
      · rw [Int.pow_add, ← he]; exact hv2
    rcases hsz with ⟨_, rfl⟩ | ⟨_, rfl⟩ | ⟨_, rfl⟩
    · exact hpow 1 rfl
    · exact hpow 2 rfl
    · exact hpow 13 rfl
  refine ⟨by omega, by rw [ek]; omega, ?_⟩
  rw [ek, hm, key]
  exact ⟨rfl, grew_refl _ _⟩
end Go.Proofs.YtkdialecadjedaaGreat
