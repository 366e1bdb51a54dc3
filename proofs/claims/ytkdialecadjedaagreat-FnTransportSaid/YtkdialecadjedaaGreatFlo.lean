/- A bitrate as a float: its mantissa, doubled and made short, is exact (no statement of the seat is proved here; conditions: none). -/
import Derived.Test.YtkdialecadjedaaGreatNum
import Derived.Laws.FloatArith
namespace Go.Proofs.YtkdialecadjedaaGreat
set_option linter.unusedVariables false
set_option linter.unusedSimpArgs false
set_option linter.unusedSectionVars false
open Go

theorem log2_of {n k : Nat} (h0 : 2 ^ k ≤ n) (h1 : n < 2 ^ (k + 1)) : n.log2 = k := by
  have hn : n ≠ 0 := by have := Nat.two_pow_pos k; omega
  exact (Nat.log2_eq_iff hn).2 ⟨h0, h1⟩
/-- Digits that are kept, or dropped where they are noughts. -/
theorem cut_exact (q drop : Nat) : Ieee.Toward.even.cut false (q * 2 ^ drop) drop = q := by
  unfold Ieee.Toward.cut
  simp only [Nat.one_shiftLeft]
  have hg := Nat.two_pow_pos (min drop ((q * 2 ^ drop).log2 + 2))
  rcases Nat.eq_zero_or_pos q with h0 | h0
  · subst h0
    simp only [Nat.zero_mul, Nat.zero_div, Nat.zero_mod]
    generalize 2 ^ min drop (Nat.log2 0 + 2) = g at hg
    have : (decide (g < 2 * 0) || (g == 2 * 0 && 0 % 2 == 1)) = false := by simp
    rw [this]; rfl
  · have hle : drop ≤ (q * 2 ^ drop).log2 + 2 := by
      have h1 : 2 ^ drop ≤ q * 2 ^ drop := Nat.le_mul_of_pos_left _ h0
      have h2 : q * 2 ^ drop ≠ 0 := by have := Nat.two_pow_pos drop; omega
      have := (Nat.le_log2 h2).2 h1
      omega
    rw [Nat.min_eq_left hle, Nat.mul_div_cancel _ (Nat.two_pow_pos drop), Nat.mul_mod_left]
    have hd := Nat.two_pow_pos drop
    have : (decide (2 ^ drop < 2 * 0) || (2 ^ drop == 2 * 0 && q % 2 == 1)) = false := by
      simp
    rw [this]; rfl
/-- The word of a number that has a place in the format. -/
theorem nearest_exact (f : Ieee.Format) (M L q d u : Nat) (place : Int) (hM : M ≠ 0) (hL : M.log2 = L) (h1 : f.leastPlace ≤ place + L - f.fractionBits) (hd : d = (place + L - f.fractionBits - place).toNat) (hu : u = (place - (place + L - f.fractionBits)).toNat) (hq : M * 2 ^ u = q * 2 ^ d)
    (hlt : (place + L - f.fractionBits - f.leastPlace).toNat * f.binade + q ≤ f.infRung) : f.nearest false M place = (place + L - f.fractionBits - f.leastPlace).toNat * f.binade + q := by
  unfold Ieee.Format.nearest
  rw [if_neg hM]
  simp only [hL]
  rw [Int.max_eq_left h1, ← hd, ← hu, Nat.shiftLeft_eq, hq, cut_exact]
  simp only [Ieee.Format.word, Bool.false_eq_true, if_false]
  exact Nat.min_eq_left hlt

/-- The float64 of m * 2 ^ i, for a mantissa of up to 18 bits. -/
def dbl (m i : Nat) : Nat := (i + m.log2 + 1022) * 4503599627370496 + m * 2 ^ (52 - m.log2)
/-- The float32 of it. -/
def sgl (m i : Nat) : Nat := (i + m.log2 + 126) * 8388608 + m * 2 ^ (23 - m.log2)
theorem norm_range {m k : Nat} (h0 : 0 < m) (h1 : m < 262144) (hk : 18 ≤ k) : m.log2 ≤ 17 ∧ 2 ^ k ≤ m * 2 ^ (k - m.log2) ∧ m * 2 ^ (k - m.log2) < 2 ^ (k + 1) := by
  have hm : m ≠ 0 := by omega
  have hl : m.log2 ≤ 17 := by
    have := (Nat.log2_lt (k := 18) hm).2 (by omega)
    omega
  have h2 := Nat.log2_self_le hm
  have h3 : m < 2 ^ (m.log2 + 1) := Nat.lt_log2_self
  refine ⟨hl, ?_, ?_⟩
  · calc 2 ^ k = 2 ^ m.log2 * 2 ^ (k - m.log2) := by rw [← Nat.pow_add]; congr 1; omega
      _ ≤ m * 2 ^ (k - m.log2) := Nat.mul_le_mul_right _ h2
  · calc m * 2 ^ (k - m.log2) < 2 ^ (m.log2 + 1) * 2 ^ (k - m.log2) := Nat.mul_lt_mul_of_pos_right h3 (Nat.two_pow_pos _)
      _ = 2 ^ (k + 1) := by rw [← Nat.pow_add]; congr 1; omega
theorem read_normal (f : Ieee.Format) (w : Nat) (h : w < f.signWeight) (h1 : f.binade ≤ w) (h2 : w < f.infRung) : f.read w = .number false (f.binade + w % f.binade) (f.leastPlace + (w / f.binade - 1 : Nat)) := by
  unfold Ieee.Format.read
  simp only
  rw [Nat.mod_eq_of_lt h, if_neg (by omega), if_pos h2, Nat.div_eq_of_lt h]
  rfl
theorem dbl_read {m i : Nat} (h0 : 0 < m) (h1 : m < 262144) (hi : i ≤ 64) : Ieee.double.read (dbl m i) = .number false (m * 2 ^ (52 - m.log2)) ((i : Int) + m.log2 - 52) := by
  obtain ⟨hl, h2, h3⟩ := norm_range (k := 52) h0 h1 (by omega)
  have hs : Ieee.double.signWeight = 9223372036854775808 := by decide
  have hb : Ieee.double.binade = 4503599627370496 := by decide
  have hI : Ieee.double.infRung = 9218868437227405312 := by decide
  have hp : Ieee.double.leastPlace = -1074 := by decide
  unfold dbl
  generalize hN : m * 2 ^ (52 - m.log2) = N at h2 h3
  generalize m.log2 = L at hl
  simp only [Nat.reducePow, Nat.reduceAdd] at h2 h3
  rw [read_normal _ _ (by rw [hs]; omega) (by rw [hb]; omega) (by rw [hI]; omega), hb, hp]
  congr 1
  · omega
  · omega
theorem dbl_of_int {m : Nat} (h0 : 0 < m) (h1 : m < 262144) : Ieee.double.nearest false m 0 = dbl m 0 := by
  obtain ⟨hl, h2, h3⟩ := norm_range (k := 52) h0 h1 (by omega)
  rw [nearest_exact Ieee.double m m.log2 (m * 2 ^ (52 - m.log2)) 0 (52 - m.log2) 0 (by omega) rfl]
  · simp only [dbl, Ieee.Format.leastPlace, Ieee.double, Ieee.Format.binade, Nat.reducePow, Nat.reduceSub, Int.reducePow, Int.reduceSub]
    congr 2
    omega
  · simp only [Ieee.Format.leastPlace, Ieee.double, Nat.reducePow, Nat.reduceSub, Int.reducePow, Int.reduceSub]; omega
  · simp only [Ieee.double]; omega
  · simp only [Ieee.double]; omega
  · simp
  · generalize hN : m * 2 ^ (52 - m.log2) = N at h2 h3
    simp only [Ieee.Format.leastPlace, Ieee.double, Ieee.Format.binade, Ieee.Format.infRung, Nat.reducePow, Nat.reduceAdd, Nat.reduceMul, Nat.reduceSub, Int.reducePow, Int.reduceSub] at h3 ⊢
    omega
theorem two_read : Ieee.double.read 4611686018427387904 = .number false 4503599627370496 (-51) := by decide +kernel
theorem pow_split {m a b : Nat} (h : a ≤ b) (k : Nat) (e : b = a + k) : m * 2 ^ b = m * 2 ^ a * 2 ^ k := by rw [e, Nat.pow_add, Nat.mul_assoc]
theorem dbl_mul {m i : Nat} (h0 : 0 < m) (h1 : m < 262144) (hi : i ≤ 63) : floatBits .mul .f64 (dbl m i) 4611686018427387904 = some (dbl m (i + 1)) := by
  obtain ⟨hl, h2, h3⟩ := norm_range (k := 52) h0 h1 (by omega)
  change Ieee.double.mul (dbl m i) 4611686018427387904 = some (dbl m (i + 1))
  unfold Ieee.Format.mul
  rw [dbl_read h0 h1 (by omega), two_read]
  simp only [Ieee.Datum.product, Option.map_some, Ieee.Format.write, Bool.xor_self]
  congr 1
  have hM : 2 ^ 104 ≤ m * 2 ^ (52 - m.log2) * 4503599627370496 ∧ m * 2 ^ (52 - m.log2) * 4503599627370496 < 2 ^ 105 := by
    generalize m * 2 ^ (52 - m.log2) = N at h2 h3
    simp only [Nat.reducePow, Nat.reduceAdd] at h2 h3 ⊢
    omega
  rw [nearest_exact Ieee.double (m * 2 ^ (52 - m.log2) * 4503599627370496) 104 (m * 2 ^ (52 - m.log2)) 52 0 _ (by omega) (log2_of hM.1 hM.2)]
  · simp only [dbl, Ieee.Format.leastPlace, Ieee.double, Ieee.Format.binade, Nat.reducePow, Nat.reduceSub, Int.reducePow, Int.reduceSub]
    congr 2
    omega
  · simp only [Ieee.Format.leastPlace, Ieee.double, Nat.reducePow, Nat.reduceSub, Int.reducePow, Int.reduceSub]; omega
  · simp only [Ieee.double]; omega
  · simp only [Ieee.double]; omega
  · simp
  · generalize hN : m * 2 ^ (52 - m.log2) = N at h2 h3
    simp only [Ieee.Format.leastPlace, Ieee.double, Ieee.Format.binade, Ieee.Format.infRung, Nat.reducePow, Nat.reduceAdd, Nat.reduceMul, Nat.reduceSub, Int.reducePow, Int.reduceSub] at h3 ⊢
    omega
theorem sgl_of_dbl {m i : Nat} (h0 : 0 < m) (h1 : m < 262144) (hi : i ≤ 63) : floatToFloatBits .f64 (dbl m i) .f32 = some (sgl m i) := by
  obtain ⟨hl, h2, h3⟩ := norm_range (k := 52) h0 h1 (by omega)
  obtain ⟨_, h4, h5⟩ := norm_range (k := 23) h0 h1 (by omega)
  have hw : Ieee.single.nearest false (m * 2 ^ (52 - m.log2)) ((i : Int) + m.log2 - 52) = sgl m i := by
    rw [nearest_exact Ieee.single (m * 2 ^ (52 - m.log2)) 52 (m * 2 ^ (23 - m.log2)) 29 0 _ (by have := Nat.two_pow_pos 52; omega) (log2_of h2 h3)]
    · simp only [sgl, Ieee.Format.leastPlace, Ieee.single, Ieee.Format.binade, Nat.reducePow, Nat.reduceSub, Int.reducePow, Int.reduceSub]
      congr 2
      omega
    · simp only [Ieee.Format.leastPlace, Ieee.single, Nat.reducePow, Nat.reduceSub, Int.reducePow, Int.reduceSub]; omega
    · simp only [Ieee.single]; omega
    · simp only [Ieee.single]; omega
    · rw [Nat.pow_zero, Nat.mul_one]; exact pow_split (by omega) 29 (by omega)
    · generalize hN : m * 2 ^ (23 - m.log2) = N at h4 h5
      simp only [Ieee.Format.leastPlace, Ieee.single, Ieee.Format.binade, Ieee.Format.infRung, Nat.reducePow, Nat.reduceAdd, Nat.reduceMul, Nat.reduceSub, Int.reducePow, Int.reduceSub] at h5 ⊢
      omega
  have hs : Ieee.single.signWeight = 2147483648 := by decide
  have hb : Ieee.single.binade = 8388608 := by decide
  have hI : Ieee.single.infRung = 2139095040 := by decide
  have e1 : FloatKind.f64.decode (dbl m i) = .number false (m * 2 ^ (52 - m.log2)) ((i : Int) + m.log2 - 52) := by
    unfold FloatKind.decode FloatKind.format; exact dbl_read h0 h1 (by omega)
  have e2 : FloatKind.f32.encode (.number false (m * 2 ^ (52 - m.log2)) ((i : Int) + m.log2 - 52)) = sgl m i := by
    unfold FloatKind.encode FloatKind.format; exact hw
  have e3 : ∃ M P, FloatKind.f32.decode (sgl m i) = .number false M P := by
    unfold FloatKind.decode FloatKind.format sgl
    simp only
    generalize hN : m * 2 ^ (23 - m.log2) = N at h4 h5
    generalize m.log2 = L at hl
    simp only [Nat.reducePow, Nat.reduceAdd] at h4 h5
    exact ⟨_, _, read_normal _ _ (by rw [hs]; omega) (by rw [hb]; omega) (by rw [hI]; omega)⟩
  obtain ⟨M, P, e3⟩ := e3
  unfold floatToFloatBits
  rw [if_neg (by decide), e1]
  simp only
  rw [e2, e3]
  simp [Ieee.Datum.isInfinity]
end Go.Proofs.YtkdialecadjedaaGreat
