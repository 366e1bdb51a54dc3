/- Arithmetic of the machine's words (no statement of the seat is proved here; conditions: none). -/
import Derived.Test.YtkdialecadjedaaGreatVc8
namespace Go.Proofs.YtkdialecadjedaaGreat
set_option linter.unusedVariables false
set_option linter.unusedSimpArgs false
set_option linter.unusedSectionVars false
open Go

theorem wu8 (n : Int) : IntKind.u8.wrap n = n % 256 := by simp [IntKind.wrap, IntKind.bits, IntKind.signed]
theorem wu16 (n : Int) : IntKind.u16.wrap n = n % 65536 := by simp [IntKind.wrap, IntKind.bits, IntKind.signed]
theorem wu32 (n : Int) : IntKind.u32.wrap n = n % 4294967296 := by simp [IntKind.wrap, IntKind.bits, IntKind.signed]
theorem wu64 (n : Int) : IntKind.u64.wrap n = n % 18446744073709551616 := by simp [IntKind.wrap, IntKind.bits, IntKind.signed]
theorem wi64 (n : Int) : IntKind.i64.wrap n = if n % 18446744073709551616 ≥ 9223372036854775808 then n % 18446744073709551616 - 18446744073709551616 else n % 18446744073709551616 := by
  simp [IntKind.wrap, IntKind.bits, IntKind.signed]
theorem wi64_of {n : Int} (h0 : -9223372036854775808 ≤ n) (h1 : n < 9223372036854775808) : IntKind.i64.wrap n = n := by rw [wi64]; split <;> omega
theorem wi16 (n : Int) : IntKind.i16.wrap n = if n % 65536 ≥ 32768 then n % 65536 - 65536 else n % 65536 := by simp [IntKind.wrap, IntKind.bits, IntKind.signed]
theorem wi32 (n : Int) : IntKind.i32.wrap n = if n % 4294967296 ≥ 2147483648 then n % 4294967296 - 4294967296 else n % 4294967296 := by simp [IntKind.wrap, IntKind.bits, IntKind.signed]
theorem wrap_nat {k : IntKind} (hk : k.signed = false) {n : Nat} (h : n < 2 ^ k.bits) : k.wrap (n : Int) = n := by
  unfold IntKind.wrap
  simp only [hk, Bool.false_and, Bool.false_eq_true, if_false]
  have : ((2 : Int) ^ k.bits) = ((2 ^ k.bits : Nat) : Int) := by simp
  rw [this, ← Int.natCast_emod, Nat.mod_eq_of_lt h]
theorem ofInt_nat (m n : Nat) : (BitVec.ofInt m (n : Int)).toNat = n % 2 ^ m := by simp
theorem ior_nat {k : IntKind} (hk : k.signed = false) {a b : Nat} (ha : a < 2 ^ k.bits) (hb : b < 2 ^ k.bits) : ior k a b = ((a ||| b : Nat) : Int) := by
  unfold ior
  rw [BitVec.toNat_or, ofInt_nat, ofInt_nat, Nat.mod_eq_of_lt ha, Nat.mod_eq_of_lt hb]
  exact wrap_nat hk (Nat.or_lt_two_pow ha hb)
theorem iand_nat {k : IntKind} (hk : k.signed = false) {a b : Nat} (ha : a < 2 ^ k.bits) (hb : b < 2 ^ k.bits) : iand k a b = ((a &&& b : Nat) : Int) := by
  unfold iand
  rw [BitVec.toNat_and, ofInt_nat, ofInt_nat, Nat.mod_eq_of_lt ha, Nat.mod_eq_of_lt hb]
  exact wrap_nat hk (Nat.lt_of_le_of_lt Nat.and_le_left ha)
/-- Words that share no bit: the sum. -/
theorem ior_add {k : IntKind} (hk : k.signed = false) (i : Nat) {a b : Int} (A : Int) (ha : a = A * 2 ^ i) (h0 : 0 ≤ A) (hb0 : 0 ≤ b) (hb : b < 2 ^ i) (h : a + b < 2 ^ k.bits) : ior k a b = a + b := by
  obtain ⟨A, rfl⟩ := Int.eq_ofNat_of_zero_le h0
  obtain ⟨b, rfl⟩ := Int.eq_ofNat_of_zero_le hb0
  have ha' : a = ((A * 2 ^ i : Nat) : Int) := by rw [ha]; simp
  subst ha'
  have hb' : b < 2 ^ i := by exact_mod_cast hb
  have h' : A * 2 ^ i + b < 2 ^ k.bits := by exact_mod_cast h
  rw [ior_nat hk (by omega) (by omega)]
  have : A * 2 ^ i ||| b = A * 2 ^ i + b := by
    rw [← Nat.shiftLeft_eq, Nat.shiftLeft_add_eq_or_of_lt hb']
  rw [this]; simp
theorem ior_add' {k : IntKind} (hk : k.signed = false) (i : Nat) {a b : Int} (A : Int) (ha : a = A * 2 ^ i) (h0 : 0 ≤ A) (hb0 : 0 ≤ b) (hb : b < 2 ^ i) (h : a + b < 2 ^ k.bits) : ior k b a = a + b := by
  have : ior k b a = ior k a b := by unfold ior; rw [BitVec.or_comm]
  rw [this]; exact ior_add hk i A ha h0 hb0 hb h
/-- A mask of low bits. -/
theorem iand_low {k : IntKind} (hk : k.signed = false) (i : Nat) {a m : Int} (h0 : 0 ≤ a) (ha : a < 2 ^ k.bits) (hm : m = 2 ^ i - 1) (hi : i ≤ k.bits) : iand k a m = a % 2 ^ i := by
  obtain ⟨a, rfl⟩ := Int.eq_ofNat_of_zero_le h0
  have ha' : a < 2 ^ k.bits := by exact_mod_cast ha
  have h2 := Nat.two_pow_pos i
  have hm' : m = ((2 ^ i - 1 : Nat) : Int) := by rw [hm, Int.natCast_sub (by omega)]; simp
  have h3 := Nat.pow_le_pow_right (show 0 < 2 by omega) hi
  rw [hm', iand_nat hk ha' (by omega), Nat.and_two_pow_sub_one_eq_mod]
  simp
theorem ishr_of {k : IntKind} (i : Nat) {a b : Int} (hb : b = i) (hi : i ≤ k.bits) : ishr k a b = a / 2 ^ i := by
  unfold ishr
  subst hb
  rw [Int.toNat_natCast, Nat.min_eq_left hi, Int.fdiv_eq_ediv_of_nonneg _ (by exact_mod_cast Nat.zero_le _)]
theorem ishl_of {k : IntKind} (i : Nat) {a b : Int} (hb : b = i) (hi : i ≤ k.bits) : ishl k a b = k.wrap (a * 2 ^ i) := by
  unfold ishl
  subst hb
  rw [Int.toNat_natCast, Nat.min_eq_left hi]
theorem byte_cases (p : Int → Prop) (h : ∀ n : Fin 256, p (n.val : Int)) {x : Int} (h0 : 0 ≤ x) (h1 : x < 256) : p x := by
  obtain ⟨n, rfl⟩ := Int.eq_ofNat_of_zero_le h0
  exact h ⟨n, by omega⟩

theorem be16 {x y : Int} (hx : 0 ≤ x ∧ x < 256) (hy : 0 ≤ y ∧ y < 256) : ior .u16 (ishl .u16 (IntKind.u16.wrap x) (8 : Int)) (IntKind.u16.wrap y) = x * 256 + y := by
  rw [ishl_of 8 (by rfl) (by decide), wu16, wu16, wu16]
  rw [show x % 65536 * 2 ^ 8 % 65536 = x * 256 by omega, show y % 65536 = y by omega]
  exact ior_add (by rfl) 8 x (by omega) hx.1 hy.1 (by omega) (by simp only [IntKind.bits]; omega)
theorem be16' {x y : Int} (hx : 0 ≤ x ∧ x < 256) (hy : 0 ≤ y ∧ y < 256) : ior .u16 (IntKind.u16.wrap y) (ishl .u16 (IntKind.u16.wrap x) (8 : Int)) = x * 256 + y := by
  have : ∀ a b, ior .u16 a b = ior .u16 b a := fun a b => by unfold ior; rw [BitVec.or_comm]
  rw [this]; exact be16 hx hy
end Go.Proofs.YtkdialecadjedaaGreat
