/- spec's readers of headers and report blocks: what they compute (no statement of the seat is proved here; conditions: their slices read bytes). -/
import Derived.Test.YtkdialecadjedaaGreatPk
namespace Go.Proofs.YtkdialecadjedaaGreat
set_option linter.unusedVariables false
set_option linter.unusedSimpArgs false
set_option linter.unusedSectionVars false
open Go

theorem Rd.sat {w : World} {xs : List Int} {a : Option Addr} {n c : Nat} (h : Rd w xs a n c) : Sat ⟨w, fun _ => False⟩ w [] [Ro.B xs a n c] := by
  obtain ⟨G, h⟩ := h.and
  refine ⟨Gr.refl _ _, by simp [foots], by simp [foots], by simp, fun r hr => ?_⟩
  simp only [List.mem_singleton] at hr
  subst hr
  exact DeepL.cons (h.keep (Gr.refl w (fun _ => False)) (fun _ _ _ => ⟨id, by simp [foots]⟩)) (DeepL.nil _ _)
theorem Sat.done {w0 w : World} {ex : List Ex} {ro : List Ro} (H : Sat ⟨w0, fun _ => False⟩ w ex ro) : w0.grownBy w none := H.gr.none (fun _ _ h => h)
theorem Sat.nothing (w : World) : Sat ⟨w, fun _ => False⟩ w [] [] := ⟨Gr.refl _ _, by simp [foots], by simp [foots], by simp, by simp⟩

def Rep.val : Rep → Value
  | (a, b, c, d, e, f, g) => .agg #[.int .u32 a, .int .u8 b, .int .u32 c, .int .u32 d, .int .u32 e, .int .u32 f, .int .u32 g]
theorem c24 {w : World} {xs : List Int} {a : Option Addr} {n c : Nat} (h : Rd w xs a n c) (hb : By xs) (hn : 24 ≤ n) :
    Calls pg 24 #[.slice a n c] w fun en w' => en = .returned (rep1 xs).val ∧ w.grownBy w' none := by
  apply of24
  have H := h.sat
  refine sNew H ?_; clear H; intro b1 w _ H
  refine ⟨none, ?_⟩
  replace H := H.drew; generalize w.drew = wd at H ⊢; have K := grew_refl wd (none)
  obtain ⟨p, rfl, hc, hk⟩ := Rd.at_ (a := a) (by first | exact (Sat.rd H (by repeat (first | assumption | exact List.mem_cons_self | apply List.mem_cons_of_mem))) | exact Rd.skip (Sat.rd H (by repeat (first | assumption | exact List.mem_cons_self | apply List.mem_cons_of_mem))) _ (by omega) | exact Rd.skip (Rd.skip (Sat.rd H (by repeat (first | assumption | exact List.mem_cons_self | apply List.mem_cons_of_mem))) _ (by omega)) _ (by omega) | exact Rd.cut (Sat.rd H (by repeat (first | assumption | exact List.mem_cons_self | apply List.mem_cons_of_mem))) _ _ (by omega) (by omega) | exact Rd.skip (Rd.skip (Rd.skip (Sat.rd H (by repeat (first | assumption | exact List.mem_cons_self | apply List.mem_cons_of_mem))) _ (by omega)) _ (by omega)) _ (by omega) | assumption) (by omega)
  refine ⟨p, rfl, by omega, by omega, Option.some_ne_none _, hk 4, _, hc 4 (by omega), by omega, by omega, by omega, by omega, by omega, by omega, by omega, by omega, by omega, by omega, ?_⟩
  refine call_j (c10 (by first | exact (Sat.rd H (by repeat (first | assumption | exact List.mem_cons_self | apply List.mem_cons_of_mem))) | exact Rd.skip (Sat.rd H (by repeat (first | assumption | exact List.mem_cons_self | apply List.mem_cons_of_mem))) _ (by omega) | exact Rd.skip (Rd.skip (Sat.rd H (by repeat (first | assumption | exact List.mem_cons_self | apply List.mem_cons_of_mem))) _ (by omega)) _ (by omega) | exact Rd.cut (Sat.rd H (by repeat (first | assumption | exact List.mem_cons_self | apply List.mem_cons_of_mem))) _ _ (by omega) (by omega) | exact Rd.skip (Rd.skip (Rd.skip (Sat.rd H (by repeat (first | assumption | exact List.mem_cons_self | apply List.mem_cons_of_mem))) _ (by omega)) _ (by omega)) _ (by omega) | assumption) (by repeat (first | assumption | apply By.drop | apply By.take)) (by omega)) ?_
  rintro _ w ⟨rfl, g⟩
  replace H := H.grow g; replace K := World.grownBy.trans K (grew_none _ g); clear g
  refine ⟨_, rfl, K, ?_⟩
  refine call_j (c25 (by first | exact (Sat.rd H (by repeat (first | assumption | exact List.mem_cons_self | apply List.mem_cons_of_mem))) | exact Rd.skip (Sat.rd H (by repeat (first | assumption | exact List.mem_cons_self | apply List.mem_cons_of_mem))) _ (by omega) | exact Rd.skip (Rd.skip (Sat.rd H (by repeat (first | assumption | exact List.mem_cons_self | apply List.mem_cons_of_mem))) _ (by omega)) _ (by omega) | exact Rd.cut (Sat.rd H (by repeat (first | assumption | exact List.mem_cons_self | apply List.mem_cons_of_mem))) _ _ (by omega) (by omega) | exact Rd.skip (Rd.skip (Rd.skip (Sat.rd H (by repeat (first | assumption | exact List.mem_cons_self | apply List.mem_cons_of_mem))) _ (by omega)) _ (by omega)) _ (by omega) | assumption) (by repeat (first | assumption | apply By.drop | apply By.take)) (by omega)) ?_
  rintro _ w ⟨rfl, g⟩
  replace H := H.grow g; replace K := World.grownBy.trans K (grew_none _ g); clear g
  refine ⟨_, rfl, K, ?_⟩
  refine call_j (c10 (by first | exact (Sat.rd H (by repeat (first | assumption | exact List.mem_cons_self | apply List.mem_cons_of_mem))) | exact Rd.skip (Sat.rd H (by repeat (first | assumption | exact List.mem_cons_self | apply List.mem_cons_of_mem))) _ (by omega) | exact Rd.skip (Rd.skip (Sat.rd H (by repeat (first | assumption | exact List.mem_cons_self | apply List.mem_cons_of_mem))) _ (by omega)) _ (by omega) | exact Rd.cut (Sat.rd H (by repeat (first | assumption | exact List.mem_cons_self | apply List.mem_cons_of_mem))) _ _ (by omega) (by omega) | exact Rd.skip (Rd.skip (Rd.skip (Sat.rd H (by repeat (first | assumption | exact List.mem_cons_self | apply List.mem_cons_of_mem))) _ (by omega)) _ (by omega)) _ (by omega) | assumption) (by repeat (first | assumption | apply By.drop | apply By.take)) (by omega)) ?_
  rintro _ w ⟨rfl, g⟩
  replace H := H.grow g; replace K := World.grownBy.trans K (grew_none _ g); clear g
  refine ⟨_, rfl, K, ?_⟩
  refine call_j (c10 (by first | exact (Sat.rd H (by repeat (first | assumption | exact List.mem_cons_self | apply List.mem_cons_of_mem))) | exact Rd.skip (Sat.rd H (by repeat (first | assumption | exact List.mem_cons_self | apply List.mem_cons_of_mem))) _ (by omega) | exact Rd.skip (Rd.skip (Sat.rd H (by repeat (first | assumption | exact List.mem_cons_self | apply List.mem_cons_of_mem))) _ (by omega)) _ (by omega) | exact Rd.cut (Sat.rd H (by repeat (first | assumption | exact List.mem_cons_self | apply List.mem_cons_of_mem))) _ _ (by omega) (by omega) | exact Rd.skip (Rd.skip (Rd.skip (Sat.rd H (by repeat (first | assumption | exact List.mem_cons_self | apply List.mem_cons_of_mem))) _ (by omega)) _ (by omega)) _ (by omega) | assumption) (by repeat (first | assumption | apply By.drop | apply By.take)) (by omega)) ?_
  rintro _ w ⟨rfl, g⟩
  replace H := H.grow g; replace K := World.grownBy.trans K (grew_none _ g); clear g
  refine ⟨_, rfl, K, ?_⟩
  refine call_j (c10 (by first | exact (Sat.rd H (by repeat (first | assumption | exact List.mem_cons_self | apply List.mem_cons_of_mem))) | exact Rd.skip (Sat.rd H (by repeat (first | assumption | exact List.mem_cons_self | apply List.mem_cons_of_mem))) _ (by omega) | exact Rd.skip (Rd.skip (Sat.rd H (by repeat (first | assumption | exact List.mem_cons_self | apply List.mem_cons_of_mem))) _ (by omega)) _ (by omega) | exact Rd.cut (Sat.rd H (by repeat (first | assumption | exact List.mem_cons_self | apply List.mem_cons_of_mem))) _ _ (by omega) (by omega) | exact Rd.skip (Rd.skip (Rd.skip (Sat.rd H (by repeat (first | assumption | exact List.mem_cons_self | apply List.mem_cons_of_mem))) _ (by omega)) _ (by omega)) _ (by omega) | assumption) (by repeat (first | assumption | apply By.drop | apply By.take)) (by omega)) ?_
  rintro _ w ⟨rfl, g⟩
  replace H := H.grow g; replace K := World.grownBy.trans K (grew_none _ g); clear g
  refine ⟨_, rfl, K, ?_⟩
  refine call_j (c10 (by first | exact (Sat.rd H (by repeat (first | assumption | exact List.mem_cons_self | apply List.mem_cons_of_mem))) | exact Rd.skip (Sat.rd H (by repeat (first | assumption | exact List.mem_cons_self | apply List.mem_cons_of_mem))) _ (by omega) | exact Rd.skip (Rd.skip (Sat.rd H (by repeat (first | assumption | exact List.mem_cons_self | apply List.mem_cons_of_mem))) _ (by omega)) _ (by omega) | exact Rd.cut (Sat.rd H (by repeat (first | assumption | exact List.mem_cons_self | apply List.mem_cons_of_mem))) _ _ (by omega) (by omega) | exact Rd.skip (Rd.skip (Rd.skip (Sat.rd H (by repeat (first | assumption | exact List.mem_cons_self | apply List.mem_cons_of_mem))) _ (by omega)) _ (by omega)) _ (by omega) | assumption) (by repeat (first | assumption | apply By.drop | apply By.take)) (by omega)) ?_
  rintro _ w ⟨rfl, g⟩
  replace H := H.grow g; replace K := World.grownBy.trans K (grew_none _ g); clear g
  refine ⟨_, rfl, K, ?_⟩
  refine sSw0 H rfl (by kernel_rfl) (by rfl) (by first | rfl | (simp only [List.all_cons, List.all_nil, Value.cells]; simp [*])) ?_; clear H; intro w _ H
  refine ⟨_, _, _, _, _, _, _, (by first | exact Ld0 rfl H.b0 (by kernel_rfl) | exact Ld0 rfl H.b1 (by kernel_rfl) | exact Ld0 rfl H.b2 (by kernel_rfl) | exact Ld0 rfl H.b3 (by kernel_rfl) | exact Ld0 rfl H.b4 (by kernel_rfl) | exact Ld0 rfl H.b5 (by kernel_rfl) | exact Ld0 rfl H.b6 (by kernel_rfl) | exact Ld0 rfl H.b7 (by kernel_rfl) | exact Ld0 rfl H.b8 (by kernel_rfl) | exact Ld0 rfl H.b9 (by kernel_rfl)), ?_⟩
  exact ⟨rfl, H.done⟩

def kindOf (t c : Int) : Int :=
  if t = 200 then 1 else if t = 201 then 2 else if t = 202 then 3 else if t = 203 then 4 else if t = 204 then 5 else
  if t = 205 then (if c = 1 then 6 else if c = 5 then 7 else if c = 11 then 8 else if c = 15 then 13 else 0) else
  if t = 206 then (if c = 1 then 9 else if c = 2 then 10 else if c = 4 then 11 else if c = 15 then 12 else 0) else 0
theorem c9 {w : World} {p : Bool} {c t n : Int} : Calls pg 9 #[.agg #[.bool p, .int .u8 c, .int .u8 t, .int .u16 n]] w fun en w' => en = .returned (.int .i64 (kindOf t c)) ∧ w.grownBy w' none := by
  apply of9
  have H := Sat.nothing w
  unfold kindOf
  refine sNew H ?_; clear H; intro b1 w _ H
  refine ⟨_, (by first | exact Ce (by first | exact add_flat _ _ _ | exact add_flat2 _ _ _ _ | rfl) H.b0 rfl | exact Ce (by first | exact add_flat _ _ _ | exact add_flat2 _ _ _ _ | rfl) H.b1 rfl | exact Ce (by first | exact add_flat _ _ _ | exact add_flat2 _ _ _ _ | rfl) H.b2 rfl | exact Ce (by first | exact add_flat _ _ _ | exact add_flat2 _ _ _ _ | rfl) H.b3 rfl | exact Ce (by first | exact add_flat _ _ _ | exact add_flat2 _ _ _ _ | rfl) H.b4 rfl | exact Ce (by first | exact add_flat _ _ _ | exact add_flat2 _ _ _ _ | rfl) H.b5 rfl | exact Ce (by first | exact add_flat _ _ _ | exact add_flat2 _ _ _ _ | rfl) H.b6 rfl | exact Ce (by first | exact add_flat _ _ _ | exact add_flat2 _ _ _ _ | rfl) H.b7 rfl | exact Ce (by first | exact add_flat _ _ _ | exact add_flat2 _ _ _ _ | rfl) H.b8 rfl | exact Ce (by first | exact add_flat _ _ _ | exact add_flat2 _ _ _ _ | rfl) H.b9 rfl), ?_⟩
  refine ⟨fun h1 => ⟨by rw [if_pos (by simpa using h1)], H.done⟩, fun h1 => ?_⟩
  rw [if_neg (by simpa using h1)]
  refine ⟨fun h1 => ⟨by rw [if_pos (by simpa using h1)], H.done⟩, fun h1 => ?_⟩
  rw [if_neg (by simpa using h1)]
  refine ⟨fun h1 => ⟨by rw [if_pos (by simpa using h1)], H.done⟩, fun h1 => ?_⟩
  rw [if_neg (by simpa using h1)]
  refine ⟨fun h1 => ⟨by rw [if_pos (by simpa using h1)], H.done⟩, fun h1 => ?_⟩
  rw [if_neg (by simpa using h1)]
  refine ⟨fun h1 => ⟨by rw [if_pos (by simpa using h1)], H.done⟩, fun h1 => ?_⟩
  rw [if_neg (by simpa using h1)]
  refine ⟨fun h1 => ?_, fun h1 => ?_⟩
  · rw [if_pos (by simpa using h1)]
    refine ⟨_, (by first | exact Ce (by first | exact add_flat _ _ _ | exact add_flat2 _ _ _ _ | rfl) H.b0 rfl | exact Ce (by first | exact add_flat _ _ _ | exact add_flat2 _ _ _ _ | rfl) H.b1 rfl | exact Ce (by first | exact add_flat _ _ _ | exact add_flat2 _ _ _ _ | rfl) H.b2 rfl | exact Ce (by first | exact add_flat _ _ _ | exact add_flat2 _ _ _ _ | rfl) H.b3 rfl | exact Ce (by first | exact add_flat _ _ _ | exact add_flat2 _ _ _ _ | rfl) H.b4 rfl | exact Ce (by first | exact add_flat _ _ _ | exact add_flat2 _ _ _ _ | rfl) H.b5 rfl | exact Ce (by first | exact add_flat _ _ _ | exact add_flat2 _ _ _ _ | rfl) H.b6 rfl | exact Ce (by first | exact add_flat _ _ _ | exact add_flat2 _ _ _ _ | rfl) H.b7 rfl | exact Ce (by first | exact add_flat _ _ _ | exact add_flat2 _ _ _ _ | rfl) H.b8 rfl | exact Ce (by first | exact add_flat _ _ _ | exact add_flat2 _ _ _ _ | rfl) H.b9 rfl), ?_⟩
    refine ⟨fun h1 => ⟨by rw [if_pos (by simpa using h1)], H.done⟩, fun h1 => ?_⟩
    rw [if_neg (by simpa using h1)]
    refine ⟨fun h1 => ⟨by rw [if_pos (by simpa using h1)], H.done⟩, fun h1 => ?_⟩
    rw [if_neg (by simpa using h1)]
    refine ⟨fun h1 => ⟨by rw [if_pos (by simpa using h1)], H.done⟩, fun h1 => ?_⟩
    rw [if_neg (by simpa using h1)]
    refine ⟨fun h1 => ⟨by rw [if_pos (by simpa using h1)], H.done⟩, fun h1 => ⟨by rw [if_neg (by simpa using h1)], H.done⟩⟩
  · rw [if_neg (by simpa using h1)]
    refine ⟨fun h1 => ?_, fun h1 => ⟨by rw [if_neg (by simpa using h1)], H.done⟩⟩
    rw [if_pos (by simpa using h1)]
    refine ⟨_, (by first | exact Ce (by first | exact add_flat _ _ _ | exact add_flat2 _ _ _ _ | rfl) H.b0 rfl | exact Ce (by first | exact add_flat _ _ _ | exact add_flat2 _ _ _ _ | rfl) H.b1 rfl | exact Ce (by first | exact add_flat _ _ _ | exact add_flat2 _ _ _ _ | rfl) H.b2 rfl | exact Ce (by first | exact add_flat _ _ _ | exact add_flat2 _ _ _ _ | rfl) H.b3 rfl | exact Ce (by first | exact add_flat _ _ _ | exact add_flat2 _ _ _ _ | rfl) H.b4 rfl | exact Ce (by first | exact add_flat _ _ _ | exact add_flat2 _ _ _ _ | rfl) H.b5 rfl | exact Ce (by first | exact add_flat _ _ _ | exact add_flat2 _ _ _ _ | rfl) H.b6 rfl | exact Ce (by first | exact add_flat _ _ _ | exact add_flat2 _ _ _ _ | rfl) H.b7 rfl | exact Ce (by first | exact add_flat _ _ _ | exact add_flat2 _ _ _ _ | rfl) H.b8 rfl | exact Ce (by first | exact add_flat _ _ _ | exact add_flat2 _ _ _ _ | rfl) H.b9 rfl), ?_⟩
    refine ⟨fun h1 => ⟨by rw [if_pos (by simpa using h1)], H.done⟩, fun h1 => ?_⟩
    rw [if_neg (by simpa using h1)]
    refine ⟨fun h1 => ⟨by rw [if_pos (by simpa using h1)], H.done⟩, fun h1 => ?_⟩
    rw [if_neg (by simpa using h1)]
    refine ⟨fun h1 => ⟨by rw [if_pos (by simpa using h1)], H.done⟩, fun h1 => ?_⟩
    rw [if_neg (by simpa using h1)]
    refine ⟨fun h1 => ⟨by rw [if_pos (by simpa using h1)], H.done⟩, fun h1 => ⟨by rw [if_neg (by simpa using h1)], H.done⟩⟩

def hdrOk (xs : List Int) : Bool := decide (4 ≤ xs.length) && (xs.getD 0 0 / 64 == 2)
def hP (xs : List Int) : Bool := xs.getD 0 0 / 32 % 2 == 1
def hC (xs : List Int) : Int := xs.getD 0 0 % 32
def hT (xs : List Int) : Int := xs.getD 1 0
def hL (xs : List Int) : Int := n16 (xs.drop 2)
def hdrVal (xs : List Int) : Value := if hdrOk xs then .agg #[.bool (hP xs), .int .u8 (hC xs), .int .u8 (hT xs), .int .u16 (hL xs)] else .agg #[.bool false, .int .u8 0, .int .u8 0, .int .u16 0]
theorem byte_bits {x : Int} (h : 0 ≤ x ∧ x < 256) : ishr .u8 x (6 : Int) = x / 64 ∧ (iand .u8 x (32 : Int) != (0 : Int)) = (x / 32 % 2 == 1) ∧ iand .u8 x (31 : Int) = x % 32 := by
  refine byte_cases (fun x => ishr .u8 x (6 : Int) = x / 64 ∧ (iand .u8 x (32 : Int) != (0 : Int)) = (x / 32 % 2 == 1) ∧ iand .u8 x (31 : Int) = x % 32) ?_ h.1 h.2
  decide +kernel
theorem c8 {w : World} {xs : List Int} {a : Option Addr} {n c : Nat} (h : Rd w xs a n c) (hb : By xs) :
    Calls pg 8 #[.slice a n c] w fun en w' => en = .returned (.tuple #[hdrVal xs, .bool (hdrOk xs)]) ∧ w.grownBy w' none := by
  apply of8
  have H := h.sat
  have hl := h.len.1
  have hx := byte_bits (hb.getD 0)
  refine sNew H ?_; clear H; intro b1 w _ H
  refine ⟨fun hc => ?_, fun hc => ?_⟩
  · have e1 : hdrOk xs = false := by
      have : ¬ 4 ≤ xs.length := by have : (n : Int) < 4 := by simpa using hc
                                   omega
      simp [hdrOk, this]
    refine sSw0 H rfl (by kernel_rfl) (by rfl) (by first | rfl | (simp only [List.all_cons, List.all_nil, Value.cells]; simp [*])) ?_; clear H; intro w _ H
    refine ⟨_, _, _, _, (by first | exact Ld0 rfl H.b0 (by kernel_rfl) | exact Ld0 rfl H.b1 (by kernel_rfl) | exact Ld0 rfl H.b2 (by kernel_rfl) | exact Ld0 rfl H.b3 (by kernel_rfl) | exact Ld0 rfl H.b4 (by kernel_rfl) | exact Ld0 rfl H.b5 (by kernel_rfl) | exact Ld0 rfl H.b6 (by kernel_rfl) | exact Ld0 rfl H.b7 (by kernel_rfl) | exact Ld0 rfl H.b8 (by kernel_rfl) | exact Ld0 rfl H.b9 (by kernel_rfl)), ?_⟩
    exact ⟨by rw [hdrVal, e1]; rfl, H.done⟩
  · have hn : 4 ≤ n := by
      have : ¬ (n : Int) < 4 := by simpa using hc
      omega
    obtain ⟨p, rfl, hc, _⟩ := Rd.at_ (a := a) (by first | exact (Sat.rd H (by repeat (first | assumption | exact List.mem_cons_self | apply List.mem_cons_of_mem))) | exact Rd.skip (Sat.rd H (by repeat (first | assumption | exact List.mem_cons_self | apply List.mem_cons_of_mem))) _ (by omega) | exact Rd.skip (Rd.skip (Sat.rd H (by repeat (first | assumption | exact List.mem_cons_self | apply List.mem_cons_of_mem))) _ (by omega)) _ (by omega) | exact Rd.cut (Sat.rd H (by repeat (first | assumption | exact List.mem_cons_self | apply List.mem_cons_of_mem))) _ _ (by omega) (by omega) | exact Rd.skip (Rd.skip (Rd.skip (Sat.rd H (by repeat (first | assumption | exact List.mem_cons_self | apply List.mem_cons_of_mem))) _ (by omega)) _ (by omega)) _ (by omega) | assumption) (by omega)
    refine ⟨p, rfl, by omega, by omega, _, hc 0 (by omega), ?_⟩
    rw [hx.1]
    refine ⟨fun h2 => ?_, fun h2 => ?_⟩
    · have e1 : hdrOk xs = false := by
        have : ¬ xs.getD 0 0 / 64 = 2 := by simpa using h2
        simp only [hdrOk, Bool.and_eq_false_iff]
        exact .inr (by simpa using this)
      refine sSw0 H rfl (by kernel_rfl) (by rfl) (by first | rfl | (simp only [List.all_cons, List.all_nil, Value.cells]; simp [*])) ?_; clear H; intro w _ H
      refine ⟨_, _, _, _, (by first | exact Ld0 rfl H.b0 (by kernel_rfl) | exact Ld0 rfl H.b1 (by kernel_rfl) | exact Ld0 rfl H.b2 (by kernel_rfl) | exact Ld0 rfl H.b3 (by kernel_rfl) | exact Ld0 rfl H.b4 (by kernel_rfl) | exact Ld0 rfl H.b5 (by kernel_rfl) | exact Ld0 rfl H.b6 (by kernel_rfl) | exact Ld0 rfl H.b7 (by kernel_rfl) | exact Ld0 rfl H.b8 (by kernel_rfl) | exact Ld0 rfl H.b9 (by kernel_rfl)), ?_⟩
      exact ⟨by rw [hdrVal, e1]; rfl, H.done⟩
    · have e1 : hdrOk xs = true := by
        have : xs.getD 0 0 / 64 = 2 := by simpa using h2
        simp only [hdrOk, Bool.and_eq_true, decide_eq_true_eq]
        exact ⟨by omega, by simpa using this⟩
      refine ⟨none, ?_⟩
      replace H := H.drew; generalize w.drew = wd at H ⊢; have K := grew_refl wd (none)
      obtain ⟨p', e, hc, hk⟩ := Rd.at_ (a := some p) (by first | exact (Sat.rd H (by repeat (first | assumption | exact List.mem_cons_self | apply List.mem_cons_of_mem))) | exact Rd.skip (Sat.rd H (by repeat (first | assumption | exact List.mem_cons_self | apply List.mem_cons_of_mem))) _ (by omega) | exact Rd.skip (Rd.skip (Sat.rd H (by repeat (first | assumption | exact List.mem_cons_self | apply List.mem_cons_of_mem))) _ (by omega)) _ (by omega) | exact Rd.cut (Sat.rd H (by repeat (first | assumption | exact List.mem_cons_self | apply List.mem_cons_of_mem))) _ _ (by omega) (by omega) | exact Rd.skip (Rd.skip (Rd.skip (Sat.rd H (by repeat (first | assumption | exact List.mem_cons_self | apply List.mem_cons_of_mem))) _ (by omega)) _ (by omega)) _ (by omega) | assumption) (by omega)
      cases e
      refine ⟨p, rfl, by omega, by omega, Option.some_ne_none _, hk 0, _, hc 0 (by omega), p, rfl, by omega, by omega, Option.some_ne_none _, hk 0, _, hc 0 (by omega), p, rfl, by omega, by omega, Option.some_ne_none _, hk 1, _, hc 1 (by omega), by omega, by omega, ?_⟩
      refine call_j (c23 (by first | exact (Sat.rd H (by repeat (first | assumption | exact List.mem_cons_self | apply List.mem_cons_of_mem))) | exact Rd.skip (Sat.rd H (by repeat (first | assumption | exact List.mem_cons_self | apply List.mem_cons_of_mem))) _ (by omega) | exact Rd.skip (Rd.skip (Sat.rd H (by repeat (first | assumption | exact List.mem_cons_self | apply List.mem_cons_of_mem))) _ (by omega)) _ (by omega) | exact Rd.cut (Sat.rd H (by repeat (first | assumption | exact List.mem_cons_self | apply List.mem_cons_of_mem))) _ _ (by omega) (by omega) | exact Rd.skip (Rd.skip (Rd.skip (Sat.rd H (by repeat (first | assumption | exact List.mem_cons_self | apply List.mem_cons_of_mem))) _ (by omega)) _ (by omega)) _ (by omega) | assumption) (by repeat (first | assumption | apply By.drop | apply By.take)) (by omega)) ?_
      rintro _ w ⟨rfl, g⟩
      replace H := H.grow g; replace K := World.grownBy.trans K (grew_none _ g); clear g
      refine ⟨_, rfl, K, ?_⟩
      refine sSw0 H rfl (by kernel_rfl) (by rfl) (by first | rfl | (simp only [List.all_cons, List.all_nil, Value.cells]; simp [*])) ?_; clear H; intro w _ H
      refine ⟨_, _, _, _, (by first | exact Ld0 rfl H.b0 (by kernel_rfl) | exact Ld0 rfl H.b1 (by kernel_rfl) | exact Ld0 rfl H.b2 (by kernel_rfl) | exact Ld0 rfl H.b3 (by kernel_rfl) | exact Ld0 rfl H.b4 (by kernel_rfl) | exact Ld0 rfl H.b5 (by kernel_rfl) | exact Ld0 rfl H.b6 (by kernel_rfl) | exact Ld0 rfl H.b7 (by kernel_rfl) | exact Ld0 rfl H.b8 (by kernel_rfl) | exact Ld0 rfl H.b9 (by kernel_rfl)), ?_⟩
      refine ⟨?_, H.done⟩
      rw [hdrVal, e1, hx.2.1, hx.2.2]
      rfl
end Go.Proofs.YtkdialecadjedaaGreat
