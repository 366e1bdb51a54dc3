/- laws.FnTransport, as a call (no statement of the seat is proved here; conditions: the slice reads bytes). -/
import Derived.Test.YtkdialecadjedaaGreatW6
import Derived.Test.YtkdialecadjedaaGreatSwL
namespace Go.Proofs.YtkdialecadjedaaGreat
set_option linter.unusedVariables false
set_option linter.unusedSimpArgs false
set_option linter.unusedSectionVars false
open Go

set_option maxRecDepth 20000 in
theorem c3 {w : World} {a : Option Addr} {n c : Nat} {xs : List Int} (H : Sat ⟨w, fun _ => False⟩ w [] [Ro.B xs a n c]) (hb : By xs) :
    Calls pg 3 #[.slice a n c] w fun en w' => en = .returned (.bool true) ∧ w.grownBy w' none := by
  have hG : ∀ {w' : World} {ex : List Ex} {ro : List Ro}, Sat ⟨w, fun _ => False⟩ w' ex ro → w.grownBy w' none := fun h => Gr.none h.gr (fun _ _ h => h)
  generalize hF : (⟨w, fun _ => False⟩ : Fr) = F at H hG
  apply of3
  have hlen := H.lenB List.mem_cons_self
  refine ⟨fun _ => ⟨rfl, hG H⟩, fun _ => ?_⟩
  refine ⟨fun _ => ⟨rfl, hG H⟩, fun h => ?_⟩
  rw [decide_eq_false_iff_not] at h
  refine call_j (c4 H List.mem_cons_self hb (by omega)) ?_
  clear H
  rintro _ w1 ⟨cells, rfl, H⟩
  have hD := H.deep List.mem_cons_self
  have hcl := Pk.len hD
  have hfl := hD.flat (Pk.flat _)
  refine ⟨_, _, rfl, ?_⟩
  refine sNew H ?_; clear H; intro b4 w2 _ H
  refine sSw0 H rfl (by rw [hcl]; kernel_rfl) (by rw [hcl]; rfl) hfl ?_
  clear H; intro w3 _ H
  refine ⟨fun _ => ⟨rfl, hG H⟩, fun hv => ?_⟩
  have hv : (rdOne xs).1 = 0 := by simpa using hv
  obtain ⟨c0, rest, rfl⟩ : ∃ c0 rest, cells = c0 :: rest := by
    cases cells with
    | nil => simp at hcl
    | cons c0 rest => exact ⟨c0, rest, rfl⟩
  have hk : c0 = .int .i64 (rdOne xs).2.kind := by
    have := hD.head
    cases this
    rfl
  subst hk
  refine ⟨_, (by first | exact Ce (by first | exact add_flat _ _ _ | exact add_flat2 _ _ _ _ | rfl) H.b0 rfl | exact Ce (by first | exact add_flat _ _ _ | exact add_flat2 _ _ _ _ | rfl) H.b1 rfl | exact Ce (by first | exact add_flat _ _ _ | exact add_flat2 _ _ _ _ | rfl) H.b2 rfl | exact Ce (by first | exact add_flat _ _ _ | exact add_flat2 _ _ _ _ | rfl) H.b3 rfl | exact Ce (by first | exact add_flat _ _ _ | exact add_flat2 _ _ _ _ | rfl) H.b4 rfl | exact Ce (by first | exact add_flat _ _ _ | exact add_flat2 _ _ _ _ | rfl) H.b5 rfl | exact Ce (by first | exact add_flat _ _ _ | exact add_flat2 _ _ _ _ | rfl) H.b6 rfl | exact Ce (by first | exact add_flat _ _ _ | exact add_flat2 _ _ _ _ | rfl) H.b7 rfl | exact Ce (by first | exact add_flat _ _ _ | exact add_flat2 _ _ _ _ | rfl) H.b8 rfl | exact Ce (by first | exact add_flat _ _ _ | exact add_flat2 _ _ _ _ | rfl) H.b9 rfl), ?_⟩
  refine ⟨fun _ => ⟨rfl, hG H⟩, fun hk => ?_⟩
  have hk : (rdOne xs).2.kind = 13 := by simpa using hk
  obtain ⟨vs, ds, hT, _⟩ := tcc_of_one hv hk
  refine call_j (c5 (xs := xs) H (by simp) hb hT (by omega)) ?_
  clear H
  rintro _ w4 ⟨st, sc, de, ec, rfl, H⟩
  refine ⟨_, _, rfl, ?_⟩
  refine sNew H ?_; clear H; intro b11 w5 _ H
  refine sSw0 H rfl (by kernel_rfl) (by rfl) (by first | rfl | (simp only [List.all_cons, List.all_nil, Value.cells]; simp [*])) ?_
  clear H; intro w6 _ H
  refine ⟨_, (by first | exact Ld0 rfl H.b0 (by kernel_rfl) | exact Ld0 rfl H.b1 (by kernel_rfl) | exact Ld0 rfl H.b2 (by kernel_rfl) | exact Ld0 rfl H.b3 (by kernel_rfl) | exact Ld0 rfl H.b4 (by kernel_rfl) | exact Ld0 rfl H.b5 (by kernel_rfl) | exact Ld0 rfl H.b6 (by kernel_rfl) | exact Ld0 rfl H.b7 (by kernel_rfl) | exact Ld0 rfl H.b8 (by kernel_rfl) | exact Ld0 rfl H.b9 (by kernel_rfl)), ?_⟩
  refine call_j (c6 H hb hT (by omega) List.mem_cons_self (List.mem_cons_of_mem _ List.mem_cons_self)) ?_
  clear H
  rintro _ w7 ⟨a', c', rfl, H⟩
  refine ⟨_, _, _, _, rfl, ?_⟩
  refine ⟨fun _ => ?_, fun h => absurd h (by decide)⟩
  refine ⟨fun _ => ?_, fun h => absurd h (by decide)⟩
  refine ⟨_, _, sStr H List.mem_cons_self uSl uU8 uStr, ?_⟩
  refine ⟨_, _, sStr (xs := xs) (a := a) (n := n) (c := c) H (by simp) uSl uU8 uStr, ?_⟩
  refine ⟨fun _ => ?_, fun h => absurd (show (true = false) from (by rw [← h]; simp)) (by decide)⟩
  refine ⟨_, (by first | exact Ld0 rfl H.b0 (by kernel_rfl) | exact Ld0 rfl H.b1 (by kernel_rfl) | exact Ld0 rfl H.b2 (by kernel_rfl) | exact Ld0 rfl H.b3 (by kernel_rfl) | exact Ld0 rfl H.b4 (by kernel_rfl) | exact Ld0 rfl H.b5 (by kernel_rfl) | exact Ld0 rfl H.b6 (by kernel_rfl) | exact Ld0 rfl H.b7 (by kernel_rfl) | exact Ld0 rfl H.b8 (by kernel_rfl) | exact Ld0 rfl H.b9 (by kernel_rfl)), ?_⟩
  refine call_j (c7 H hb hT (by omega) (List.mem_cons_of_mem _ List.mem_cons_self) (List.mem_cons_of_mem _ (List.mem_cons_of_mem _ List.mem_cons_self))) ?_
  clear H
  rintro _ w8 ⟨rfl, H⟩
  refine ⟨_, rfl, ?_, hG H⟩
  rw [hlen]
  simp
end Go.Proofs.YtkdialecadjedaaGreat
