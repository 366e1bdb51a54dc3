/- spec.readTransport: what it computes (no statement of the seat is proved here; conditions: its slice reads bytes). -/
import Derived.Test.YtkdialecadjedaaGreatRdE
namespace Go.Proofs.YtkdialecadjedaaGreat
set_option linter.unusedVariables false
set_option linter.unusedSimpArgs false
set_option linter.unusedSectionVars false
open Go

/-- The cells of transport-wide feedback. -/
def pkT (s m : Int) (hp : Bool) (hc ht hl b c f k : Int) (st de : Value) : List Value :=
  [.int .i64 13, .int .u32 s, .int .u32 m, .int .u64 0, .int .u32 0, .int .u32 0, .int .u32 0, .slice none 0 0, .slice none 0 0, .slice none 0 0, .slice none 0 0, .string ⟨#[]⟩, .int .u8 0, .slice none 0 0,
   .slice none 0 0, .slice none 0 0, .slice none 0 0, .int .u32 0, .slice none 0 0, .int .u32 0, .int .u16 b, .int .u16 c, .int .u32 f, .int .u8 k, st, de, .bool hp, .int .u8 hc, .int .u8 ht, .int .u16 hl]
theorem oi_length (k : IntKind) (l : List Int) : (oi k l).length = l.length := by simp [oi]
theorem oi_get (k : IntKind) (l : List Int) (i : Nat) (h : i < l.length) : (oi k l)[i]? = some (.one (.int k (l.getD i 0))) := by
  simp [oi, List.getD, List.getElem?_eq_getElem h]
theorem symL_run {v : Int} (h : v / 32768 = 0) : symL v = List.replicate (v % 8192).toNat (v / 8192 % 4) := by unfold symL; rw [if_pos h]
/-- The symbols of a vector, out of its middle. -/
def vecL (v S : Int) (t : Nat) : List Int := (List.range t).map fun k => if S = 0 then bitAt v (13 - k) 2 else bitAt v (12 - 2 * k) 4
theorem vecL_succ (v S : Int) (t : Nat) : vecL v S (t + 1) = vecL v S t ++ [if S = 0 then bitAt v (13 - t) 2 else bitAt v (12 - 2 * t) 4] := by simp [vecL, List.range_succ]
theorem symL_vec {v : Int} (h : v / 32768 ≠ 0) (hv : 0 ≤ v ∧ v < 65536) : symL v = vecL v (v / 16384 % 2) (if v / 16384 % 2 = 0 then 14 else 7) := by
  unfold symL
  rw [if_neg h]
  by_cases hS : v / 16384 % 2 = 0
  · rw [if_pos hS, if_pos hS, hS]; rfl
  · have : v / 16384 % 2 = 1 := by omega
    rw [if_neg hS, if_neg hS, this]; rfl
theorem symL_len {v : Int} (hv : 0 ≤ v ∧ v < 65536) : (symL v).length ≤ 8191 := by
  by_cases h : v / 32768 = 0
  · rw [symL_run h, List.length_replicate]; omega
  · rw [symL_vec h hv]; unfold vecL; split <;> simp
theorem symL_len2 {v : Int} (hv : 0 ≤ v ∧ v < 65536) : (v / 32768 = 0 → (symL v).length = (v % 8192).toNat) ∧ (v / 32768 ≠ 0 → (symL v).length ≤ 14) := by
  refine ⟨fun h => by rw [symL_run h, List.length_replicate], fun h => ?_⟩
  rw [symL_vec h hv]; unfold vecL; split <;> simp
theorem symL_range {v : Int} (hv : 0 ≤ v ∧ v < 65536) : ∀ x ∈ symL v, 0 ≤ x ∧ x < 4 := by
  intro x hx
  by_cases h : v / 32768 = 0
  · rw [symL_run h] at hx
    have := List.eq_of_mem_replicate hx
    omega
  · rw [symL_vec h hv] at hx
    simp only [vecL, List.mem_map] at hx
    obtain ⟨k, _, rfl⟩ := hx
    unfold bitAt
    split <;> omega
theorem recv_range {l : List Int} : ∀ x ∈ recv l, x = 1 ∨ x = 2 := by
  intro x hx
  have := (List.mem_filter.1 hx).2
  simpa using this
theorem recv_append (l k : List Int) : recv (l ++ k) = recv l ++ recv k := by simp [recv]
theorem getD_mem {l : List Int} {i : Nat} (h : i < l.length) : l.getD i 0 ∈ l := by
  simp only [List.getD, List.getElem?_eq_getElem h, Option.getD_some]; exact List.getElem_mem h
theorem take_snoc {l : List Int} {i : Nat} (h : i < l.length) : l.take (i + 1) = l.take i ++ [l.getD i 0] := by
  rw [List.take_succ_eq_append_getElem h]; simp [List.getD, List.getElem?_eq_getElem h]
theorem drop_cons {l : List Int} {i : Nat} (h : i < l.length) : l.drop i = l.getD i 0 :: l.drop (i + 1) := by
  rw [List.drop_eq_getElem_cons h]; simp [List.getD, List.getElem?_eq_getElem h]
theorem bit_of {v : Int} (hv : 0 ≤ v ∧ v < 65536) (i : Nat) (hi : i ≤ 15) : iand .u16 (ishr .u16 v (i : Int)) (1 : Int) = bitAt v i 2 ∧ iand .u16 (ishr .u16 v (i : Int)) (3 : Int) = bitAt v i 4 := by
  have e1 : ishr .u16 v (i : Int) = v / 2 ^ i := ishr_of i rfl (by simp only [IntKind.bits]; omega)
  have h0 : 0 ≤ v / 2 ^ i := Int.ediv_nonneg hv.1 (by exact_mod_cast Nat.zero_le _)
  have h1 : v / 2 ^ i < 65536 := by
    have := Int.ediv_le_self (a := v) (2 ^ i) hv.1
    omega
  rw [e1]
  exact ⟨iand_low (k := .u16) (by rfl) 1 h0 (by simp only [IntKind.bits]; omega) (by omega) (by decide), iand_low (k := .u16) (by rfl) 2 h0 (by simp only [IntKind.bits]; omega) (by omega) (by decide)⟩
set_option maxHeartbeats 2000000 in
theorem c28 {F : Fr} {w : World} {ex : List Ex} {ro : List Ro} {xs : List Int} {a : Option Addr} {n c : Nat} {p : Nat} {s m : Int} {hp : Bool} {hc ht hl : Int} (H : Sat F w (.blk p 38 (pk0 13 s m hp hc ht hl) :: ex) ro) (hx : Ro.B xs a n c ∈ ro) (hb : By xs)
    (hn : n ≤ 1000000) : Calls pg 28 #[.pointer (some ⟨p, 0, none⟩), .slice a n c] w (RdPost F p ex ro (rdT s m hp hc ht hl xs)) := by
  apply of28
  have hlen := H.lenB hx
  refine ⟨fun h1 => ?_, fun h1 => ?_⟩   -- (decide (((b_1l : Nat) : Int) < (8 : Int)))
  · rw [decide_eq_true_eq] at h1
    exact RdPost.no (by unfold rdT; rw [if_pos (by omega)]) H
  rw [decide_eq_false_iff_not] at h1
  refine ⟨some p, ?_⟩; replace H := H.drew; generalize w.drew = wd1 at H ⊢; have K := grew_refl wd1 (some p)
  refine ⟨by omega, by omega, ?_⟩
  refine ⟨by omega, by omega, ?_⟩
  obtain ⟨p_2, rfl, hp_2, kp_2, fp_2⟩ := H.at_ (a := a) hx (by omega)
  refine ⟨p_2, rfl, by omega, by omega, ?_⟩   -- b_1[(7 : Int)]
  refine ⟨H.ne_blk (by first | exact List.mem_cons_self | (apply List.mem_cons_of_mem; first | exact List.mem_cons_self | (apply List.mem_cons_of_mem; first | exact List.mem_cons_self | (apply List.mem_cons_of_mem; first | exact List.mem_cons_self | (apply List.mem_cons_of_mem; first | exact List.mem_cons_self | (apply List.mem_cons_of_mem; first | exact List.mem_cons_self | (apply List.mem_cons_of_mem; first | exact List.mem_cons_self | (apply List.mem_cons_of_mem; first | exact List.mem_cons_self)))))))) (fp_2 _), ?_⟩   -- some ((p_2.add ((7 : Int).toNat * 1))).block ≠ r1
  refine ⟨kp_2 _, ?_⟩   -- ∃ c ty f, wd1.heap[((p_2.add ((7 : Int).toNat * 1))).block]?
  refine ⟨_, hp_2 7 (by omega), ?_⟩   -- wd1.cell? (p_2.add ((7 : Int).toNat * 1)) = some (.int .u8 x3)
  refine call_j (c23 (by first | exact (Sat.rd H (by first | assumption | exact List.mem_cons_self | (apply List.mem_cons_of_mem; first | assumption | exact List.mem_cons_self | (apply List.mem_cons_of_mem; first | assumption | exact List.mem_cons_self | (apply List.mem_cons_of_mem; first | assumption | exact List.mem_cons_self | (apply List.mem_cons_of_mem; first | assumption | exact List.mem_cons_self | (apply List.mem_cons_of_mem; first | assumption | exact List.mem_cons_self))))))) | exact Rd.skip (Sat.rd H (by first | assumption | exact List.mem_cons_self | (apply List.mem_cons_of_mem; first | assumption | exact List.mem_cons_self | (apply List.mem_cons_of_mem; first | assumption | exact List.mem_cons_self | (apply List.mem_cons_of_mem; first | assumption | exact List.mem_cons_self | (apply List.mem_cons_of_mem; first | assumption | exact List.mem_cons_self | (apply List.mem_cons_of_mem; first | assumption | exact List.mem_cons_self))))))) _ (by omega) | exact Rd.skip (Rd.skip (Sat.rd H (by first | assumption | exact List.mem_cons_self | (apply List.mem_cons_of_mem; first | assumption | exact List.mem_cons_self | (apply List.mem_cons_of_mem; first | assumption | exact List.mem_cons_self | (apply List.mem_cons_of_mem; first | assumption | exact List.mem_cons_self | (apply List.mem_cons_of_mem; first | assumption | exact List.mem_cons_self | (apply List.mem_cons_of_mem; first | assumption | exact List.mem_cons_self))))))) _ (by omega)) _ (by omega) | exact Rd.cut (Sat.rd H (by first | assumption | exact List.mem_cons_self | (apply List.mem_cons_of_mem; first | assumption | exact List.mem_cons_self | (apply List.mem_cons_of_mem; first | assumption | exact List.mem_cons_self | (apply List.mem_cons_of_mem; first | assumption | exact List.mem_cons_self | (apply List.mem_cons_of_mem; first | assumption | exact List.mem_cons_self | (apply List.mem_cons_of_mem; first | assumption | exact List.mem_cons_self))))))) _ _ (by omega) (by omega) | exact Rd.skip (Rd.skip (Rd.skip (Sat.rd H (by first | assumption | exact List.mem_cons_self | (apply List.mem_cons_of_mem; first | assumption | exact List.mem_cons_self | (apply List.mem_cons_of_mem; first | assumption | exact List.mem_cons_self | (apply List.mem_cons_of_mem; first | assumption | exact List.mem_cons_self | (apply List.mem_cons_of_mem; first | assumption | exact List.mem_cons_self | (apply List.mem_cons_of_mem; first | assumption | exact List.mem_cons_self))))))) _ (by omega)) _ (by omega)) _ (by omega) | assumption) hb (by omega)) ?_
  rintro _ w ⟨rfl, g⟩
  replace H := H.grow g; replace K := World.grownBy.trans K (grew_none _ g); clear g
  refine ⟨_, rfl, ?_⟩
  refine ⟨K, ?_⟩   -- wd1.grownBy w_5 r1
  refine call_j (c23 (by first | exact (Sat.rd H (by first | assumption | exact List.mem_cons_self | (apply List.mem_cons_of_mem; first | assumption | exact List.mem_cons_self | (apply List.mem_cons_of_mem; first | assumption | exact List.mem_cons_self | (apply List.mem_cons_of_mem; first | assumption | exact List.mem_cons_self | (apply List.mem_cons_of_mem; first | assumption | exact List.mem_cons_self | (apply List.mem_cons_of_mem; first | assumption | exact List.mem_cons_self))))))) | exact Rd.skip (Sat.rd H (by first | assumption | exact List.mem_cons_self | (apply List.mem_cons_of_mem; first | assumption | exact List.mem_cons_self | (apply List.mem_cons_of_mem; first | assumption | exact List.mem_cons_self | (apply List.mem_cons_of_mem; first | assumption | exact List.mem_cons_self | (apply List.mem_cons_of_mem; first | assumption | exact List.mem_cons_self | (apply List.mem_cons_of_mem; first | assumption | exact List.mem_cons_self))))))) _ (by omega) | exact Rd.skip (Rd.skip (Sat.rd H (by first | assumption | exact List.mem_cons_self | (apply List.mem_cons_of_mem; first | assumption | exact List.mem_cons_self | (apply List.mem_cons_of_mem; first | assumption | exact List.mem_cons_self | (apply List.mem_cons_of_mem; first | assumption | exact List.mem_cons_self | (apply List.mem_cons_of_mem; first | assumption | exact List.mem_cons_self | (apply List.mem_cons_of_mem; first | assumption | exact List.mem_cons_self))))))) _ (by omega)) _ (by omega) | exact Rd.cut (Sat.rd H (by first | assumption | exact List.mem_cons_self | (apply List.mem_cons_of_mem; first | assumption | exact List.mem_cons_self | (apply List.mem_cons_of_mem; first | assumption | exact List.mem_cons_self | (apply List.mem_cons_of_mem; first | assumption | exact List.mem_cons_self | (apply List.mem_cons_of_mem; first | assumption | exact List.mem_cons_self | (apply List.mem_cons_of_mem; first | assumption | exact List.mem_cons_self))))))) _ _ (by omega) (by omega) | exact Rd.skip (Rd.skip (Rd.skip (Sat.rd H (by first | assumption | exact List.mem_cons_self | (apply List.mem_cons_of_mem; first | assumption | exact List.mem_cons_self | (apply List.mem_cons_of_mem; first | assumption | exact List.mem_cons_self | (apply List.mem_cons_of_mem; first | assumption | exact List.mem_cons_self | (apply List.mem_cons_of_mem; first | assumption | exact List.mem_cons_self | (apply List.mem_cons_of_mem; first | assumption | exact List.mem_cons_self))))))) _ (by omega)) _ (by omega)) _ (by omega) | assumption) (hb.drop 2) (by omega)) ?_
  rintro _ w ⟨rfl, g⟩
  replace H := H.grow g; replace K := World.grownBy.trans K (grew_none _ g); clear g
  refine ⟨_, rfl, ?_⟩
  refine ⟨K, ?_⟩   -- wd1.grownBy w_7 r1
  refine call_j (c25 (by first | exact (Sat.rd H (by first | assumption | exact List.mem_cons_self | (apply List.mem_cons_of_mem; first | assumption | exact List.mem_cons_self | (apply List.mem_cons_of_mem; first | assumption | exact List.mem_cons_self | (apply List.mem_cons_of_mem; first | assumption | exact List.mem_cons_self | (apply List.mem_cons_of_mem; first | assumption | exact List.mem_cons_self | (apply List.mem_cons_of_mem; first | assumption | exact List.mem_cons_self))))))) | exact Rd.skip (Sat.rd H (by first | assumption | exact List.mem_cons_self | (apply List.mem_cons_of_mem; first | assumption | exact List.mem_cons_self | (apply List.mem_cons_of_mem; first | assumption | exact List.mem_cons_self | (apply List.mem_cons_of_mem; first | assumption | exact List.mem_cons_self | (apply List.mem_cons_of_mem; first | assumption | exact List.mem_cons_self | (apply List.mem_cons_of_mem; first | assumption | exact List.mem_cons_self))))))) _ (by omega) | exact Rd.skip (Rd.skip (Sat.rd H (by first | assumption | exact List.mem_cons_self | (apply List.mem_cons_of_mem; first | assumption | exact List.mem_cons_self | (apply List.mem_cons_of_mem; first | assumption | exact List.mem_cons_self | (apply List.mem_cons_of_mem; first | assumption | exact List.mem_cons_self | (apply List.mem_cons_of_mem; first | assumption | exact List.mem_cons_self | (apply List.mem_cons_of_mem; first | assumption | exact List.mem_cons_self))))))) _ (by omega)) _ (by omega) | exact Rd.cut (Sat.rd H (by first | assumption | exact List.mem_cons_self | (apply List.mem_cons_of_mem; first | assumption | exact List.mem_cons_self | (apply List.mem_cons_of_mem; first | assumption | exact List.mem_cons_self | (apply List.mem_cons_of_mem; first | assumption | exact List.mem_cons_self | (apply List.mem_cons_of_mem; first | assumption | exact List.mem_cons_self | (apply List.mem_cons_of_mem; first | assumption | exact List.mem_cons_self))))))) _ _ (by omega) (by omega) | exact Rd.skip (Rd.skip (Rd.skip (Sat.rd H (by first | assumption | exact List.mem_cons_self | (apply List.mem_cons_of_mem; first | assumption | exact List.mem_cons_self | (apply List.mem_cons_of_mem; first | assumption | exact List.mem_cons_self | (apply List.mem_cons_of_mem; first | assumption | exact List.mem_cons_self | (apply List.mem_cons_of_mem; first | assumption | exact List.mem_cons_self | (apply List.mem_cons_of_mem; first | assumption | exact List.mem_cons_self))))))) _ (by omega)) _ (by omega)) _ (by omega) | assumption) (hb.drop 4) (by omega)) ?_
  rintro _ w ⟨rfl, g⟩
  replace H := H.grow g; replace K := World.grownBy.trans K (grew_none _ g); clear g
  refine ⟨_, rfl, ?_⟩
  refine ⟨K, ?_⟩   -- wd1.grownBy w_9 r1
  refine ⟨_, rfl, ?_⟩
  refine sSt0 H (by first | exact add_flat _ _ _ | exact add_flat2 _ _ _ _ | rfl) (by kernel_rfl) (by rfl) (by first | rfl | (simp only [List.all_cons, List.all_nil, Value.cells]; simp [*])) ?_; clear H; intro w g H; replace K := World.grownBy.trans K g; clear g   -- StV pg 32 (p_10.add 20) (.int .u16 x4) w_9 w_11
  refine ⟨K, ?_⟩   -- wd1.grownBy w_11 r1
  refine ⟨_, rfl, ?_⟩
  refine sSt0 H (by first | exact add_flat _ _ _ | exact add_flat2 _ _ _ _ | rfl) (by kernel_rfl) (by rfl) (by first | rfl | (simp only [List.all_cons, List.all_nil, Value.cells]; simp [*])) ?_; clear H; intro w g H; replace K := World.grownBy.trans K g; clear g   -- StV pg 32 (p_12.add 21) (.int .u16 x6) w_11 w_13
  refine ⟨K, ?_⟩   -- wd1.grownBy w_13 r1
  refine ⟨_, rfl, ?_⟩
  refine sSt0 H (by first | exact add_flat _ _ _ | exact add_flat2 _ _ _ _ | rfl) (by kernel_rfl) (by rfl) (by first | rfl | (simp only [List.all_cons, List.all_nil, Value.cells]; simp [*])) ?_; clear H; intro w g H; replace K := World.grownBy.trans K g; clear g   -- StV pg 23 (p_14.add 22) (.int .u32 x8) w_13 w_15
  refine ⟨K, ?_⟩   -- wd1.grownBy w_15 r1
  refine ⟨_, rfl, ?_⟩
  refine sSt0 H (by first | exact add_flat _ _ _ | exact add_flat2 _ _ _ _ | rfl) (by kernel_rfl) (by rfl) (by first | rfl | (simp only [List.all_cons, List.all_nil, Value.cells]; simp [*])) ?_; clear H; intro w _ H   -- StV pg 5 (p_16.add 23) (.int .u8 x3) w_15 w_17
  refine ⟨by omega, by omega, ?_⟩
  refine ⟨_, rfl, ?_⟩
  refine ⟨_, (by first | exact Ce (by first | exact add_flat _ _ _ | exact add_flat2 _ _ _ _ | rfl) H.b0 rfl | exact Ce (by first | exact add_flat _ _ _ | exact add_flat2 _ _ _ _ | rfl) H.b1 rfl | exact Ce (by first | exact add_flat _ _ _ | exact add_flat2 _ _ _ _ | rfl) H.b2 rfl | exact Ce (by first | exact add_flat _ _ _ | exact add_flat2 _ _ _ _ | rfl) H.b3 rfl | exact Ce (by first | exact add_flat _ _ _ | exact add_flat2 _ _ _ _ | rfl) H.b4 rfl | exact Ce (by first | exact add_flat _ _ _ | exact add_flat2 _ _ _ _ | rfl) H.b5 rfl | exact Ce (by first | exact add_flat _ _ _ | exact add_flat2 _ _ _ _ | rfl) H.b6 rfl | exact Ce (by first | exact add_flat _ _ _ | exact add_flat2 _ _ _ _ | rfl) H.b7 rfl | exact Ce (by first | exact add_flat _ _ _ | exact add_flat2 _ _ _ _ | rfl) H.b8 rfl | exact Ce (by first | exact add_flat _ _ _ | exact add_flat2 _ _ _ _ | rfl) H.b9 rfl), ?_⟩   -- w_17.cell? (p_18.add 21) = some (.int .u16 x19)
  have hcnt := n16_lt (hb.drop 2)
  rw [wi64_of (n := n16 (xs.drop 2)) (by omega) (by omega)]
  refine ⟨fun h2 => ?_, fun h2 => ?_⟩   -- ((IntKind.i64.wrap x19) == (0 : Int))
  · have h2 : n16 (xs.drop 2) = 0 := by simpa using h2
    exact RdPost.no (by unfold rdT; rw [if_neg (by omega), if_pos h2]) H
  have h2 : ¬ n16 (xs.drop 2) = 0 := by simpa using h2
  have hU : rdT s m hp hc ht hl xs = match tccC xs.length (n16 (xs.drop 2)) (xs.drop 8) with
    | none => none
    | some (vs, ys) => if (recv (vs.flatMap symL)).length = 0 then none else match tccD (recv (vs.flatMap symL)) ys with
      | none => none
      | some (ds, zs) => if zs.all (· == 0) ∧ zs.length ≤ 3 then
          some { kind := 13, sender := s, media := m, base := n16 xs, count := n16 (xs.drop 2), ref := n24 (xs.drop 4), fb := xs.getD 7 0, statuses := vs.map sta1, deltas := ds, hp := hp, hc := hc, ht := ht, hl := hl } else none := by
    unfold rdT; rw [if_neg (by omega), if_neg h2]; rfl
  have h8 := hb.drop 8
  have H1 := H.skipB hx 8 (by omega)
  replace H : Sat F w (.blk p 38 (pkT s m hp hc ht hl (n16 xs) (n16 (xs.drop 2)) (n24 (xs.drop 4)) (xs.getD 7 0) (.slice none 0 0) (.slice none 0 0)) :: ex) (Ro.B (xs.drop 8) (cutA (some p_2) 8 c 1) (n - 8) (c - 8) :: ro) := H1
  clear H1
  generalize n16 (xs.drop 2) = CN at H hU h2 hcnt ⊢
  generalize n16 xs = BA at H hU ⊢
  generalize n24 (xs.drop 4) = RE at H hU ⊢
  generalize xs.getD 7 0 = FB at H hU ⊢
  generalize hxs8 : xs.drop 8 = xs8 at H hU h8 ⊢
  refine ⟨fun b26 b26l b26c left27 received28 received28l received28c m_22 w => ∃ (ys : List Int) (vs : List Int) (o : Option Addr) (oc : Nat) (r rr : Option Nat), By ys ∧ -20 ≤ left27 ∧ (recv (vs.flatMap symL)).length + left27 ≤ 65535 ∧ b26l + 1 ≤ m_22 ∧ vs.length + m_22 ≤ n ∧ b26l ≤ n ∧
    received28l = (recv (vs.flatMap symL)).length ∧ tccC xs.length CN xs8 = (tccC m_22 left27 ys).map (fun q => (vs ++ q.1, q.2)) ∧
    Sat F w (.own 32 1 received28 received28l received28c rr (oi .u16 (recv (vs.flatMap symL))) :: .blk p 38 (pkT s m hp hc ht hl BA CN RE FB (.slice o vs.length oc) (.slice none 0 0)) :: .own 167 5 o vs.length oc r ((vs.map sta1).flatMap Sta.dat) :: ex) (Ro.B ys b26 b26l b26c :: ro),
    ⟨n, xs8, [], none, 0, none, none, h8, by omega, by simp [recv]; omega, by omega, by simp, by omega, rfl, ?_, ?_⟩, ?_⟩
  · rw [hlen]; cases tccC n CN xs8 <;> simp
  · exact ((H.nilOwn 167 5).u1).nilOwn 32 1
  clear H; rintro dd21 b26 b26l b26c left27 received28 received28l received28c m_22 w ⟨ys, vs, o, oc, r, rr, hby, hL0, hRL, hfu, hvm, hbl, rfl, htc, H⟩
  have hyl := H.lenB List.mem_cons_self
  obtain ⟨f, rfl⟩ : ∃ f, m_22 = f + 1 := ⟨m_22 - 1, by omega⟩
  simp only [tccC] at htc
  refine ⟨fun h3 => ?_, fun h3 => ?_⟩   -- (decide (left27 > (0 : Int)))
  · rw [decide_eq_true_eq] at h3
    rw [if_neg (by omega)] at htc
    refine ⟨fun h4 => ?_, fun h4 => ?_⟩   -- (decide (((b26l : Nat) : Int) < (2 : Int)))
    · rw [decide_eq_true_eq] at h4
      rw [if_pos (by omega)] at htc
      exact RdPost.no (by rw [hU, htc]; rfl) (H.sub (by repeat (first | exact List.Sublist.refl _ | exact List.nil_sublist _ | apply List.Sublist.cons_cons | apply List.Sublist.cons)) (fun r hr => by (try simp only [List.mem_cons] at hr ⊢); (repeat (first | (rcases hr with rfl | hr; (first | (left; rfl) | (right; left; rfl) | (right; right; left; rfl) | (right; right; right; left; rfl) | (right; right; right; right; left; rfl)))  | (simp [hr]; done) | assumption | exact hr.elim))))
    rw [decide_eq_false_iff_not] at h4
    rw [if_neg (by omega)] at htc
    refine call_j (c23 (by first | exact (Sat.rd H (by first | assumption | exact List.mem_cons_self | (apply List.mem_cons_of_mem; first | assumption | exact List.mem_cons_self | (apply List.mem_cons_of_mem; first | assumption | exact List.mem_cons_self | (apply List.mem_cons_of_mem; first | assumption | exact List.mem_cons_self | (apply List.mem_cons_of_mem; first | assumption | exact List.mem_cons_self | (apply List.mem_cons_of_mem; first | assumption | exact List.mem_cons_self))))))) | exact Rd.skip (Sat.rd H (by first | assumption | exact List.mem_cons_self | (apply List.mem_cons_of_mem; first | assumption | exact List.mem_cons_self | (apply List.mem_cons_of_mem; first | assumption | exact List.mem_cons_self | (apply List.mem_cons_of_mem; first | assumption | exact List.mem_cons_self | (apply List.mem_cons_of_mem; first | assumption | exact List.mem_cons_self | (apply List.mem_cons_of_mem; first | assumption | exact List.mem_cons_self))))))) _ (by omega) | exact Rd.skip (Rd.skip (Sat.rd H (by first | assumption | exact List.mem_cons_self | (apply List.mem_cons_of_mem; first | assumption | exact List.mem_cons_self | (apply List.mem_cons_of_mem; first | assumption | exact List.mem_cons_self | (apply List.mem_cons_of_mem; first | assumption | exact List.mem_cons_self | (apply List.mem_cons_of_mem; first | assumption | exact List.mem_cons_self | (apply List.mem_cons_of_mem; first | assumption | exact List.mem_cons_self))))))) _ (by omega)) _ (by omega) | exact Rd.cut (Sat.rd H (by first | assumption | exact List.mem_cons_self | (apply List.mem_cons_of_mem; first | assumption | exact List.mem_cons_self | (apply List.mem_cons_of_mem; first | assumption | exact List.mem_cons_self | (apply List.mem_cons_of_mem; first | assumption | exact List.mem_cons_self | (apply List.mem_cons_of_mem; first | assumption | exact List.mem_cons_self | (apply List.mem_cons_of_mem; first | assumption | exact List.mem_cons_self))))))) _ _ (by omega) (by omega) | exact Rd.skip (Rd.skip (Rd.skip (Sat.rd H (by first | assumption | exact List.mem_cons_self | (apply List.mem_cons_of_mem; first | assumption | exact List.mem_cons_self | (apply List.mem_cons_of_mem; first | assumption | exact List.mem_cons_self | (apply List.mem_cons_of_mem; first | assumption | exact List.mem_cons_self | (apply List.mem_cons_of_mem; first | assumption | exact List.mem_cons_self | (apply List.mem_cons_of_mem; first | assumption | exact List.mem_cons_self))))))) _ (by omega)) _ (by omega)) _ (by omega) | assumption) hby (by omega)) ?_
    rintro _ w ⟨rfl, g⟩
    replace H := H.grow g; clear g
    refine ⟨_, rfl, ?_⟩
    refine ⟨by omega, by omega, ?_⟩
    have hv := n16_lt hby
    generalize hvv : n16 ys = v at hv htc ⊢
    obtain ⟨e1, _, e3, e4⟩ := v_bits hv
    have hsl := symL_len hv
    refine ⟨fun l109 l109l l109c _ w => ∃ (o' : Option Addr) (oc' : Nat) (r' : Option Nat), ¬ (v / 32768 = 0 ∧ (v % 8192 = 0 ∨ left27 < v % 8192)) ∧ l109l = (symL v).length ∧
      Sat F w (.own 32 1 received28 (recv (vs.flatMap symL)).length received28c rr (oi .u16 (recv (vs.flatMap symL))) :: .blk p 38 (pkT s m hp hc ht hl BA CN RE FB (.slice o' (vs.length + 1) oc') (.slice none 0 0)) :: .own 167 5 o' (vs.length + 1) oc' r' (((vs ++ [v]).map sta1).flatMap Sta.dat) :: ex)
        (.deep [.row 1 (oi .u16 (symL v))] [.slice l109 l109l l109c] :: Ro.B ys b26 b26l b26c :: ro), ?_, ?_⟩
    · rw [e1, e3, e4]
      refine ⟨fun h5 => ?_, fun h5 => ?_⟩   -- ((ishr .u16 x29 (15 : Int)) == (0 : Int))
      · have h5 : v / 32768 = 0 := by simpa using h5
        refine sNew H ?_; clear H; intro b34 w _ H
        refine sSw0 H rfl (by kernel_rfl) (by rfl) (by first | rfl | (simp only [List.all_cons, List.all_nil, Value.cells]; simp [*])) ?_; clear H; intro w _ H
        refine ⟨_, (by first | exact Ce (by first | exact add_flat _ _ _ | exact add_flat2 _ _ _ _ | rfl) H.b0 rfl | exact Ce (by first | exact add_flat _ _ _ | exact add_flat2 _ _ _ _ | rfl) H.b1 rfl | exact Ce (by first | exact add_flat _ _ _ | exact add_flat2 _ _ _ _ | rfl) H.b2 rfl | exact Ce (by first | exact add_flat _ _ _ | exact add_flat2 _ _ _ _ | rfl) H.b3 rfl | exact Ce (by first | exact add_flat _ _ _ | exact add_flat2 _ _ _ _ | rfl) H.b4 rfl | exact Ce (by first | exact add_flat _ _ _ | exact add_flat2 _ _ _ _ | rfl) H.b5 rfl | exact Ce (by first | exact add_flat _ _ _ | exact add_flat2 _ _ _ _ | rfl) H.b6 rfl | exact Ce (by first | exact add_flat _ _ _ | exact add_flat2 _ _ _ _ | rfl) H.b7 rfl | exact Ce (by first | exact add_flat _ _ _ | exact add_flat2 _ _ _ _ | rfl) H.b8 rfl | exact Ce (by first | exact add_flat _ _ _ | exact add_flat2 _ _ _ _ | rfl) H.b9 rfl), ?_⟩   -- w_36.cell? (p_34.add 3) = some (.int .u16 x37)
        refine ⟨fun h6 => ?_, fun h6 => ?_⟩   -- (x37 == (0 : Int))
        · have h6 : v % 8192 = 0 := by simpa using h6
          rw [if_pos ⟨h5, .inl h6⟩] at htc
          exact RdPost.no (by rw [hU, htc]; rfl) (H.sub (by repeat (first | exact List.Sublist.refl _ | exact List.nil_sublist _ | apply List.Sublist.cons_cons | apply List.Sublist.cons)) (fun r hr => by (try simp only [List.mem_cons] at hr ⊢); (repeat (first | (rcases hr with rfl | hr; (first | (left; rfl) | (right; left; rfl) | (right; right; left; rfl) | (right; right; right; left; rfl) | (right; right; right; right; left; rfl)))  | (simp [hr]; done) | assumption | exact hr.elim))))
        have h6 : ¬ v % 8192 = 0 := by simpa using h6
        refine ⟨_, (by first | exact Ce (by first | exact add_flat _ _ _ | exact add_flat2 _ _ _ _ | rfl) H.b0 rfl | exact Ce (by first | exact add_flat _ _ _ | exact add_flat2 _ _ _ _ | rfl) H.b1 rfl | exact Ce (by first | exact add_flat _ _ _ | exact add_flat2 _ _ _ _ | rfl) H.b2 rfl | exact Ce (by first | exact add_flat _ _ _ | exact add_flat2 _ _ _ _ | rfl) H.b3 rfl | exact Ce (by first | exact add_flat _ _ _ | exact add_flat2 _ _ _ _ | rfl) H.b4 rfl | exact Ce (by first | exact add_flat _ _ _ | exact add_flat2 _ _ _ _ | rfl) H.b5 rfl | exact Ce (by first | exact add_flat _ _ _ | exact add_flat2 _ _ _ _ | rfl) H.b6 rfl | exact Ce (by first | exact add_flat _ _ _ | exact add_flat2 _ _ _ _ | rfl) H.b7 rfl | exact Ce (by first | exact add_flat _ _ _ | exact add_flat2 _ _ _ _ | rfl) H.b8 rfl | exact Ce (by first | exact add_flat _ _ _ | exact add_flat2 _ _ _ _ | rfl) H.b9 rfl), ?_⟩   -- w_36.cell? (p_34.add 3) = some (.int .u16 x38)
        rw [wi64_of (n := v % 8192) (by omega) (by omega)]
        refine ⟨fun h7 => ?_, fun h7 => ?_⟩   -- (decide ((IntKind.i64.wrap x38) > left27))
        · rw [decide_eq_true_eq] at h7
          rw [if_pos ⟨h5, .inr (by omega)⟩] at htc
          exact RdPost.no (by rw [hU, htc]; rfl) (H.sub (by repeat (first | exact List.Sublist.refl _ | exact List.nil_sublist _ | apply List.Sublist.cons_cons | apply List.Sublist.cons)) (fun r hr => by (try simp only [List.mem_cons] at hr ⊢); (repeat (first | (rcases hr with rfl | hr; (first | (left; rfl) | (right; left; rfl) | (right; right; left; rfl) | (right; right; right; left; rfl) | (right; right; right; right; left; rfl)))  | (simp [hr]; done) | assumption | exact hr.elim))))
        rw [decide_eq_false_iff_not] at h7
        refine ⟨_, (by first | exact Ce (by first | exact add_flat _ _ _ | exact add_flat2 _ _ _ _ | rfl) H.b0 rfl | exact Ce (by first | exact add_flat _ _ _ | exact add_flat2 _ _ _ _ | rfl) H.b1 rfl | exact Ce (by first | exact add_flat _ _ _ | exact add_flat2 _ _ _ _ | rfl) H.b2 rfl | exact Ce (by first | exact add_flat _ _ _ | exact add_flat2 _ _ _ _ | rfl) H.b3 rfl | exact Ce (by first | exact add_flat _ _ _ | exact add_flat2 _ _ _ _ | rfl) H.b4 rfl | exact Ce (by first | exact add_flat _ _ _ | exact add_flat2 _ _ _ _ | rfl) H.b5 rfl | exact Ce (by first | exact add_flat _ _ _ | exact add_flat2 _ _ _ _ | rfl) H.b6 rfl | exact Ce (by first | exact add_flat _ _ _ | exact add_flat2 _ _ _ _ | rfl) H.b7 rfl | exact Ce (by first | exact add_flat _ _ _ | exact add_flat2 _ _ _ _ | rfl) H.b8 rfl | exact Ce (by first | exact add_flat _ _ _ | exact add_flat2 _ _ _ _ | rfl) H.b9 rfl), ?_⟩   -- w_36.cell? (p_34.add 3) = some (.int .u16 x39)
        refine ⟨fun l46 l46l l46c x47 m_42 w => ∃ (i : Nat) (r3 : Option Nat), x47 = (i : Int) ∧ (i : Int) + m_42 = v % 8192 ∧ l46l = i ∧
          Sat F w (.own 32 1 l46 l46l l46c r3 (oi .u16 (List.replicate i (v / 8192 % 4))) :: .blk b34 167 [.bool false, .int .u16 (v / 8192 % 4), .int .u16 0, .int .u16 (v % 8192), .slice none 0 0] ::
            .own 32 1 received28 (recv (vs.flatMap symL)).length received28c rr (oi .u16 (recv (vs.flatMap symL))) :: .blk p 38 (pkT s m hp hc ht hl BA CN RE FB (.slice o vs.length oc) (.slice none 0 0)) :: .own 167 5 o vs.length oc r ((vs.map sta1).flatMap Sta.dat) :: ex) (Ro.B ys b26 b26l b26c :: ro),
          ⟨(v % 8192).toNat, 0, none, rfl, by omega, rfl, H.nilOwn _ _⟩, ?_⟩
        clear H; rintro dd41 l46 l46l l46c x47 m_42 w ⟨i, r3, rfl, hi, rfl, H⟩
        refine ⟨fun h8 => ?_, fun h8 => ?_⟩   -- (decide (x47 < x39))
        · rw [decide_eq_true_eq] at h8
          refine ⟨_, (by first | exact Ce (by first | exact add_flat _ _ _ | exact add_flat2 _ _ _ _ | rfl) H.b0 rfl | exact Ce (by first | exact add_flat _ _ _ | exact add_flat2 _ _ _ _ | rfl) H.b1 rfl | exact Ce (by first | exact add_flat _ _ _ | exact add_flat2 _ _ _ _ | rfl) H.b2 rfl | exact Ce (by first | exact add_flat _ _ _ | exact add_flat2 _ _ _ _ | rfl) H.b3 rfl | exact Ce (by first | exact add_flat _ _ _ | exact add_flat2 _ _ _ _ | rfl) H.b4 rfl | exact Ce (by first | exact add_flat _ _ _ | exact add_flat2 _ _ _ _ | rfl) H.b5 rfl | exact Ce (by first | exact add_flat _ _ _ | exact add_flat2 _ _ _ _ | rfl) H.b6 rfl | exact Ce (by first | exact add_flat _ _ _ | exact add_flat2 _ _ _ _ | rfl) H.b7 rfl | exact Ce (by first | exact add_flat _ _ _ | exact add_flat2 _ _ _ _ | rfl) H.b8 rfl | exact Ce (by first | exact add_flat _ _ _ | exact add_flat2 _ _ _ _ | rfl) H.b9 rfl), ?_⟩   -- w_45.cell? (p_34.add 1) = some (.int .u16 x48)
          refine ⟨rfl, ?_⟩
          refine sPush0 H (bytes := 2) (by kernel_rfl) [.one (.int .u16 (v / 8192 % 4))] (by rfl) (fun G h => by repeat (first | exact DeepL.nil _ _ | exact DeepL.ones _ | refine DeepL.cons (Deep.emp _ _) ?_ | refine DeepL.cons (Deep.one _) ?_ | refine DeepL.cons (h (.deep [_] [_]) (by assumption)).head ?_ | refine DeepL.cons (h (.deep [_] [_]) (by first | assumption | exact List.mem_cons_self | (apply List.mem_cons_of_mem; first | assumption | exact List.mem_cons_self | (apply List.mem_cons_of_mem; first | assumption | exact List.mem_cons_self | (apply List.mem_cons_of_mem; first | assumption | exact List.mem_cons_self | (apply List.mem_cons_of_mem; first | assumption | exact List.mem_cons_self | (apply List.mem_cons_of_mem; first | assumption | exact List.mem_cons_self))))))).head ?_)) (by rfl) (by unfold maxLen; omega) (by omega) ?_
          clear H; intro x51 x51l x51c x51r w ex51 _ H
          refine ⟨m_42 - 1, by omega, l46l + 1, x51r, ?_, by omega, ex51, ?_⟩
          · rw [wu16]; omega
          · rw [List.replicate_succ', oi_snoc]
            exact H
        rw [decide_eq_false_iff_not] at h8
        have hrun : List.replicate l46l (v / 8192 % 4) = symL v := by rw [symL_run h5]; congr 1; omega
        have hll : l46l = (symL v).length := by rw [← hrun]; simp
        rw [hrun] at H
        replace H := H.freeze
        refine ⟨r, ?_⟩; replace H := H.drew; generalize w.drew = wd2 at H ⊢; have K := grew_refl wd2 (r)
        refine ⟨_, rfl, ?_⟩
        refine ⟨(by first | exact Option.some_ne_none _ | exact H.ne (by first | exact List.mem_cons_self | (apply List.mem_cons_of_mem; first | exact List.mem_cons_self | (apply List.mem_cons_of_mem; first | exact List.mem_cons_self | (apply List.mem_cons_of_mem; first | exact List.mem_cons_self | (apply List.mem_cons_of_mem; first | exact List.mem_cons_self | (apply List.mem_cons_of_mem; first | exact List.mem_cons_self | (apply List.mem_cons_of_mem; first | exact List.mem_cons_self | (apply List.mem_cons_of_mem; first | exact List.mem_cons_self)))))))) (by first | exact List.mem_cons_self | (apply List.mem_cons_of_mem; first | exact List.mem_cons_self | (apply List.mem_cons_of_mem; first | exact List.mem_cons_self | (apply List.mem_cons_of_mem; first | exact List.mem_cons_self | (apply List.mem_cons_of_mem; first | exact List.mem_cons_self | (apply List.mem_cons_of_mem; first | exact List.mem_cons_self | (apply List.mem_cons_of_mem; first | exact List.mem_cons_self | (apply List.mem_cons_of_mem; first | exact List.mem_cons_self))))))))), ?_⟩   -- some ((p_54.add 24)).block ≠ r53
        refine ⟨(by first | exact H.b0.row | exact H.b1.row | exact H.b2.row | exact H.b3.row | exact H.b4.row | exact H.b5.row | exact H.b6.row | exact H.b7.row), ?_⟩   -- ∃ c ty f, wd2.heap[((p_54.add 24)).block]? = some (.cells c
        refine ⟨_, _, _, (by first | exact Ce (by first | exact add_flat _ _ _ | exact add_flat2 _ _ _ _ | rfl) H.b0 rfl | exact Ce (by first | exact add_flat _ _ _ | exact add_flat2 _ _ _ _ | rfl) H.b1 rfl | exact Ce (by first | exact add_flat _ _ _ | exact add_flat2 _ _ _ _ | rfl) H.b2 rfl | exact Ce (by first | exact add_flat _ _ _ | exact add_flat2 _ _ _ _ | rfl) H.b3 rfl | exact Ce (by first | exact add_flat _ _ _ | exact add_flat2 _ _ _ _ | rfl) H.b4 rfl | exact Ce (by first | exact add_flat _ _ _ | exact add_flat2 _ _ _ _ | rfl) H.b5 rfl | exact Ce (by first | exact add_flat _ _ _ | exact add_flat2 _ _ _ _ | rfl) H.b6 rfl | exact Ce (by first | exact add_flat _ _ _ | exact add_flat2 _ _ _ _ | rfl) H.b7 rfl | exact Ce (by first | exact add_flat _ _ _ | exact add_flat2 _ _ _ _ | rfl) H.b8 rfl | exact Ce (by first | exact add_flat _ _ _ | exact add_flat2 _ _ _ _ | rfl) H.b9 rfl), ?_⟩   -- wd2.cell? (p_54.add 24) = some (.slice x55 x55l x55c)
        refine ⟨(by first | exact Option.some_ne_none _ | exact H.ne (by first | exact List.mem_cons_self | (apply List.mem_cons_of_mem; first | exact List.mem_cons_self | (apply List.mem_cons_of_mem; first | exact List.mem_cons_self | (apply List.mem_cons_of_mem; first | exact List.mem_cons_self | (apply List.mem_cons_of_mem; first | exact List.mem_cons_self | (apply List.mem_cons_of_mem; first | exact List.mem_cons_self | (apply List.mem_cons_of_mem; first | exact List.mem_cons_self | (apply List.mem_cons_of_mem; first | exact List.mem_cons_self)))))))) (by first | exact List.mem_cons_self | (apply List.mem_cons_of_mem; first | exact List.mem_cons_self | (apply List.mem_cons_of_mem; first | exact List.mem_cons_self | (apply List.mem_cons_of_mem; first | exact List.mem_cons_self | (apply List.mem_cons_of_mem; first | exact List.mem_cons_self | (apply List.mem_cons_of_mem; first | exact List.mem_cons_self | (apply List.mem_cons_of_mem; first | exact List.mem_cons_self | (apply List.mem_cons_of_mem; first | exact List.mem_cons_self))))))))), ?_⟩   -- some (p_34).block ≠ r53
        refine ⟨(by first | exact H.b0.row | exact H.b1.row | exact H.b2.row | exact H.b3.row | exact H.b4.row | exact H.b5.row | exact H.b6.row | exact H.b7.row), ?_⟩   -- ∃ c ty f, wd2.heap[(p_34).block]? = some (.cells c ty f)
        refine ⟨_, _, _, _, _, _, _, (by first | exact Ld0 rfl H.b0 (by kernel_rfl) | exact Ld0 rfl H.b1 (by kernel_rfl) | exact Ld0 rfl H.b2 (by kernel_rfl) | exact Ld0 rfl H.b3 (by kernel_rfl) | exact Ld0 rfl H.b4 (by kernel_rfl) | exact Ld0 rfl H.b5 (by kernel_rfl) | exact Ld0 rfl H.b6 (by kernel_rfl) | exact Ld0 rfl H.b7 (by kernel_rfl) | exact Ld0 rfl H.b8 (by kernel_rfl) | exact Ld0 rfl H.b9 (by kernel_rfl)), ?_⟩   -- LdV pg 167 p_34
        refine ⟨rfl, ?_⟩
        refine sNew H ?_; clear H; intro b61 w g H; replace K := World.grownBy.trans K (grew_none _ g); clear g
        refine ⟨K, ?_⟩   -- wd2.grownBy w_62 r53
        have hsta : sta1 v = (false, v / 8192 % 4, 0, v % 8192, []) := by unfold sta1; rw [if_pos h5]
        refine sApp4 H (bytes := 32) (by kernel_rfl) [.bool false, .int .u16 (v / 8192 % 4), .int .u16 0, .int .u16 (v % 8192), .slice none 0 0] (Sta.dat (sta1 v)) (by rfl) (fun j u hu => by rw [add_flat, Nat.zero_add]; exact H.b0.cell hu) (by rw [hsta]; exact (fun G h => by repeat (first | exact DeepL.nil _ _ | exact DeepL.ones _ | refine DeepL.cons (Deep.emp _ _) ?_ | refine DeepL.cons (Deep.one _) ?_ | refine DeepL.cons (h (.deep [_] [_]) (by assumption)).head ?_ | refine DeepL.cons (h (.deep [_] [_]) (by first | assumption | exact List.mem_cons_self | (apply List.mem_cons_of_mem; first | assumption | exact List.mem_cons_self | (apply List.mem_cons_of_mem; first | assumption | exact List.mem_cons_self | (apply List.mem_cons_of_mem; first | assumption | exact List.mem_cons_self | (apply List.mem_cons_of_mem; first | assumption | exact List.mem_cons_self | (apply List.mem_cons_of_mem; first | assumption | exact List.mem_cons_self))))))).head ?_))) (by simp [Value.oneCell']) (by unfold maxLen; omega) (by omega) ?_
        clear H; intro x63 x63l x63c x63r w ex63 g H
        replace K := World.grownBy.trans K g; clear g; replace H := H.sub (List.sublist_cons_self _ _) (fun _ h => h)
        refine ⟨K, ?_⟩   -- wd2.grownBy w_64 r53
        refine ⟨_, rfl, ?_⟩
        refine sSt2 H (by first | exact add_flat _ _ _ | exact add_flat2 _ _ _ _ | rfl) (by kernel_rfl) (by rfl) (by first | rfl | (simp only [List.all_cons, List.all_nil, Value.cells]; simp [*])) ?_; clear H; intro w _ H   -- StV pg 33 (p_65.add 24) (.slice x63 x63l x63c) w_64 w_66
        subst ex63
        refine ⟨x63, x63c, x63r, ?_, hll, ?_⟩
        · rintro ⟨_, h9 | h9⟩
          · exact h6 h9
          · omega
        · rw [List.map_append, List.flatMap_append]
          exact H.sub (by repeat (first | exact List.Sublist.refl _ | exact List.nil_sublist _ | apply List.Sublist.cons_cons | apply List.Sublist.cons)) (fun r hr => by (try simp only [List.mem_cons] at hr ⊢); (repeat (first | (rcases hr with rfl | hr; (first | (left; rfl) | (right; left; rfl) | (right; right; left; rfl) | (right; right; right; left; rfl) | (right; right; right; right; left; rfl)))  | (simp [hr]; done) | assumption | exact hr.elim)))
      · have h5 : ¬ v / 32768 = 0 := by simpa using h5
        have e14 : iand .u16 (ishr .u16 v (14 : Int)) (1 : Int) = v / 16384 % 2 := (bit_of hv 14 (by omega)).1
        rw [e14]
        have hS : v / 16384 % 2 = 0 ∨ v / 16384 % 2 = 1 := by omega
        have hsy := symL_vec h5 hv
        have hsta : sta1 v = (true, 0, v / 16384 % 2, 0, symL v) := by unfold sta1; rw [if_neg h5]
        generalize v / 16384 % 2 = S at hS hsy hsta ⊢
        refine sNew H ?_; clear H; intro b67 w _ H
        refine sSw0 H rfl (by kernel_rfl) (by rfl) (by first | rfl | (simp only [List.all_cons, List.all_nil, Value.cells]; simp [*])) ?_; clear H; intro w _ H
        refine ⟨fun i76 m_72 w => ∃ (t : Nat) (l : Option Addr) (lc : Nat) (r3 : Option Nat), i76 = 13 - t * (1 + S) ∧ t + m_72 = 14 ∧ t ≤ (if S = 0 then 14 else 7) ∧
          Sat F w (.own 32 1 l t lc r3 (oi .u16 (vecL v S t)) :: .blk b67 167 [.bool true, .int .u16 0, .int .u16 S, .int .u16 0, .slice l t lc] ::
            .own 32 1 received28 (recv (vs.flatMap symL)).length received28c rr (oi .u16 (recv (vs.flatMap symL))) :: .blk p 38 (pkT s m hp hc ht hl BA CN RE FB (.slice o vs.length oc) (.slice none 0 0)) :: .own 167 5 o vs.length oc r ((vs.map sta1).flatMap Sta.dat) :: ex) (Ro.B ys b26 b26l b26c :: ro),
          ⟨14, 0, none, 0, none, by simp, by omega, by omega, H.nilOwn _ _⟩, ?_⟩
        clear H; rintro dd71 i76 m_72 w ⟨t, l, lc, r3, rfl, ht, htb, H⟩
        refine ⟨fun h8 => ?_, fun h8 => ?_⟩   -- (decide (i76 ≥ (0 : Int)))
        · rw [decide_eq_true_eq] at h8
          refine ⟨_, (by first | exact Ce (by first | exact add_flat _ _ _ | exact add_flat2 _ _ _ _ | rfl) H.b0 rfl | exact Ce (by first | exact add_flat _ _ _ | exact add_flat2 _ _ _ _ | rfl) H.b1 rfl | exact Ce (by first | exact add_flat _ _ _ | exact add_flat2 _ _ _ _ | rfl) H.b2 rfl | exact Ce (by first | exact add_flat _ _ _ | exact add_flat2 _ _ _ _ | rfl) H.b3 rfl | exact Ce (by first | exact add_flat _ _ _ | exact add_flat2 _ _ _ _ | rfl) H.b4 rfl | exact Ce (by first | exact add_flat _ _ _ | exact add_flat2 _ _ _ _ | rfl) H.b5 rfl | exact Ce (by first | exact add_flat _ _ _ | exact add_flat2 _ _ _ _ | rfl) H.b6 rfl | exact Ce (by first | exact add_flat _ _ _ | exact add_flat2 _ _ _ _ | rfl) H.b7 rfl | exact Ce (by first | exact add_flat _ _ _ | exact add_flat2 _ _ _ _ | rfl) H.b8 rfl | exact Ce (by first | exact add_flat _ _ _ | exact add_flat2 _ _ _ _ | rfl) H.b9 rfl), ?_⟩   -- w_75.cell? (p_67.add 2) = some (.int .u16 x77)
          refine ⟨fun h9 => ?_, fun h9 => ?_⟩   -- (x77 == (0 : Int))
          · have h9 : S = 0 := by simpa using h9
            subst h9
            simp only [Int.add_zero, Int.mul_one] at h8 ⊢
            rw [show (13 : Int) - (t : Int) = ((13 - t : Nat) : Int) by omega, (bit_of hv (13 - t) (by omega)).1]
            refine ⟨r3, ?_⟩; replace H := H.drew; generalize w.drew = wd3 at H ⊢; have K := grew_refl wd3 (r3)
            refine ⟨(by first | exact Option.some_ne_none _ | exact H.ne (by first | exact List.mem_cons_self | (apply List.mem_cons_of_mem; first | exact List.mem_cons_self | (apply List.mem_cons_of_mem; first | exact List.mem_cons_self | (apply List.mem_cons_of_mem; first | exact List.mem_cons_self | (apply List.mem_cons_of_mem; first | exact List.mem_cons_self | (apply List.mem_cons_of_mem; first | exact List.mem_cons_self | (apply List.mem_cons_of_mem; first | exact List.mem_cons_self | (apply List.mem_cons_of_mem; first | exact List.mem_cons_self)))))))) (by first | exact List.mem_cons_self | (apply List.mem_cons_of_mem; first | exact List.mem_cons_self | (apply List.mem_cons_of_mem; first | exact List.mem_cons_self | (apply List.mem_cons_of_mem; first | exact List.mem_cons_self | (apply List.mem_cons_of_mem; first | exact List.mem_cons_self | (apply List.mem_cons_of_mem; first | exact List.mem_cons_self | (apply List.mem_cons_of_mem; first | exact List.mem_cons_self | (apply List.mem_cons_of_mem; first | exact List.mem_cons_self))))))))), ?_⟩   -- some ((p_67.add 4)).block ≠ r78
            refine ⟨(by first | exact H.b0.row | exact H.b1.row | exact H.b2.row | exact H.b3.row | exact H.b4.row | exact H.b5.row | exact H.b6.row | exact H.b7.row), ?_⟩   -- ∃ c ty f, wd3.heap[((p_67.add 4)).block]? = some (.cells c t
            refine ⟨_, _, _, (by first | exact Ce (by first | exact add_flat _ _ _ | exact add_flat2 _ _ _ _ | rfl) H.b0 rfl | exact Ce (by first | exact add_flat _ _ _ | exact add_flat2 _ _ _ _ | rfl) H.b1 rfl | exact Ce (by first | exact add_flat _ _ _ | exact add_flat2 _ _ _ _ | rfl) H.b2 rfl | exact Ce (by first | exact add_flat _ _ _ | exact add_flat2 _ _ _ _ | rfl) H.b3 rfl | exact Ce (by first | exact add_flat _ _ _ | exact add_flat2 _ _ _ _ | rfl) H.b4 rfl | exact Ce (by first | exact add_flat _ _ _ | exact add_flat2 _ _ _ _ | rfl) H.b5 rfl | exact Ce (by first | exact add_flat _ _ _ | exact add_flat2 _ _ _ _ | rfl) H.b6 rfl | exact Ce (by first | exact add_flat _ _ _ | exact add_flat2 _ _ _ _ | rfl) H.b7 rfl | exact Ce (by first | exact add_flat _ _ _ | exact add_flat2 _ _ _ _ | rfl) H.b8 rfl | exact Ce (by first | exact add_flat _ _ _ | exact add_flat2 _ _ _ _ | rfl) H.b9 rfl), ?_⟩   -- wd3.cell? (p_67.add 4) = some (.slice x79 x79l x79c)
            refine ⟨by omega, rfl, ?_⟩
            refine sNew H ?_; clear H; intro b80 w g H; replace K := World.grownBy.trans K (grew_none _ g); clear g
            refine ⟨K, ?_⟩   -- wd3.grownBy w_81 r78
            refine sApp1 H (bytes := 2) (by kernel_rfl) [.int .u16 (bitAt v (13 - t) 2)] [.one (.int .u16 (bitAt v (13 - t) 2))] (by rfl) (fun j u hu => by rw [add_flat, Nat.zero_add]; exact H.b0.cell hu) (fun G h => by repeat (first | exact DeepL.nil _ _ | exact DeepL.ones _ | refine DeepL.cons (Deep.emp _ _) ?_ | refine DeepL.cons (Deep.one _) ?_ | refine DeepL.cons (h (.deep [_] [_]) (by assumption)).head ?_ | refine DeepL.cons (h (.deep [_] [_]) (by first | assumption | exact List.mem_cons_self | (apply List.mem_cons_of_mem; first | assumption | exact List.mem_cons_self | (apply List.mem_cons_of_mem; first | assumption | exact List.mem_cons_self | (apply List.mem_cons_of_mem; first | assumption | exact List.mem_cons_self | (apply List.mem_cons_of_mem; first | assumption | exact List.mem_cons_self | (apply List.mem_cons_of_mem; first | assumption | exact List.mem_cons_self))))))).head ?_)) (by simp [Value.oneCell']) (by unfold maxLen; omega) (by omega) ?_
            clear H; intro x82 x82l x82c x82r w ex82 g H
            replace K := World.grownBy.trans K g; clear g; replace H := H.sub (List.sublist_cons_self _ _) (fun _ h => h)
            refine ⟨K, ?_⟩   -- wd3.grownBy w_83 r78
            refine sSt1 H (by first | exact add_flat _ _ _ | exact add_flat2 _ _ _ _ | rfl) (by kernel_rfl) (by rfl) (by first | rfl | (simp only [List.all_cons, List.all_nil, Value.cells]; simp [*])) ?_; clear H; intro w _ H   -- StV pg 165 (p_67.add 4) (.slice x82 x82l x82c) w_83 w_84
            refine ⟨_, (by first | exact Ce (by first | exact add_flat _ _ _ | exact add_flat2 _ _ _ _ | rfl) H.b0 rfl | exact Ce (by first | exact add_flat _ _ _ | exact add_flat2 _ _ _ _ | rfl) H.b1 rfl | exact Ce (by first | exact add_flat _ _ _ | exact add_flat2 _ _ _ _ | rfl) H.b2 rfl | exact Ce (by first | exact add_flat _ _ _ | exact add_flat2 _ _ _ _ | rfl) H.b3 rfl | exact Ce (by first | exact add_flat _ _ _ | exact add_flat2 _ _ _ _ | rfl) H.b4 rfl | exact Ce (by first | exact add_flat _ _ _ | exact add_flat2 _ _ _ _ | rfl) H.b5 rfl | exact Ce (by first | exact add_flat _ _ _ | exact add_flat2 _ _ _ _ | rfl) H.b6 rfl | exact Ce (by first | exact add_flat _ _ _ | exact add_flat2 _ _ _ _ | rfl) H.b7 rfl | exact Ce (by first | exact add_flat _ _ _ | exact add_flat2 _ _ _ _ | rfl) H.b8 rfl | exact Ce (by first | exact add_flat _ _ _ | exact add_flat2 _ _ _ _ | rfl) H.b9 rfl), ?_⟩   -- w_84.cell? (p_67.add 2) = some (.int .u16 x85)
            subst ex82
            refine ⟨m_72 - 1, by omega, t + 1, x82, x82c, x82r, ?_, by omega, by simp; omega, ?_⟩
            · rw [show IntKind.i64.wrap (0 : Int) = 0 from rfl, show IntKind.i64.wrap ((1 : Int) + 0) = 1 from rfl, wi64_of (by omega) (by omega)]; omega
            · rw [vecL_succ, oi_snoc, if_pos rfl]
              exact H
          · have h9 : S = 1 := by
              have : ¬ S = 0 := by simpa using h9
              omega
            subst h9
            rw [wi64_of (n := (13 : Int) - (t : Int) * (1 + 1) - 1) (by omega) (by omega)]
            have ht7 : t ≤ 6 := by omega
            rw [show (13 : Int) - (t : Int) * (1 + 1) - 1 = ((12 - 2 * t : Nat) : Int) by omega, (bit_of hv (12 - 2 * t) (by omega)).2]
            refine ⟨r3, ?_⟩; replace H := H.drew; generalize w.drew = wd4 at H ⊢; have K := grew_refl wd4 (r3)
            refine ⟨(by first | exact Option.some_ne_none _ | exact H.ne (by first | exact List.mem_cons_self | (apply List.mem_cons_of_mem; first | exact List.mem_cons_self | (apply List.mem_cons_of_mem; first | exact List.mem_cons_self | (apply List.mem_cons_of_mem; first | exact List.mem_cons_self | (apply List.mem_cons_of_mem; first | exact List.mem_cons_self | (apply List.mem_cons_of_mem; first | exact List.mem_cons_self | (apply List.mem_cons_of_mem; first | exact List.mem_cons_self | (apply List.mem_cons_of_mem; first | exact List.mem_cons_self)))))))) (by first | exact List.mem_cons_self | (apply List.mem_cons_of_mem; first | exact List.mem_cons_self | (apply List.mem_cons_of_mem; first | exact List.mem_cons_self | (apply List.mem_cons_of_mem; first | exact List.mem_cons_self | (apply List.mem_cons_of_mem; first | exact List.mem_cons_self | (apply List.mem_cons_of_mem; first | exact List.mem_cons_self | (apply List.mem_cons_of_mem; first | exact List.mem_cons_self | (apply List.mem_cons_of_mem; first | exact List.mem_cons_self))))))))), ?_⟩   -- some ((p_67.add 4)).block ≠ r86
            refine ⟨(by first | exact H.b0.row | exact H.b1.row | exact H.b2.row | exact H.b3.row | exact H.b4.row | exact H.b5.row | exact H.b6.row | exact H.b7.row), ?_⟩   -- ∃ c ty f, wd4.heap[((p_67.add 4)).block]? = some (.cells c t
            refine ⟨_, _, _, (by first | exact Ce (by first | exact add_flat _ _ _ | exact add_flat2 _ _ _ _ | rfl) H.b0 rfl | exact Ce (by first | exact add_flat _ _ _ | exact add_flat2 _ _ _ _ | rfl) H.b1 rfl | exact Ce (by first | exact add_flat _ _ _ | exact add_flat2 _ _ _ _ | rfl) H.b2 rfl | exact Ce (by first | exact add_flat _ _ _ | exact add_flat2 _ _ _ _ | rfl) H.b3 rfl | exact Ce (by first | exact add_flat _ _ _ | exact add_flat2 _ _ _ _ | rfl) H.b4 rfl | exact Ce (by first | exact add_flat _ _ _ | exact add_flat2 _ _ _ _ | rfl) H.b5 rfl | exact Ce (by first | exact add_flat _ _ _ | exact add_flat2 _ _ _ _ | rfl) H.b6 rfl | exact Ce (by first | exact add_flat _ _ _ | exact add_flat2 _ _ _ _ | rfl) H.b7 rfl | exact Ce (by first | exact add_flat _ _ _ | exact add_flat2 _ _ _ _ | rfl) H.b8 rfl | exact Ce (by first | exact add_flat _ _ _ | exact add_flat2 _ _ _ _ | rfl) H.b9 rfl), ?_⟩   -- wd4.cell? (p_67.add 4) = some (.slice x87 x87l x87c)
            refine ⟨by omega, rfl, ?_⟩
            refine sNew H ?_; clear H; intro b88 w g H; replace K := World.grownBy.trans K (grew_none _ g); clear g
            refine ⟨K, ?_⟩   -- wd4.grownBy w_89 r86
            refine sApp1 H (bytes := 2) (by kernel_rfl) [.int .u16 (bitAt v (12 - 2 * t) 4)] [.one (.int .u16 (bitAt v (12 - 2 * t) 4))] (by rfl) (fun j u hu => by rw [add_flat, Nat.zero_add]; exact H.b0.cell hu) (fun G h => by repeat (first | exact DeepL.nil _ _ | exact DeepL.ones _ | refine DeepL.cons (Deep.emp _ _) ?_ | refine DeepL.cons (Deep.one _) ?_ | refine DeepL.cons (h (.deep [_] [_]) (by assumption)).head ?_ | refine DeepL.cons (h (.deep [_] [_]) (by first | assumption | exact List.mem_cons_self | (apply List.mem_cons_of_mem; first | assumption | exact List.mem_cons_self | (apply List.mem_cons_of_mem; first | assumption | exact List.mem_cons_self | (apply List.mem_cons_of_mem; first | assumption | exact List.mem_cons_self | (apply List.mem_cons_of_mem; first | assumption | exact List.mem_cons_self | (apply List.mem_cons_of_mem; first | assumption | exact List.mem_cons_self))))))).head ?_)) (by simp [Value.oneCell']) (by unfold maxLen; omega) (by omega) ?_
            clear H; intro x90 x90l x90c x90r w ex90 g H
            replace K := World.grownBy.trans K g; clear g; replace H := H.sub (List.sublist_cons_self _ _) (fun _ h => h)
            refine ⟨K, ?_⟩   -- wd4.grownBy w_91 r86
            refine sSt1 H (by first | exact add_flat _ _ _ | exact add_flat2 _ _ _ _ | rfl) (by kernel_rfl) (by rfl) (by first | rfl | (simp only [List.all_cons, List.all_nil, Value.cells]; simp [*])) ?_; clear H; intro w _ H   -- StV pg 165 (p_67.add 4) (.slice x90 x90l x90c) w_91 w_92
            refine ⟨_, (by first | exact Ce (by first | exact add_flat _ _ _ | exact add_flat2 _ _ _ _ | rfl) H.b0 rfl | exact Ce (by first | exact add_flat _ _ _ | exact add_flat2 _ _ _ _ | rfl) H.b1 rfl | exact Ce (by first | exact add_flat _ _ _ | exact add_flat2 _ _ _ _ | rfl) H.b2 rfl | exact Ce (by first | exact add_flat _ _ _ | exact add_flat2 _ _ _ _ | rfl) H.b3 rfl | exact Ce (by first | exact add_flat _ _ _ | exact add_flat2 _ _ _ _ | rfl) H.b4 rfl | exact Ce (by first | exact add_flat _ _ _ | exact add_flat2 _ _ _ _ | rfl) H.b5 rfl | exact Ce (by first | exact add_flat _ _ _ | exact add_flat2 _ _ _ _ | rfl) H.b6 rfl | exact Ce (by first | exact add_flat _ _ _ | exact add_flat2 _ _ _ _ | rfl) H.b7 rfl | exact Ce (by first | exact add_flat _ _ _ | exact add_flat2 _ _ _ _ | rfl) H.b8 rfl | exact Ce (by first | exact add_flat _ _ _ | exact add_flat2 _ _ _ _ | rfl) H.b9 rfl), ?_⟩   -- w_92.cell? (p_67.add 2) = some (.int .u16 x93)
            subst ex90
            refine ⟨m_72 - 1, by omega, t + 1, x90, x90c, x90r, ?_, by omega, by simp; omega, ?_⟩
            · rw [show IntKind.i64.wrap (1 : Int) = 1 from rfl, show IntKind.i64.wrap ((1 : Int) + 1) = 2 from rfl, wi64_of (by omega) (by omega)]; omega
            · rw [vecL_succ, oi_snoc, if_neg (by decide)]
              exact H
        · rw [decide_eq_false_iff_not] at h8
          have hvec : vecL v S t = symL v := by
            rw [hsy]; congr 1
            rcases hS with rfl | rfl
            · simp at htb h8 ⊢; omega
            · simp at htb h8 ⊢; omega
          have hll : t = (symL v).length := by rw [← hvec]; simp [vecL]
          rw [hvec] at H
          replace H := H.freeze
          refine ⟨_, _, _, (by first | exact Ce (by first | exact add_flat _ _ _ | exact add_flat2 _ _ _ _ | rfl) H.b0 rfl | exact Ce (by first | exact add_flat _ _ _ | exact add_flat2 _ _ _ _ | rfl) H.b1 rfl | exact Ce (by first | exact add_flat _ _ _ | exact add_flat2 _ _ _ _ | rfl) H.b2 rfl | exact Ce (by first | exact add_flat _ _ _ | exact add_flat2 _ _ _ _ | rfl) H.b3 rfl | exact Ce (by first | exact add_flat _ _ _ | exact add_flat2 _ _ _ _ | rfl) H.b4 rfl | exact Ce (by first | exact add_flat _ _ _ | exact add_flat2 _ _ _ _ | rfl) H.b5 rfl | exact Ce (by first | exact add_flat _ _ _ | exact add_flat2 _ _ _ _ | rfl) H.b6 rfl | exact Ce (by first | exact add_flat _ _ _ | exact add_flat2 _ _ _ _ | rfl) H.b7 rfl | exact Ce (by first | exact add_flat _ _ _ | exact add_flat2 _ _ _ _ | rfl) H.b8 rfl | exact Ce (by first | exact add_flat _ _ _ | exact add_flat2 _ _ _ _ | rfl) H.b9 rfl), ?_⟩   -- w_75.cell? (p_67.add 4) = some (.slice x94 x94l x94c)
          refine ⟨r, ?_⟩; replace H := H.drew; generalize w.drew = wd5 at H ⊢; have K := grew_refl wd5 (r)
          refine ⟨_, rfl, ?_⟩
          refine ⟨(by first | exact Option.some_ne_none _ | exact H.ne (by first | exact List.mem_cons_self | (apply List.mem_cons_of_mem; first | exact List.mem_cons_self | (apply List.mem_cons_of_mem; first | exact List.mem_cons_self | (apply List.mem_cons_of_mem; first | exact List.mem_cons_self | (apply List.mem_cons_of_mem; first | exact List.mem_cons_self | (apply List.mem_cons_of_mem; first | exact List.mem_cons_self | (apply List.mem_cons_of_mem; first | exact List.mem_cons_self | (apply List.mem_cons_of_mem; first | exact List.mem_cons_self)))))))) (by first | exact List.mem_cons_self | (apply List.mem_cons_of_mem; first | exact List.mem_cons_self | (apply List.mem_cons_of_mem; first | exact List.mem_cons_self | (apply List.mem_cons_of_mem; first | exact List.mem_cons_self | (apply List.mem_cons_of_mem; first | exact List.mem_cons_self | (apply List.mem_cons_of_mem; first | exact List.mem_cons_self | (apply List.mem_cons_of_mem; first | exact List.mem_cons_self | (apply List.mem_cons_of_mem; first | exact List.mem_cons_self))))))))), ?_⟩   -- some ((p_96.add 24)).block ≠ r95
          refine ⟨(by first | exact H.b0.row | exact H.b1.row | exact H.b2.row | exact H.b3.row | exact H.b4.row | exact H.b5.row | exact H.b6.row | exact H.b7.row), ?_⟩   -- ∃ c ty f, wd5.heap[((p_96.add 24)).block]? = some (.cells c
          refine ⟨_, _, _, (by first | exact Ce (by first | exact add_flat _ _ _ | exact add_flat2 _ _ _ _ | rfl) H.b0 rfl | exact Ce (by first | exact add_flat _ _ _ | exact add_flat2 _ _ _ _ | rfl) H.b1 rfl | exact Ce (by first | exact add_flat _ _ _ | exact add_flat2 _ _ _ _ | rfl) H.b2 rfl | exact Ce (by first | exact add_flat _ _ _ | exact add_flat2 _ _ _ _ | rfl) H.b3 rfl | exact Ce (by first | exact add_flat _ _ _ | exact add_flat2 _ _ _ _ | rfl) H.b4 rfl | exact Ce (by first | exact add_flat _ _ _ | exact add_flat2 _ _ _ _ | rfl) H.b5 rfl | exact Ce (by first | exact add_flat _ _ _ | exact add_flat2 _ _ _ _ | rfl) H.b6 rfl | exact Ce (by first | exact add_flat _ _ _ | exact add_flat2 _ _ _ _ | rfl) H.b7 rfl | exact Ce (by first | exact add_flat _ _ _ | exact add_flat2 _ _ _ _ | rfl) H.b8 rfl | exact Ce (by first | exact add_flat _ _ _ | exact add_flat2 _ _ _ _ | rfl) H.b9 rfl), ?_⟩   -- wd5.cell? (p_96.add 24) = some (.slice x97 x97l x97c)
          refine ⟨(by first | exact Option.some_ne_none _ | exact H.ne (by first | exact List.mem_cons_self | (apply List.mem_cons_of_mem; first | exact List.mem_cons_self | (apply List.mem_cons_of_mem; first | exact List.mem_cons_self | (apply List.mem_cons_of_mem; first | exact List.mem_cons_self | (apply List.mem_cons_of_mem; first | exact List.mem_cons_self | (apply List.mem_cons_of_mem; first | exact List.mem_cons_self | (apply List.mem_cons_of_mem; first | exact List.mem_cons_self | (apply List.mem_cons_of_mem; first | exact List.mem_cons_self)))))))) (by first | exact List.mem_cons_self | (apply List.mem_cons_of_mem; first | exact List.mem_cons_self | (apply List.mem_cons_of_mem; first | exact List.mem_cons_self | (apply List.mem_cons_of_mem; first | exact List.mem_cons_self | (apply List.mem_cons_of_mem; first | exact List.mem_cons_self | (apply List.mem_cons_of_mem; first | exact List.mem_cons_self | (apply List.mem_cons_of_mem; first | exact List.mem_cons_self | (apply List.mem_cons_of_mem; first | exact List.mem_cons_self))))))))), ?_⟩   -- some (p_67).block ≠ r95
          refine ⟨(by first | exact H.b0.row | exact H.b1.row | exact H.b2.row | exact H.b3.row | exact H.b4.row | exact H.b5.row | exact H.b6.row | exact H.b7.row), ?_⟩   -- ∃ c ty f, wd5.heap[(p_67).block]? = some (.cells c ty f)
          refine ⟨_, _, _, _, _, _, _, (by first | exact Ld0 rfl H.b0 (by kernel_rfl) | exact Ld0 rfl H.b1 (by kernel_rfl) | exact Ld0 rfl H.b2 (by kernel_rfl) | exact Ld0 rfl H.b3 (by kernel_rfl) | exact Ld0 rfl H.b4 (by kernel_rfl) | exact Ld0 rfl H.b5 (by kernel_rfl) | exact Ld0 rfl H.b6 (by kernel_rfl) | exact Ld0 rfl H.b7 (by kernel_rfl) | exact Ld0 rfl H.b8 (by kernel_rfl) | exact Ld0 rfl H.b9 (by kernel_rfl)), ?_⟩   -- LdV pg 167 p_67
          refine ⟨rfl, ?_⟩
          refine sNew H ?_; clear H; intro b103 w g H; replace K := World.grownBy.trans K (grew_none _ g); clear g
          refine ⟨K, ?_⟩   -- wd5.grownBy w_104 r95
          refine sApp4 H (bytes := 32) (by kernel_rfl) [.bool true, .int .u16 0, .int .u16 S, .int .u16 0, .slice l t lc] (Sta.dat (sta1 v)) (by rfl) (fun j u hu => by rw [add_flat, Nat.zero_add]; exact H.b0.cell hu) (by rw [hsta]; exact (fun G h => by repeat (first | exact DeepL.nil _ _ | exact DeepL.ones _ | refine DeepL.cons (Deep.emp _ _) ?_ | refine DeepL.cons (Deep.one _) ?_ | refine DeepL.cons (h (.deep [_] [_]) (by assumption)).head ?_ | refine DeepL.cons (h (.deep [_] [_]) (by first | assumption | exact List.mem_cons_self | (apply List.mem_cons_of_mem; first | assumption | exact List.mem_cons_self | (apply List.mem_cons_of_mem; first | assumption | exact List.mem_cons_self | (apply List.mem_cons_of_mem; first | assumption | exact List.mem_cons_self | (apply List.mem_cons_of_mem; first | assumption | exact List.mem_cons_self | (apply List.mem_cons_of_mem; first | assumption | exact List.mem_cons_self))))))).head ?_))) (by simp [Value.oneCell']) (by unfold maxLen; omega) (by omega) ?_
          clear H; intro x105 x105l x105c x105r w ex105 g H
          replace K := World.grownBy.trans K g; clear g; replace H := H.sub (List.sublist_cons_self _ _) (fun _ h => h)
          refine ⟨K, ?_⟩   -- wd5.grownBy w_106 r95
          refine ⟨_, rfl, ?_⟩
          refine sSt2 H (by first | exact add_flat _ _ _ | exact add_flat2 _ _ _ _ | rfl) (by kernel_rfl) (by rfl) (by first | rfl | (simp only [List.all_cons, List.all_nil, Value.cells]; simp [*])) ?_; clear H; intro w _ H   -- StV pg 33 (p_107.add 24) (.slice x105 x105l x105c) w_106 w_108
          subst ex105
          refine ⟨x105, x105c, x105r, fun h => h5 h.1, hll, ?_⟩
          rw [List.map_append, List.flatMap_append]
          exact H.sub (by repeat (first | exact List.Sublist.refl _ | exact List.nil_sublist _ | apply List.Sublist.cons_cons | apply List.Sublist.cons)) (fun r hr => by (try simp only [List.mem_cons] at hr ⊢); (repeat (first | (rcases hr with rfl | hr; (first | (left; rfl) | (right; left; rfl) | (right; right; left; rfl) | (right; right; right; left; rfl) | (right; right; right; right; left; rfl)))  | (simp [hr]; done) | assumption | exact hr.elim)))
    · clear H; rintro dd32 l109 l109l l109c w ⟨o', oc', r', hok, rfl, H⟩
      rw [if_neg hok] at htc
      refine ⟨fun left116 received117 received117l received117c x118 m_112 w => ∃ (j : Nat) (rr2 : Option Nat), x118 = (j : Int) ∧ j + m_112 = (symL v).length ∧ left116 = left27 - j ∧ symOk left27 (symL v) = symOk (left27 - j) ((symL v).drop j) ∧
        received117l = (recv (vs.flatMap symL) ++ recv ((symL v).take j)).length ∧ (received117l : Int) + left116 ≤ 65535 ∧
        Sat F w (.own 32 1 received117 received117l received117c rr2 (oi .u16 (recv (vs.flatMap symL) ++ recv ((symL v).take j))) :: .blk p 38 (pkT s m hp hc ht hl BA CN RE FB (.slice o' (vs.length + 1) oc') (.slice none 0 0)) :: .own 167 5 o' (vs.length + 1) oc' r' (((vs ++ [v]).map sta1).flatMap Sta.dat) :: ex)
          (.deep [.row 1 (oi .u16 (symL v))] [.slice l109 (symL v).length l109c] :: Ro.B ys b26 b26l b26c :: ro), ⟨(symL v).length, 0, rr, rfl, by omega, by omega, by simp, by simp [recv], by simpa using hRL, ?_⟩, ?_⟩
      · simpa [recv] using H
      clear H; rintro dd111 left116 received117 received117l received117c x118 m_112 w ⟨j, rr2, rfl, hjm, rfl, hso, hrl, hrb, H⟩
      refine ⟨fun h8 => ?_, fun h8 => ?_⟩   -- (decide (x118 < ((l109l : Nat) : Int)))
      · rw [decide_eq_true_eq] at h8
        obtain ⟨bb, oo, rfl, hcell⟩ := H.elt List.mem_cons_self (by omega)
        refine ⟨_, rfl, by omega, by omega, ?_⟩   -- l109[x118]
        refine ⟨_, (by rw [add_flat]; exact hcell _ _ (oi_get _ _ _ (by omega))), ?_⟩   -- w_115.cell? (p_119.add (x118.toNat * 1)) = some (.int .u16 x120)
        rw [show (j : Int).toNat * 1 = j by omega]
        rw [drop_cons (by omega : j < (symL v).length), symOk] at hso
        have hxr := symL_range hv _ (getD_mem (by omega : j < (symL v).length))
        have htk := take_snoc (by omega : j < (symL v).length)
        generalize (symL v).getD j 0 = X at hso hxr htk ⊢
        have hbad : (if 0 < left27 - (j : Int) then X != 3 else X == 0) = false → RdPost F p ex ro (rdT s m hp hc ht hl xs) (.returned (.bool false)) w := fun hf => by
          rw [hf, Bool.false_and] at hso
          rw [if_neg (by rw [hso]; exact Bool.false_ne_true)] at htc
          exact RdPost.no (by rw [hU, htc]; rfl) (H.sub (by repeat (first | exact List.Sublist.refl _ | exact List.nil_sublist _ | apply List.Sublist.cons_cons | apply List.Sublist.cons)) (fun r hr => by (try simp only [List.mem_cons] at hr ⊢); (repeat (first | (rcases hr with rfl | hr; (first | (left; rfl) | (right; left; rfl) | (right; right; left; rfl) | (right; right; right; left; rfl) | (right; right; right; right; left; rfl)))  | (simp [hr]; done) | assumption | exact hr.elim))))
        refine ⟨fun _ w => (if 0 < left27 - (j : Int) then X != 3 else X == 0) = true ∧
          Sat F w (.own 32 1 received117 received117l received117c rr2 (oi .u16 (recv (vs.flatMap symL) ++ recv ((symL v).take j))) :: .blk p 38 (pkT s m hp hc ht hl BA CN RE FB (.slice o' (vs.length + 1) oc') (.slice none 0 0)) :: .own 167 5 o' (vs.length + 1) oc' r' (((vs ++ [v]).map sta1).flatMap Sta.dat) :: ex)
            (.deep [.row 1 (oi .u16 (symL v))] [.slice (some ⟨bb, oo, none⟩) (symL v).length l109c] :: Ro.B ys b26 b26l b26c :: ro), ?_, ?_⟩
        · refine ⟨fun h9 => ?_, fun h9 => ?_⟩   -- (decide (left116 > (0 : Int)))
          · rw [decide_eq_true_eq] at h9
            refine ⟨fun h10 => ?_, fun h10 => ?_⟩   -- (x120 == (3 : Int))
            · exact hbad (by rw [if_pos (by omega)]; simpa using h10)
            refine ⟨fun h11 => ?_, fun h11 => ?_⟩   -- (decide (left116 ≤ (0 : Int)))
            · rw [decide_eq_true_eq] at h11; omega
            exact ⟨by rw [if_pos (by omega)]; simpa using h10, H⟩
          · rw [decide_eq_false_iff_not] at h9
            refine ⟨fun h11 => ?_, fun h11 => ?_⟩   -- (decide (left116 ≤ (0 : Int)))
            · refine ⟨fun h10 => ?_, fun h10 => ?_⟩   -- (x120 != (0 : Int))
              · exact hbad (by rw [if_neg (by omega)]; simpa using h10)
              · exact ⟨by rw [if_neg (by omega)]; simpa using h10, H⟩
            · rw [decide_eq_false_iff_not] at h11; omega
        · clear H; rintro dd122 w ⟨hok2, H⟩
          rw [hok2, Bool.true_and] at hso
          have hnext : ∀ (rc : Option Addr) (rl rcc : Nat) (r5 : Option Nat) (w : World), rl = (recv (vs.flatMap symL) ++ recv ((symL v).take (j + 1))).length → rl ≤ received117l + 1 →
              Sat F w (.own 32 1 rc rl rcc r5 (oi .u16 (recv (vs.flatMap symL) ++ recv ((symL v).take (j + 1)))) :: .blk p 38 (pkT s m hp hc ht hl BA CN RE FB (.slice o' (vs.length + 1) oc') (.slice none 0 0)) :: .own 167 5 o' (vs.length + 1) oc' r' (((vs ++ [v]).map sta1).flatMap Sta.dat) :: ex)
                (.deep [.row 1 (oi .u16 (symL v))] [.slice (some ⟨bb, oo, none⟩) (symL v).length l109c] :: Ro.B ys b26 b26l b26c :: ro) →
              ∃ m_113, m_113 < m_112 ∧ ∃ (j' : Nat) (rr2 : Option Nat), IntKind.i64.wrap ((j : Int) + 1) = (j' : Int) ∧ j' + m_113 = (symL v).length ∧ IntKind.i64.wrap (left27 - (j : Int) - 1) = left27 - j' ∧ symOk left27 (symL v) = symOk (left27 - j') ((symL v).drop j') ∧
                rl = (recv (vs.flatMap symL) ++ recv ((symL v).take j')).length ∧ (rl : Int) + IntKind.i64.wrap (left27 - (j : Int) - 1) ≤ 65535 ∧
                Sat F w (.own 32 1 rc rl rcc rr2 (oi .u16 (recv (vs.flatMap symL) ++ recv ((symL v).take j'))) :: .blk p 38 (pkT s m hp hc ht hl BA CN RE FB (.slice o' (vs.length + 1) oc') (.slice none 0 0)) :: .own 167 5 o' (vs.length + 1) oc' r' (((vs ++ [v]).map sta1).flatMap Sta.dat) :: ex)
                  (.deep [.row 1 (oi .u16 (symL v))] [.slice (some ⟨bb, oo, none⟩) (symL v).length l109c] :: Ro.B ys b26 b26l b26c :: ro) := by
            intro rc rl rcc r5 w h9 h10 H
            have e5 : IntKind.i64.wrap (left27 - (j : Int) - 1) = left27 - (j : Int) - 1 := wi64_of (by omega) (by omega)
            rw [e5]
            refine ⟨m_112 - 1, by omega, j + 1, r5, ?_, by omega, by omega, ?_, h9, by omega, H⟩
            · rw [wi64_of (by omega) (by omega)]; simp
            · rw [hso, show left27 - ((j + 1 : Nat) : Int) = left27 - (j : Int) - 1 by omega]
          refine ⟨fun h9 => ?_, fun h9 => ?_⟩   -- (x120 == (1 : Int))
          · have h9 : X = 1 := by simpa using h9
            refine ⟨rfl, ?_⟩
            refine sPush0 H (bytes := 2) (by kernel_rfl) [.one (.int .u16 X)] (by rfl) (fun G h => by repeat (first | exact DeepL.nil _ _ | exact DeepL.ones _ | refine DeepL.cons (Deep.emp _ _) ?_ | refine DeepL.cons (Deep.one _) ?_ | refine DeepL.cons (h (.deep [_] [_]) (by assumption)).head ?_ | refine DeepL.cons (h (.deep [_] [_]) (by first | assumption | exact List.mem_cons_self | (apply List.mem_cons_of_mem; first | assumption | exact List.mem_cons_self | (apply List.mem_cons_of_mem; first | assumption | exact List.mem_cons_self | (apply List.mem_cons_of_mem; first | assumption | exact List.mem_cons_self | (apply List.mem_cons_of_mem; first | assumption | exact List.mem_cons_self | (apply List.mem_cons_of_mem; first | assumption | exact List.mem_cons_self))))))).head ?_)) (by rfl) (by unfold maxLen; omega) (by omega) ?_
            clear H; intro x126 x126l x126c x126r w ex126 _ H
            have e6 : recv ((symL v).take (j + 1)) = recv ((symL v).take j) ++ [X] := by rw [htk, recv_append]; subst h9; rfl
            refine hnext x126 x126l x126c x126r w (by rw [e6, ex126, hrl]; simp; omega) (by omega) ?_
            rw [e6, ← List.append_assoc, oi_snoc]
            exact H
          · have h9 : ¬ X = 1 := by simpa using h9
            refine ⟨fun h10 => ?_, fun h10 => ?_⟩   -- (x120 == (2 : Int))
            · have h10 : X = 2 := by simpa using h10
              refine ⟨rfl, ?_⟩
              refine sPush0 H (bytes := 2) (by kernel_rfl) [.one (.int .u16 X)] (by rfl) (fun G h => by repeat (first | exact DeepL.nil _ _ | exact DeepL.ones _ | refine DeepL.cons (Deep.emp _ _) ?_ | refine DeepL.cons (Deep.one _) ?_ | refine DeepL.cons (h (.deep [_] [_]) (by assumption)).head ?_ | refine DeepL.cons (h (.deep [_] [_]) (by first | assumption | exact List.mem_cons_self | (apply List.mem_cons_of_mem; first | assumption | exact List.mem_cons_self | (apply List.mem_cons_of_mem; first | assumption | exact List.mem_cons_self | (apply List.mem_cons_of_mem; first | assumption | exact List.mem_cons_self | (apply List.mem_cons_of_mem; first | assumption | exact List.mem_cons_self | (apply List.mem_cons_of_mem; first | assumption | exact List.mem_cons_self))))))).head ?_)) (by rfl) (by unfold maxLen; omega) (by omega) ?_
              clear H; intro x130 x130l x130c x130r w ex130 _ H
              have e6 : recv ((symL v).take (j + 1)) = recv ((symL v).take j) ++ [X] := by rw [htk, recv_append]; subst h10; rfl
              refine hnext x130 x130l x130c x130r w (by rw [e6, ex130, hrl]; simp; omega) (by omega) ?_
              rw [e6, ← List.append_assoc, oi_snoc]
              exact H
            · have h10 : ¬ X = 2 := by simpa using h10
              have e6 : recv ((symL v).take (j + 1)) = recv ((symL v).take j) := by
                rw [htk, recv_append]
                have : recv [X] = [] := by simp [recv, h9, h10]
                rw [this, List.append_nil]
              refine hnext received117 received117l received117c rr2 w (by rw [e6]; exact hrl) (by omega) ?_
              rw [e6]
              exact H
      · rw [decide_eq_false_iff_not] at h8
        obtain rfl : j = (symL v).length := by omega
        rw [List.take_length] at H hrl
        rw [List.drop_length] at hso
        rw [if_pos (by rw [hso]; rfl)] at htc
        have efl : recv ((vs ++ [v]).flatMap symL) = recv (vs.flatMap symL) ++ recv (symL v) := by rw [List.flatMap_append, recv_append]; simp
        refine ⟨f, by omega, ys.drop 2, vs ++ [v], o', oc', r', rr2, hby.drop 2, ?_, ?_, by omega, by simp; omega, by omega, ?_, ?_, ?_⟩
        · obtain ⟨l1, l2⟩ := symL_len2 hv
          by_cases h0 : v / 32768 = 0
          · have := l1 h0
            have : ¬ (v % 8192 = 0 ∨ left27 < v % 8192) := fun h => hok ⟨h0, h⟩
            omega
          · have := l2 h0
            omega
        · rw [efl, ← hrl]; exact hrb
        · rw [efl]; exact hrl
        · rw [htc]
          cases tccC f (left27 - ((symL v).length : Int)) (ys.drop 2) <;> simp
        · rw [efl, List.length_append]
          have H2 := H.skipB (xs := ys) (a := b26) (n := b26l) (c := b26c) (by first | assumption | exact List.mem_cons_self | (apply List.mem_cons_of_mem; first | assumption | exact List.mem_cons_self | (apply List.mem_cons_of_mem; first | assumption | exact List.mem_cons_self | (apply List.mem_cons_of_mem; first | assumption | exact List.mem_cons_self | (apply List.mem_cons_of_mem; first | assumption | exact List.mem_cons_self | (apply List.mem_cons_of_mem; first | assumption | exact List.mem_cons_self)))))) 2 (by omega)
          exact H2.sub (by repeat (first | exact List.Sublist.refl _ | exact List.nil_sublist _ | apply List.Sublist.cons_cons | apply List.Sublist.cons)) (fun r hr => by (try simp only [List.mem_cons] at hr ⊢); (repeat (first | (rcases hr with rfl | hr; (first | (left; rfl) | (right; left; rfl) | (right; right; left; rfl) | (right; right; right; left; rfl) | (right; right; right; right; left; rfl)))  | (simp [hr]; done) | assumption | exact hr.elim)))
  · rw [decide_eq_false_iff_not] at h3
    rw [if_pos (by omega)] at htc
    simp only [Option.map_some, List.append_nil] at htc
    rw [htc] at hU
    simp only at hU
    have hR := recv_range (l := vs.flatMap symL)
    have hrb : (recv (vs.flatMap symL)).length ≤ 70000 := by omega
    generalize recv (vs.flatMap symL) = R at H hU hR hrb ⊢
    refine ⟨fun h4 => ?_, fun h4 => ?_⟩   -- (((received28l : Nat) : Int) == (0 : Int))
    · have h4 : R.length = 0 := by simpa using h4
      exact RdPost.no (by rw [hU, if_pos h4]) (H.sub (by repeat (first | exact List.Sublist.refl _ | exact List.nil_sublist _ | apply List.Sublist.cons_cons | apply List.Sublist.cons)) (fun r hr => by (try simp only [List.mem_cons] at hr ⊢); (repeat (first | (rcases hr with rfl | hr; (first | (left; rfl) | (right; left; rfl) | (right; right; left; rfl) | (right; right; right; left; rfl) | (right; right; right; right; left; rfl)))  | (simp [hr]; done) | assumption | exact hr.elim))))
    have h4 : ¬ R.length = 0 := by simpa using h4
    rw [if_neg h4] at hU
    replace H := H.freeze
    refine ⟨fun b138 b138l b138c x139 m_134 w => ∃ (i : Nat) (zs : List Int) (ds : List Del) (o2 : Option Addr) (oc2 : Nat) (r2 : Option Nat), x139 = (i : Int) ∧ i + m_134 = R.length ∧ ds.length = i ∧ By zs ∧ b138l ≤ n ∧ tccD R ys = (tccD (R.drop i) zs).map (fun q => (ds ++ q.1, q.2)) ∧
      Sat F w (.blk p 38 (pkT s m hp hc ht hl BA CN RE FB (.slice o vs.length oc) (.slice o2 i oc2)) :: .own 169 2 o2 i oc2 r2 (ds.flatMap Del.dat) :: .own 167 5 o vs.length oc r ((vs.map sta1).flatMap Sta.dat) :: ex)
        (Ro.B zs b138 b138l b138c :: .deep [.row 1 (oi .u16 R)] [.slice received28 R.length received28c] :: ro), ⟨R.length, 0, ys, [], none, 0, none, rfl, by omega, rfl, hby, hbl, ?_, ?_⟩, ?_⟩
    · rw [List.drop_zero]; cases tccD R ys <;> simp
    · exact ((H.sub (by repeat (first | exact List.Sublist.refl _ | exact List.nil_sublist _ | apply List.Sublist.cons_cons | apply List.Sublist.cons)) (fun r hr => by (try simp only [List.mem_cons] at hr ⊢); (repeat (first | (rcases hr with rfl | hr; (first | (left; rfl) | (right; left; rfl) | (right; right; left; rfl) | (right; right; right; left; rfl) | (right; right; right; right; left; rfl)))  | (simp [hr]; done) | assumption | exact hr.elim)))).nilOwn 169 2).u1
    clear H; rintro dd133 b138 b138l b138c x139 m_134 w ⟨i, zs, ds, o2, oc2, r2, rfl, hi, hdl, hzb, hbl2, htd, H⟩
    have hzl := H.lenB List.mem_cons_self
    refine ⟨fun h5 => ?_, fun h5 => ?_⟩   -- (decide (x139 < ((received28l : Nat) : Int)))
    · rw [decide_eq_true_eq] at h5
      obtain ⟨bb, oo, rfl, hcell⟩ := H.elt (List.mem_cons_of_mem _ List.mem_cons_self) (by omega)
      refine ⟨_, rfl, by omega, by omega, ?_⟩   -- received28[x139]
      refine ⟨_, (by rw [add_flat]; exact hcell _ _ (oi_get _ _ _ (by omega))), ?_⟩   -- w_137.cell? (p_140.add (x139.toNat * 1)) = some (.int .u16 x141)
      rw [show (i : Int).toNat * 1 = i by omega]
      rw [drop_cons (by omega : i < R.length)] at htd
      have hX := hR _ (getD_mem (by omega : i < R.length))
      generalize R.getD i 0 = X at htd hX ⊢
      simp only [tccD] at htd
      rw [wi64_of (n := X) (by omega) (by omega)]
      refine ⟨fun h6 => ?_, fun h6 => ?_⟩   -- (decide (((b138l : Nat) : Int) < (IntKind.i64.wrap x141)))
      · rw [decide_eq_true_eq] at h6
        rw [if_pos (by omega)] at htd
        exact RdPost.no (by rw [hU, htd]; rfl) (H.sub (by repeat (first | exact List.Sublist.refl _ | exact List.nil_sublist _ | apply List.Sublist.cons_cons | apply List.Sublist.cons)) (fun r hr => by (try simp only [List.mem_cons] at hr ⊢); (repeat (first | (rcases hr with rfl | hr; (first | (left; rfl) | (right; left; rfl) | (right; right; left; rfl) | (right; right; right; left; rfl) | (right; right; right; right; left; rfl)))  | (simp [hr]; done) | assumption | exact hr.elim))))
      rw [decide_eq_false_iff_not] at h6
      rw [if_neg (by omega)] at htd
      obtain ⟨p_142, rfl, hp_142, kp_142, fp_142⟩ := H.at_ (a := b138) List.mem_cons_self (by omega)
      refine ⟨p_142, rfl, by omega, by omega, ?_⟩   -- b138[(0 : Int)]
      refine ⟨_, hp_142 0 (by omega), ?_⟩   -- w_137.cell? (p_142.add ((0 : Int).toNat * 1)) = some (.int .u8 x143)
      have hz0 := hzb.getD 0
      rw [wi64_of (n := zs.getD 0 0) (by omega) (by omega), wi64_of (n := zs.getD 0 0 * 250) (by omega) (by omega)]
      refine sNew H ?_; clear H; intro b144 w _ H
      refine sSw0 H rfl (by kernel_rfl) (by rfl) (by first | rfl | (simp only [List.all_cons, List.all_nil, Value.cells]; simp [*])) ?_; clear H; intro w _ H
      refine ⟨fun h7 => ?_, fun h7 => ?_⟩   -- (x141 == (2 : Int))
      · have h7 : X = 2 := by simpa using h7
        subst h7
        refine call_j (c23 (by first | exact (Sat.rd H (by first | assumption | exact List.mem_cons_self | (apply List.mem_cons_of_mem; first | assumption | exact List.mem_cons_self | (apply List.mem_cons_of_mem; first | assumption | exact List.mem_cons_self | (apply List.mem_cons_of_mem; first | assumption | exact List.mem_cons_self | (apply List.mem_cons_of_mem; first | assumption | exact List.mem_cons_self | (apply List.mem_cons_of_mem; first | assumption | exact List.mem_cons_self))))))) | exact Rd.skip (Sat.rd H (by first | assumption | exact List.mem_cons_self | (apply List.mem_cons_of_mem; first | assumption | exact List.mem_cons_self | (apply List.mem_cons_of_mem; first | assumption | exact List.mem_cons_self | (apply List.mem_cons_of_mem; first | assumption | exact List.mem_cons_self | (apply List.mem_cons_of_mem; first | assumption | exact List.mem_cons_self | (apply List.mem_cons_of_mem; first | assumption | exact List.mem_cons_self))))))) _ (by omega) | exact Rd.skip (Rd.skip (Sat.rd H (by first | assumption | exact List.mem_cons_self | (apply List.mem_cons_of_mem; first | assumption | exact List.mem_cons_self | (apply List.mem_cons_of_mem; first | assumption | exact List.mem_cons_self | (apply List.mem_cons_of_mem; first | assumption | exact List.mem_cons_self | (apply List.mem_cons_of_mem; first | assumption | exact List.mem_cons_self | (apply List.mem_cons_of_mem; first | assumption | exact List.mem_cons_self))))))) _ (by omega)) _ (by omega) | exact Rd.cut (Sat.rd H (by first | assumption | exact List.mem_cons_self | (apply List.mem_cons_of_mem; first | assumption | exact List.mem_cons_self | (apply List.mem_cons_of_mem; first | assumption | exact List.mem_cons_self | (apply List.mem_cons_of_mem; first | assumption | exact List.mem_cons_self | (apply List.mem_cons_of_mem; first | assumption | exact List.mem_cons_self | (apply List.mem_cons_of_mem; first | assumption | exact List.mem_cons_self))))))) _ _ (by omega) (by omega) | exact Rd.skip (Rd.skip (Rd.skip (Sat.rd H (by first | assumption | exact List.mem_cons_self | (apply List.mem_cons_of_mem; first | assumption | exact List.mem_cons_self | (apply List.mem_cons_of_mem; first | assumption | exact List.mem_cons_self | (apply List.mem_cons_of_mem; first | assumption | exact List.mem_cons_self | (apply List.mem_cons_of_mem; first | assumption | exact List.mem_cons_self | (apply List.mem_cons_of_mem; first | assumption | exact List.mem_cons_self))))))) _ (by omega)) _ (by omega)) _ (by omega) | assumption) hzb (by omega)) ?_
        rintro _ w ⟨rfl, g⟩
        replace H := H.grow g; clear g
        refine ⟨_, rfl, ?_⟩
        have hzz := n16_lt hzb
        have h16 : -32768 ≤ IntKind.i16.wrap (n16 zs) ∧ IntKind.i16.wrap (n16 zs) < 32768 := by rw [wi16]; split <;> omega
        rw [wi64_of (n := IntKind.i16.wrap (n16 zs)) (by omega) (by omega), wi64_of (n := IntKind.i16.wrap (n16 zs) * 250) (by omega) (by omega)]
        have hd1 : del1 2 zs = (2, IntKind.i16.wrap (n16 zs) * 250) := by unfold del1; rw [if_pos rfl]
        refine sSt0 H (by first | exact add_flat _ _ _ | exact add_flat2 _ _ _ _ | rfl) (by kernel_rfl) (by rfl) (by first | rfl | (simp only [List.all_cons, List.all_nil, Value.cells]; simp [*])) ?_; clear H; intro w _ H   -- StV pg 2 (p_144.add 1)
        refine ⟨r2, ?_⟩; replace H := H.drew; generalize w.drew = wd6 at H ⊢; have K := grew_refl wd6 (r2)
        refine ⟨_, rfl, ?_⟩
        refine ⟨(by first | exact Option.some_ne_none _ | exact H.ne (by first | exact List.mem_cons_self | (apply List.mem_cons_of_mem; first | exact List.mem_cons_self | (apply List.mem_cons_of_mem; first | exact List.mem_cons_self | (apply List.mem_cons_of_mem; first | exact List.mem_cons_self | (apply List.mem_cons_of_mem; first | exact List.mem_cons_self | (apply List.mem_cons_of_mem; first | exact List.mem_cons_self | (apply List.mem_cons_of_mem; first | exact List.mem_cons_self | (apply List.mem_cons_of_mem; first | exact List.mem_cons_self)))))))) (by first | exact List.mem_cons_self | (apply List.mem_cons_of_mem; first | exact List.mem_cons_self | (apply List.mem_cons_of_mem; first | exact List.mem_cons_self | (apply List.mem_cons_of_mem; first | exact List.mem_cons_self | (apply List.mem_cons_of_mem; first | exact List.mem_cons_self | (apply List.mem_cons_of_mem; first | exact List.mem_cons_self | (apply List.mem_cons_of_mem; first | exact List.mem_cons_self | (apply List.mem_cons_of_mem; first | exact List.mem_cons_self))))))))), ?_⟩   -- some ((p_151.add 25)).block ≠ r150
        refine ⟨(by first | exact H.b0.row | exact H.b1.row | exact H.b2.row | exact H.b3.row | exact H.b4.row | exact H.b5.row | exact H.b6.row | exact H.b7.row), ?_⟩   -- ∃ c ty f, wd6.heap[((p_151.add 25)).block]? = some (.cells c
        refine ⟨_, _, _, (by first | exact Ce (by first | exact add_flat _ _ _ | exact add_flat2 _ _ _ _ | rfl) H.b0 rfl | exact Ce (by first | exact add_flat _ _ _ | exact add_flat2 _ _ _ _ | rfl) H.b1 rfl | exact Ce (by first | exact add_flat _ _ _ | exact add_flat2 _ _ _ _ | rfl) H.b2 rfl | exact Ce (by first | exact add_flat _ _ _ | exact add_flat2 _ _ _ _ | rfl) H.b3 rfl | exact Ce (by first | exact add_flat _ _ _ | exact add_flat2 _ _ _ _ | rfl) H.b4 rfl | exact Ce (by first | exact add_flat _ _ _ | exact add_flat2 _ _ _ _ | rfl) H.b5 rfl | exact Ce (by first | exact add_flat _ _ _ | exact add_flat2 _ _ _ _ | rfl) H.b6 rfl | exact Ce (by first | exact add_flat _ _ _ | exact add_flat2 _ _ _ _ | rfl) H.b7 rfl | exact Ce (by first | exact add_flat _ _ _ | exact add_flat2 _ _ _ _ | rfl) H.b8 rfl | exact Ce (by first | exact add_flat _ _ _ | exact add_flat2 _ _ _ _ | rfl) H.b9 rfl), ?_⟩   -- wd6.cell? (p_151.add 25) = some (.slice x152 x152l x152c)
        refine ⟨(by first | exact Option.some_ne_none _ | exact H.ne (by first | exact List.mem_cons_self | (apply List.mem_cons_of_mem; first | exact List.mem_cons_self | (apply List.mem_cons_of_mem; first | exact List.mem_cons_self | (apply List.mem_cons_of_mem; first | exact List.mem_cons_self | (apply List.mem_cons_of_mem; first | exact List.mem_cons_self | (apply List.mem_cons_of_mem; first | exact List.mem_cons_self | (apply List.mem_cons_of_mem; first | exact List.mem_cons_self | (apply List.mem_cons_of_mem; first | exact List.mem_cons_self)))))))) (by first | exact List.mem_cons_self | (apply List.mem_cons_of_mem; first | exact List.mem_cons_self | (apply List.mem_cons_of_mem; first | exact List.mem_cons_self | (apply List.mem_cons_of_mem; first | exact List.mem_cons_self | (apply List.mem_cons_of_mem; first | exact List.mem_cons_self | (apply List.mem_cons_of_mem; first | exact List.mem_cons_self | (apply List.mem_cons_of_mem; first | exact List.mem_cons_self | (apply List.mem_cons_of_mem; first | exact List.mem_cons_self))))))))), ?_⟩   -- some (p_144).block ≠ r150
        refine ⟨(by first | exact H.b0.row | exact H.b1.row | exact H.b2.row | exact H.b3.row | exact H.b4.row | exact H.b5.row | exact H.b6.row | exact H.b7.row), ?_⟩   -- ∃ c ty f, wd6.heap[(p_144).block]? = some (.cells c ty f)
        refine ⟨_, _, (by first | exact Ld0 rfl H.b0 (by kernel_rfl) | exact Ld0 rfl H.b1 (by kernel_rfl) | exact Ld0 rfl H.b2 (by kernel_rfl) | exact Ld0 rfl H.b3 (by kernel_rfl) | exact Ld0 rfl H.b4 (by kernel_rfl) | exact Ld0 rfl H.b5 (by kernel_rfl) | exact Ld0 rfl H.b6 (by kernel_rfl) | exact Ld0 rfl H.b7 (by kernel_rfl) | exact Ld0 rfl H.b8 (by kernel_rfl) | exact Ld0 rfl H.b9 (by kernel_rfl)), ?_⟩   -- LdV pg 169 p_144
        refine ⟨rfl, ?_⟩
        refine sNew H ?_; clear H; intro b155 w g H; replace K := World.grownBy.trans K (grew_none _ g); clear g
        refine ⟨K, ?_⟩   -- wd6.grownBy w_156 r150
        refine sApp3 H (bytes := 16) (by kernel_rfl) [.int .u16 2, .int .i64 (IntKind.i16.wrap (n16 zs) * 250)] (Del.dat (del1 2 zs)) (by rfl) (fun j u hu => by rw [add_flat, Nat.zero_add]; exact H.b0.cell hu) (by rw [hd1]; exact (fun G h => by repeat (first | exact DeepL.nil _ _ | exact DeepL.ones _ | refine DeepL.cons (Deep.emp _ _) ?_ | refine DeepL.cons (Deep.one _) ?_ | refine DeepL.cons (h (.deep [_] [_]) (by assumption)).head ?_ | refine DeepL.cons (h (.deep [_] [_]) (by first | assumption | exact List.mem_cons_self | (apply List.mem_cons_of_mem; first | assumption | exact List.mem_cons_self | (apply List.mem_cons_of_mem; first | assumption | exact List.mem_cons_self | (apply List.mem_cons_of_mem; first | assumption | exact List.mem_cons_self | (apply List.mem_cons_of_mem; first | assumption | exact List.mem_cons_self | (apply List.mem_cons_of_mem; first | assumption | exact List.mem_cons_self))))))).head ?_))) (by simp [Value.oneCell']) (by unfold maxLen; omega) (by omega) ?_
        clear H; intro x157 x157l x157c x157r w ex157 g H
        replace K := World.grownBy.trans K g; clear g; replace H := H.sub (List.sublist_cons_self _ _) (fun _ h => h)
        refine ⟨K, ?_⟩   -- wd6.grownBy w_158 r150
        refine ⟨_, rfl, ?_⟩
        refine sSt1 H (by first | exact add_flat _ _ _ | exact add_flat2 _ _ _ _ | rfl) (by kernel_rfl) (by rfl) (by first | rfl | (simp only [List.all_cons, List.all_nil, Value.cells]; simp [*])) ?_; clear H; intro w _ H   -- StV pg 34 (p_159.add 25) (.slice x157 x157l x157c) w_158 w_160
        refine ⟨by omega, by omega, ?_⟩
        subst ex157
        refine ⟨m_134 - 1, by omega, i + 1, zs.drop (2 : Int).toNat, ds ++ [del1 2 zs], x157, x157c, x157r, ?_, by omega, by simp [hdl], hzb.drop _, by omega, ?_, ?_⟩
        · rw [wi64_of (by omega) (by omega)]; simp
        · rw [htd]
          cases tccD (R.drop (i + 1)) (zs.drop (2 : Int).toNat) <;> simp
        · rw [List.flatMap_append]
          have H2 := H.skipB (xs := zs) (a := some p_142) (n := b138l) (c := b138c) (by first | assumption | exact List.mem_cons_self | (apply List.mem_cons_of_mem; first | assumption | exact List.mem_cons_self | (apply List.mem_cons_of_mem; first | assumption | exact List.mem_cons_self | (apply List.mem_cons_of_mem; first | assumption | exact List.mem_cons_self | (apply List.mem_cons_of_mem; first | assumption | exact List.mem_cons_self | (apply List.mem_cons_of_mem; first | assumption | exact List.mem_cons_self)))))) (2 : Int).toNat (by omega)
          exact H2.sub (by repeat (first | exact List.Sublist.refl _ | exact List.nil_sublist _ | apply List.Sublist.cons_cons | apply List.Sublist.cons)) (fun r hr => by (try simp only [List.mem_cons] at hr ⊢); (repeat (first | (rcases hr with rfl | hr; (first | (left; rfl) | (right; left; rfl) | (right; right; left; rfl) | (right; right; right; left; rfl) | (right; right; right; right; left; rfl)))  | (simp [hr]; done) | assumption | exact hr.elim)))
      · have h7 : ¬ X = 2 := by simpa using h7
        have hd1 : del1 X zs = (X, zs.getD 0 0 * 250) := by unfold del1; rw [if_neg h7]
        refine ⟨r2, ?_⟩; replace H := H.drew; generalize w.drew = wd6 at H ⊢; have K := grew_refl wd6 (r2)
        refine ⟨_, rfl, ?_⟩
        refine ⟨(by first | exact Option.some_ne_none _ | exact H.ne (by first | exact List.mem_cons_self | (apply List.mem_cons_of_mem; first | exact List.mem_cons_self | (apply List.mem_cons_of_mem; first | exact List.mem_cons_self | (apply List.mem_cons_of_mem; first | exact List.mem_cons_self | (apply List.mem_cons_of_mem; first | exact List.mem_cons_self | (apply List.mem_cons_of_mem; first | exact List.mem_cons_self | (apply List.mem_cons_of_mem; first | exact List.mem_cons_self | (apply List.mem_cons_of_mem; first | exact List.mem_cons_self)))))))) (by first | exact List.mem_cons_self | (apply List.mem_cons_of_mem; first | exact List.mem_cons_self | (apply List.mem_cons_of_mem; first | exact List.mem_cons_self | (apply List.mem_cons_of_mem; first | exact List.mem_cons_self | (apply List.mem_cons_of_mem; first | exact List.mem_cons_self | (apply List.mem_cons_of_mem; first | exact List.mem_cons_self | (apply List.mem_cons_of_mem; first | exact List.mem_cons_self | (apply List.mem_cons_of_mem; first | exact List.mem_cons_self))))))))), ?_⟩   -- some ((p_151.add 25)).block ≠ r150
        refine ⟨(by first | exact H.b0.row | exact H.b1.row | exact H.b2.row | exact H.b3.row | exact H.b4.row | exact H.b5.row | exact H.b6.row | exact H.b7.row), ?_⟩   -- ∃ c ty f, wd6.heap[((p_151.add 25)).block]? = some (.cells c
        refine ⟨_, _, _, (by first | exact Ce (by first | exact add_flat _ _ _ | exact add_flat2 _ _ _ _ | rfl) H.b0 rfl | exact Ce (by first | exact add_flat _ _ _ | exact add_flat2 _ _ _ _ | rfl) H.b1 rfl | exact Ce (by first | exact add_flat _ _ _ | exact add_flat2 _ _ _ _ | rfl) H.b2 rfl | exact Ce (by first | exact add_flat _ _ _ | exact add_flat2 _ _ _ _ | rfl) H.b3 rfl | exact Ce (by first | exact add_flat _ _ _ | exact add_flat2 _ _ _ _ | rfl) H.b4 rfl | exact Ce (by first | exact add_flat _ _ _ | exact add_flat2 _ _ _ _ | rfl) H.b5 rfl | exact Ce (by first | exact add_flat _ _ _ | exact add_flat2 _ _ _ _ | rfl) H.b6 rfl | exact Ce (by first | exact add_flat _ _ _ | exact add_flat2 _ _ _ _ | rfl) H.b7 rfl | exact Ce (by first | exact add_flat _ _ _ | exact add_flat2 _ _ _ _ | rfl) H.b8 rfl | exact Ce (by first | exact add_flat _ _ _ | exact add_flat2 _ _ _ _ | rfl) H.b9 rfl), ?_⟩   -- wd6.cell? (p_151.add 25) = some (.slice x152 x152l x152c)
        refine ⟨(by first | exact Option.some_ne_none _ | exact H.ne (by first | exact List.mem_cons_self | (apply List.mem_cons_of_mem; first | exact List.mem_cons_self | (apply List.mem_cons_of_mem; first | exact List.mem_cons_self | (apply List.mem_cons_of_mem; first | exact List.mem_cons_self | (apply List.mem_cons_of_mem; first | exact List.mem_cons_self | (apply List.mem_cons_of_mem; first | exact List.mem_cons_self | (apply List.mem_cons_of_mem; first | exact List.mem_cons_self | (apply List.mem_cons_of_mem; first | exact List.mem_cons_self)))))))) (by first | exact List.mem_cons_self | (apply List.mem_cons_of_mem; first | exact List.mem_cons_self | (apply List.mem_cons_of_mem; first | exact List.mem_cons_self | (apply List.mem_cons_of_mem; first | exact List.mem_cons_self | (apply List.mem_cons_of_mem; first | exact List.mem_cons_self | (apply List.mem_cons_of_mem; first | exact List.mem_cons_self | (apply List.mem_cons_of_mem; first | exact List.mem_cons_self | (apply List.mem_cons_of_mem; first | exact List.mem_cons_self))))))))), ?_⟩   -- some (p_144).block ≠ r150
        refine ⟨(by first | exact H.b0.row | exact H.b1.row | exact H.b2.row | exact H.b3.row | exact H.b4.row | exact H.b5.row | exact H.b6.row | exact H.b7.row), ?_⟩   -- ∃ c ty f, wd6.heap[(p_144).block]? = some (.cells c ty f)
        refine ⟨_, _, (by first | exact Ld0 rfl H.b0 (by kernel_rfl) | exact Ld0 rfl H.b1 (by kernel_rfl) | exact Ld0 rfl H.b2 (by kernel_rfl) | exact Ld0 rfl H.b3 (by kernel_rfl) | exact Ld0 rfl H.b4 (by kernel_rfl) | exact Ld0 rfl H.b5 (by kernel_rfl) | exact Ld0 rfl H.b6 (by kernel_rfl) | exact Ld0 rfl H.b7 (by kernel_rfl) | exact Ld0 rfl H.b8 (by kernel_rfl) | exact Ld0 rfl H.b9 (by kernel_rfl)), ?_⟩   -- LdV pg 169 p_144
        refine ⟨rfl, ?_⟩
        refine sNew H ?_; clear H; intro b155 w g H; replace K := World.grownBy.trans K (grew_none _ g); clear g
        refine ⟨K, ?_⟩   -- wd6.grownBy w_156 r150
        refine sApp3 H (bytes := 16) (by kernel_rfl) [.int .u16 X, .int .i64 (zs.getD 0 0 * 250)] (Del.dat (del1 X zs)) (by rfl) (fun j u hu => by rw [add_flat, Nat.zero_add]; exact H.b0.cell hu) (by rw [hd1]; exact (fun G h => by repeat (first | exact DeepL.nil _ _ | exact DeepL.ones _ | refine DeepL.cons (Deep.emp _ _) ?_ | refine DeepL.cons (Deep.one _) ?_ | refine DeepL.cons (h (.deep [_] [_]) (by assumption)).head ?_ | refine DeepL.cons (h (.deep [_] [_]) (by first | assumption | exact List.mem_cons_self | (apply List.mem_cons_of_mem; first | assumption | exact List.mem_cons_self | (apply List.mem_cons_of_mem; first | assumption | exact List.mem_cons_self | (apply List.mem_cons_of_mem; first | assumption | exact List.mem_cons_self | (apply List.mem_cons_of_mem; first | assumption | exact List.mem_cons_self | (apply List.mem_cons_of_mem; first | assumption | exact List.mem_cons_self))))))).head ?_))) (by simp [Value.oneCell']) (by unfold maxLen; omega) (by omega) ?_
        clear H; intro x157 x157l x157c x157r w ex157 g H
        replace K := World.grownBy.trans K g; clear g; replace H := H.sub (List.sublist_cons_self _ _) (fun _ h => h)
        refine ⟨K, ?_⟩   -- wd6.grownBy w_158 r150
        refine ⟨_, rfl, ?_⟩
        refine sSt1 H (by first | exact add_flat _ _ _ | exact add_flat2 _ _ _ _ | rfl) (by kernel_rfl) (by rfl) (by first | rfl | (simp only [List.all_cons, List.all_nil, Value.cells]; simp [*])) ?_; clear H; intro w _ H   -- StV pg 34 (p_159.add 25) (.slice x157 x157l x157c) w_158 w_160
        refine ⟨by omega, by omega, ?_⟩
        subst ex157
        refine ⟨m_134 - 1, by omega, i + 1, zs.drop (X : Int).toNat, ds ++ [del1 X zs], x157, x157c, x157r, ?_, by omega, by simp [hdl], hzb.drop _, by omega, ?_, ?_⟩
        · rw [wi64_of (by omega) (by omega)]; simp
        · rw [htd]
          cases tccD (R.drop (i + 1)) (zs.drop (X : Int).toNat) <;> simp
        · rw [List.flatMap_append]
          have H2 := H.skipB (xs := zs) (a := some p_142) (n := b138l) (c := b138c) (by first | assumption | exact List.mem_cons_self | (apply List.mem_cons_of_mem; first | assumption | exact List.mem_cons_self | (apply List.mem_cons_of_mem; first | assumption | exact List.mem_cons_self | (apply List.mem_cons_of_mem; first | assumption | exact List.mem_cons_self | (apply List.mem_cons_of_mem; first | assumption | exact List.mem_cons_self | (apply List.mem_cons_of_mem; first | assumption | exact List.mem_cons_self)))))) (X : Int).toNat (by omega)
          exact H2.sub (by repeat (first | exact List.Sublist.refl _ | exact List.nil_sublist _ | apply List.Sublist.cons_cons | apply List.Sublist.cons)) (fun r hr => by (try simp only [List.mem_cons] at hr ⊢); (repeat (first | (rcases hr with rfl | hr; (first | (left; rfl) | (right; left; rfl) | (right; right; left; rfl) | (right; right; right; left; rfl) | (right; right; right; right; left; rfl)))  | (simp [hr]; done) | assumption | exact hr.elim)))
    · rw [decide_eq_false_iff_not] at h5
      obtain rfl : i = R.length := by omega
      rw [List.drop_length] at htd
      simp only [tccD, Option.map_some, List.append_nil] at htd
      rw [htd] at hU
      simp only at hU
      replace H := H.r1.freeze
      replace H := H.r1.freeze
      refine ⟨fun x178 m_174 w => ∃ j : Nat, x178 = (j : Int) ∧ j + m_174 = b138l ∧ (∀ q, q < j → zs.getD q 0 = 0) ∧
        Sat F w (.blk p 38 (pkT s m hp hc ht hl BA CN RE FB (.slice o vs.length oc) (.slice o2 R.length oc2)) :: ex)
          (.deep [.row 5 ((vs.map sta1).flatMap Sta.dat)] [.slice o vs.length oc] :: .deep [.row 2 (ds.flatMap Del.dat)] [.slice o2 R.length oc2] :: Ro.B zs b138 b138l b138c :: ro), ⟨b138l, 0, rfl, by omega, by simp, H.sub (by repeat (first | exact List.Sublist.refl _ | exact List.nil_sublist _ | apply List.Sublist.cons_cons | apply List.Sublist.cons)) (fun r hr => by (try simp only [List.mem_cons] at hr ⊢); (repeat (first | (rcases hr with rfl | hr; (first | (left; rfl) | (right; left; rfl) | (right; right; left; rfl) | (right; right; right; left; rfl) | (right; right; right; right; left; rfl)))  | (simp [hr]; done) | assumption | exact hr.elim)))⟩, ?_⟩
      clear H; rintro dd173 x178 m_174 w ⟨j, rfl, hj, hz, H⟩
      refine ⟨fun h6 => ?_, fun h6 => ?_⟩   -- (decide (x178 < ((b138l : Nat) : Int)))
      · rw [decide_eq_true_eq] at h6
        obtain ⟨p_179, rfl, hp_179, kp_179, fp_179⟩ := H.at_ (a := b138) (xs := zs) (by first | assumption | exact List.mem_cons_self | (apply List.mem_cons_of_mem; first | assumption | exact List.mem_cons_self | (apply List.mem_cons_of_mem; first | assumption | exact List.mem_cons_self | (apply List.mem_cons_of_mem; first | assumption | exact List.mem_cons_self | (apply List.mem_cons_of_mem; first | assumption | exact List.mem_cons_self | (apply List.mem_cons_of_mem; first | assumption | exact List.mem_cons_self)))))) (by omega)
        refine ⟨p_179, rfl, by omega, by omega, ?_⟩   -- b138[x178]
        refine ⟨_, hp_179 _ (by omega), ?_⟩   -- w_177.cell? (p_179.add (x178.toNat * 1)) = some (.int .u8 x180)
        rw [show (j : Int).toNat * 1 = j by omega]
        refine ⟨fun h7 => ?_, fun h7 => ?_⟩   -- (x180 != (0 : Int))
        · have h7 : ¬ zs.getD j 0 = 0 := by simpa using h7
          refine RdPost.no ?_ (H.sub (by repeat (first | exact List.Sublist.refl _ | exact List.nil_sublist _ | apply List.Sublist.cons_cons | apply List.Sublist.cons)) (fun r hr => by (try simp only [List.mem_cons] at hr ⊢); (repeat (first | (rcases hr with rfl | hr; (first | (left; rfl) | (right; left; rfl) | (right; right; left; rfl) | (right; right; right; left; rfl) | (right; right; right; right; left; rfl)))  | (simp [hr]; done) | assumption | exact hr.elim))))
          rw [hU, if_neg]
          rintro ⟨h8, _⟩
          exact h7 ((all_zero zs).1 h8 j (by omega))
        · have h7 : zs.getD j 0 = 0 := by simpa using h7
          refine ⟨m_174 - 1, by omega, j + 1, ?_, by omega, ?_, H⟩
          · rw [wi64_of (by omega) (by omega)]; simp
          · intro q hq
            rcases Nat.lt_or_ge q j with h | h
            · exact hz q h
            · obtain rfl : q = j := by omega
              exact h7
      · rw [decide_eq_false_iff_not] at h6
        have hall : zs.all (· == 0) = true := (all_zero zs).2 fun q hq => hz q (by omega)
        by_cases h7 : b138l ≤ 3
        · have e : decide ((b138l : Int) ≤ (3 : Int)) = true := by rw [decide_eq_true_eq]; omega
          rw [e]
          rw [if_pos ⟨hall, by omega⟩] at hU
          exact RdPost.yes _ hU H (fun r hr => by (try simp only [List.mem_cons] at hr ⊢); (repeat (first | (rcases hr with rfl | hr; (first | (left; rfl) | (right; left; rfl) | (right; right; left; rfl) | (right; right; right; left; rfl) | (right; right; right; right; left; rfl)))  | (simp [hr]; done) | assumption | exact hr.elim))) (fun G h => by repeat (first | exact DeepL.nil _ _ | exact DeepL.ones _ | refine DeepL.cons (Deep.emp _ _) ?_ | refine DeepL.cons (Deep.one _) ?_ | refine DeepL.cons (h (.deep [_] [_]) (by assumption)).head ?_ | refine DeepL.cons (h (.deep [_] [_]) (by first | assumption | exact List.mem_cons_self | (apply List.mem_cons_of_mem; first | assumption | exact List.mem_cons_self | (apply List.mem_cons_of_mem; first | assumption | exact List.mem_cons_self | (apply List.mem_cons_of_mem; first | assumption | exact List.mem_cons_self | (apply List.mem_cons_of_mem; first | assumption | exact List.mem_cons_self | (apply List.mem_cons_of_mem; first | assumption | exact List.mem_cons_self))))))).head ?_))
        · have e : decide ((b138l : Int) ≤ (3 : Int)) = false := by rw [decide_eq_false_iff_not]; omega
          rw [e]
          exact RdPost.no (by rw [hU, if_neg (fun h => h7 (by omega))]) (H.sub (by repeat (first | exact List.Sublist.refl _ | exact List.nil_sublist _ | apply List.Sublist.cons_cons | apply List.Sublist.cons)) (fun r hr => by (try simp only [List.mem_cons] at hr ⊢); (repeat (first | (rcases hr with rfl | hr; (first | (left; rfl) | (right; left; rfl) | (right; right; left; rfl) | (right; right; right; left; rfl) | (right; right; right; right; left; rfl)))  | (simp [hr]; done) | assumption | exact hr.elim))))
end Go.Proofs.YtkdialecadjedaaGreat
