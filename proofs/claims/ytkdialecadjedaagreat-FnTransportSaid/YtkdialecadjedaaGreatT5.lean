/- Transport-wide feedback, read by rtcp (no statement of the seat is proved here; conditions: the slice reads such feedback). -/
import Derived.Test.YtkdialecadjedaaGreatT4
namespace Go.Proofs.YtkdialecadjedaaGreat
set_option linter.unusedVariables false
set_option linter.unusedSimpArgs false
set_option linter.unusedSectionVars false
open Go

set_option maxHeartbeats 4000000 in
theorem c161 {F : Fr} {w : World} {ex : List Ex} {ro : List Ro} {xs : List Int} {a : Option Addr} {n c : Nat} {b : Nat} {vs : List Int} {ds : List Del} (H : Sat F w (.blk b 204 (tcV false 0 0 0 0 0 0 0 0 0 (.slice none 0 0) (.slice none 0 0)) :: ex) ro)
    (hx : Ro.B xs a n c ∈ ro) (hb : By xs) (hT : Tcc xs vs ds) (hn : n ≤ 1000000) : Calls pg 161 #[.pointer (some ⟨b, 0, none⟩), .slice a n c] w fun en w' => en = .returned .nilIface ∧
      ∃ ca cc da dc, Sat F w' (.blk b 204 (tcX xs (.slice ca vs.length cc) (.slice da ds.length dc)) :: ex) (.deep [.row 1 (vs.map chD)] [.slice ca vs.length cc] :: .deep [.row 1 (ds.map deD)] [.slice da ds.length dc] :: ro) := by
  apply of161
  have hlen := H.lenB hx
  have hlong := hT.long
  have hLl := hT.len
  have hnc : n ≤ c := (H.deep1 hx).len.2.1
  obtain ⟨f, zs, tl, hC, hD, hz1, hz2, hz3, hxl, hzs⟩ := tcc_rest hT
  refine ⟨fun hc => ?_, fun hc => ?_⟩   -- (decide (((rawPacket_1l : Nat) : Int) < (8 : Int)))
  · rw [decide_eq_true_eq] at hc; omega
  clear hc
  refine ⟨_, rfl, ?_⟩
  refine call_j (c71 H hx hb hT.hdr) ?_
  rintro _ w ⟨rfl, H⟩
  refine ⟨_, rfl, ?_⟩
  refine ⟨by simp [isIf], ?_⟩
  refine ⟨fun hc => absurd hc (by decide), fun _ => ?_⟩
  refine ⟨_, rfl, ?_⟩
  refine ⟨_, (by first | exact Ce (by first | exact add_flat _ _ _ | exact add_flat2 _ _ _ _ | rfl) H.b0 rfl | exact Ce (by first | exact add_flat _ _ _ | exact add_flat2 _ _ _ _ | rfl) H.b1 rfl | exact Ce (by first | exact add_flat _ _ _ | exact add_flat2 _ _ _ _ | rfl) H.b2 rfl | exact Ce (by first | exact add_flat _ _ _ | exact add_flat2 _ _ _ _ | rfl) H.b3 rfl | exact Ce (by first | exact add_flat _ _ _ | exact add_flat2 _ _ _ _ | rfl) H.b4 rfl | exact Ce (by first | exact add_flat _ _ _ | exact add_flat2 _ _ _ _ | rfl) H.b5 rfl | exact Ce (by first | exact add_flat _ _ _ | exact add_flat2 _ _ _ _ | rfl) H.b6 rfl | exact Ce (by first | exact add_flat _ _ _ | exact add_flat2 _ _ _ _ | rfl) H.b7 rfl | exact Ce (by first | exact add_flat _ _ _ | exact add_flat2 _ _ _ _ | rfl) H.b8 rfl | exact Ce (by first | exact add_flat _ _ _ | exact add_flat2 _ _ _ _ | rfl) H.b9 rfl), ?_⟩
  have e4 : IntKind.i64.wrap ((4 : Int) * (IntKind.i64.wrap ((IntKind.i64.wrap (hL xs)) + (1 : Int)))) = (n : Int) := by
    rw [wi64_of (n := hL xs) (by omega) (by omega), wi64_of (n := hL xs + 1) (by omega) (by omega), wi64_of (by omega) (by omega)]; omega
  rw [e4]
  refine ⟨fun hc => ?_, fun hc => ?_⟩
  · rw [decide_eq_true_eq] at hc; omega
  clear hc
  refine ⟨fun hc => ?_, fun hc => ?_⟩
  · rw [decide_eq_true_eq] at hc; omega
  clear hc
  refine ⟨_, rfl, ?_⟩
  refine ⟨_, (by first | exact Ce (by first | exact add_flat _ _ _ | exact add_flat2 _ _ _ _ | rfl) H.b0 rfl | exact Ce (by first | exact add_flat _ _ _ | exact add_flat2 _ _ _ _ | rfl) H.b1 rfl | exact Ce (by first | exact add_flat _ _ _ | exact add_flat2 _ _ _ _ | rfl) H.b2 rfl | exact Ce (by first | exact add_flat _ _ _ | exact add_flat2 _ _ _ _ | rfl) H.b3 rfl | exact Ce (by first | exact add_flat _ _ _ | exact add_flat2 _ _ _ _ | rfl) H.b4 rfl | exact Ce (by first | exact add_flat _ _ _ | exact add_flat2 _ _ _ _ | rfl) H.b5 rfl | exact Ce (by first | exact add_flat _ _ _ | exact add_flat2 _ _ _ _ | rfl) H.b6 rfl | exact Ce (by first | exact add_flat _ _ _ | exact add_flat2 _ _ _ _ | rfl) H.b7 rfl | exact Ce (by first | exact add_flat _ _ _ | exact add_flat2 _ _ _ _ | rfl) H.b8 rfl | exact Ce (by first | exact add_flat _ _ _ | exact add_flat2 _ _ _ _ | rfl) H.b9 rfl), ?_⟩
  rw [hT.typ, hT.cnt, hT.pad] at H
  rw [hT.typ]
  refine ⟨fun hc => absurd hc (by decide), fun _ => ?_⟩
  refine ⟨_, rfl, ?_⟩
  refine ⟨_, (by first | exact Ce (by first | exact add_flat _ _ _ | exact add_flat2 _ _ _ _ | rfl) H.b0 rfl | exact Ce (by first | exact add_flat _ _ _ | exact add_flat2 _ _ _ _ | rfl) H.b1 rfl | exact Ce (by first | exact add_flat _ _ _ | exact add_flat2 _ _ _ _ | rfl) H.b2 rfl | exact Ce (by first | exact add_flat _ _ _ | exact add_flat2 _ _ _ _ | rfl) H.b3 rfl | exact Ce (by first | exact add_flat _ _ _ | exact add_flat2 _ _ _ _ | rfl) H.b4 rfl | exact Ce (by first | exact add_flat _ _ _ | exact add_flat2 _ _ _ _ | rfl) H.b5 rfl | exact Ce (by first | exact add_flat _ _ _ | exact add_flat2 _ _ _ _ | rfl) H.b6 rfl | exact Ce (by first | exact add_flat _ _ _ | exact add_flat2 _ _ _ _ | rfl) H.b7 rfl | exact Ce (by first | exact add_flat _ _ _ | exact add_flat2 _ _ _ _ | rfl) H.b8 rfl | exact Ce (by first | exact add_flat _ _ _ | exact add_flat2 _ _ _ _ | rfl) H.b9 rfl), ?_⟩
  refine ⟨fun hc => absurd hc (by decide), fun _ => ?_⟩
  refine ⟨by omega, by omega, ?_⟩
  refine call_j (c72 (by first | exact (Sat.rd H (by first | assumption | exact List.mem_cons_self | (apply List.mem_cons_of_mem; first | assumption | exact List.mem_cons_self | (apply List.mem_cons_of_mem; first | assumption | exact List.mem_cons_self | (apply List.mem_cons_of_mem; first | assumption | exact List.mem_cons_self | (apply List.mem_cons_of_mem; first | assumption | exact List.mem_cons_self | (apply List.mem_cons_of_mem; first | assumption | exact List.mem_cons_self))))))) | exact Rd.skip (Sat.rd H (by first | assumption | exact List.mem_cons_self | (apply List.mem_cons_of_mem; first | assumption | exact List.mem_cons_self | (apply List.mem_cons_of_mem; first | assumption | exact List.mem_cons_self | (apply List.mem_cons_of_mem; first | assumption | exact List.mem_cons_self | (apply List.mem_cons_of_mem; first | assumption | exact List.mem_cons_self | (apply List.mem_cons_of_mem; first | assumption | exact List.mem_cons_self))))))) _ (by omega) | exact Rd.skip (Rd.skip (Sat.rd H (by first | assumption | exact List.mem_cons_self | (apply List.mem_cons_of_mem; first | assumption | exact List.mem_cons_self | (apply List.mem_cons_of_mem; first | assumption | exact List.mem_cons_self | (apply List.mem_cons_of_mem; first | assumption | exact List.mem_cons_self | (apply List.mem_cons_of_mem; first | assumption | exact List.mem_cons_self | (apply List.mem_cons_of_mem; first | assumption | exact List.mem_cons_self))))))) _ (by omega)) _ (by omega) | exact Rd.cut (Sat.rd H (by first | assumption | exact List.mem_cons_self | (apply List.mem_cons_of_mem; first | assumption | exact List.mem_cons_self | (apply List.mem_cons_of_mem; first | assumption | exact List.mem_cons_self | (apply List.mem_cons_of_mem; first | assumption | exact List.mem_cons_self | (apply List.mem_cons_of_mem; first | assumption | exact List.mem_cons_self | (apply List.mem_cons_of_mem; first | assumption | exact List.mem_cons_self))))))) _ _ (by omega) (by omega) | exact Rd.skip (Rd.skip (Rd.skip (Sat.rd H (by first | assumption | exact List.mem_cons_self | (apply List.mem_cons_of_mem; first | assumption | exact List.mem_cons_self | (apply List.mem_cons_of_mem; first | assumption | exact List.mem_cons_self | (apply List.mem_cons_of_mem; first | assumption | exact List.mem_cons_self | (apply List.mem_cons_of_mem; first | assumption | exact List.mem_cons_self | (apply List.mem_cons_of_mem; first | assumption | exact List.mem_cons_self))))))) _ (by omega)) _ (by omega)) _ (by omega) | assumption) (hb.drop 4) (by omega)) ?_
  rintro _ w ⟨rfl, g⟩
  replace H := H.grow g; clear g
  refine ⟨_, rfl, ?_⟩
  refine ⟨_, rfl, ?_⟩
  refine sSt0 H (by first | exact add_flat _ _ _ | exact add_flat2 _ _ _ _ | rfl) (by kernel_rfl) (by rfl) (by first | rfl | (simp only [List.all_cons, List.all_nil, Value.cells]; simp [*])) ?_; clear H; intro w _ H   -- StV pg 23 (p_17.add 4) (.int .u32 x15) w_16 w_18
  refine ⟨by omega, by omega, ?_⟩
  refine call_j (c72 (by first | exact (Sat.rd H (by first | assumption | exact List.mem_cons_self | (apply List.mem_cons_of_mem; first | assumption | exact List.mem_cons_self | (apply List.mem_cons_of_mem; first | assumption | exact List.mem_cons_self | (apply List.mem_cons_of_mem; first | assumption | exact List.mem_cons_self | (apply List.mem_cons_of_mem; first | assumption | exact List.mem_cons_self | (apply List.mem_cons_of_mem; first | assumption | exact List.mem_cons_self))))))) | exact Rd.skip (Sat.rd H (by first | assumption | exact List.mem_cons_self | (apply List.mem_cons_of_mem; first | assumption | exact List.mem_cons_self | (apply List.mem_cons_of_mem; first | assumption | exact List.mem_cons_self | (apply List.mem_cons_of_mem; first | assumption | exact List.mem_cons_self | (apply List.mem_cons_of_mem; first | assumption | exact List.mem_cons_self | (apply List.mem_cons_of_mem; first | assumption | exact List.mem_cons_self))))))) _ (by omega) | exact Rd.skip (Rd.skip (Sat.rd H (by first | assumption | exact List.mem_cons_self | (apply List.mem_cons_of_mem; first | assumption | exact List.mem_cons_self | (apply List.mem_cons_of_mem; first | assumption | exact List.mem_cons_self | (apply List.mem_cons_of_mem; first | assumption | exact List.mem_cons_self | (apply List.mem_cons_of_mem; first | assumption | exact List.mem_cons_self | (apply List.mem_cons_of_mem; first | assumption | exact List.mem_cons_self))))))) _ (by omega)) _ (by omega) | exact Rd.cut (Sat.rd H (by first | assumption | exact List.mem_cons_self | (apply List.mem_cons_of_mem; first | assumption | exact List.mem_cons_self | (apply List.mem_cons_of_mem; first | assumption | exact List.mem_cons_self | (apply List.mem_cons_of_mem; first | assumption | exact List.mem_cons_self | (apply List.mem_cons_of_mem; first | assumption | exact List.mem_cons_self | (apply List.mem_cons_of_mem; first | assumption | exact List.mem_cons_self))))))) _ _ (by omega) (by omega) | exact Rd.skip (Rd.skip (Rd.skip (Sat.rd H (by first | assumption | exact List.mem_cons_self | (apply List.mem_cons_of_mem; first | assumption | exact List.mem_cons_self | (apply List.mem_cons_of_mem; first | assumption | exact List.mem_cons_self | (apply List.mem_cons_of_mem; first | assumption | exact List.mem_cons_self | (apply List.mem_cons_of_mem; first | assumption | exact List.mem_cons_self | (apply List.mem_cons_of_mem; first | assumption | exact List.mem_cons_self))))))) _ (by omega)) _ (by omega)) _ (by omega) | assumption) (hb.drop 8) (by omega)) ?_
  rintro _ w ⟨rfl, g⟩
  replace H := H.grow g; clear g
  refine ⟨_, rfl, ?_⟩
  refine ⟨_, rfl, ?_⟩
  refine sSt0 H (by first | exact add_flat _ _ _ | exact add_flat2 _ _ _ _ | rfl) (by kernel_rfl) (by rfl) (by first | rfl | (simp only [List.all_cons, List.all_nil, Value.cells]; simp [*])) ?_; clear H; intro w _ H   -- StV pg 23 (p_21.add 5) (.int .u32 x19) w_20 w_22
  refine ⟨by omega, by omega, ?_⟩
  refine call_j (c76 (by first | exact (Sat.rd H (by first | assumption | exact List.mem_cons_self | (apply List.mem_cons_of_mem; first | assumption | exact List.mem_cons_self | (apply List.mem_cons_of_mem; first | assumption | exact List.mem_cons_self | (apply List.mem_cons_of_mem; first | assumption | exact List.mem_cons_self | (apply List.mem_cons_of_mem; first | assumption | exact List.mem_cons_self | (apply List.mem_cons_of_mem; first | assumption | exact List.mem_cons_self))))))) | exact Rd.skip (Sat.rd H (by first | assumption | exact List.mem_cons_self | (apply List.mem_cons_of_mem; first | assumption | exact List.mem_cons_self | (apply List.mem_cons_of_mem; first | assumption | exact List.mem_cons_self | (apply List.mem_cons_of_mem; first | assumption | exact List.mem_cons_self | (apply List.mem_cons_of_mem; first | assumption | exact List.mem_cons_self | (apply List.mem_cons_of_mem; first | assumption | exact List.mem_cons_self))))))) _ (by omega) | exact Rd.skip (Rd.skip (Sat.rd H (by first | assumption | exact List.mem_cons_self | (apply List.mem_cons_of_mem; first | assumption | exact List.mem_cons_self | (apply List.mem_cons_of_mem; first | assumption | exact List.mem_cons_self | (apply List.mem_cons_of_mem; first | assumption | exact List.mem_cons_self | (apply List.mem_cons_of_mem; first | assumption | exact List.mem_cons_self | (apply List.mem_cons_of_mem; first | assumption | exact List.mem_cons_self))))))) _ (by omega)) _ (by omega) | exact Rd.cut (Sat.rd H (by first | assumption | exact List.mem_cons_self | (apply List.mem_cons_of_mem; first | assumption | exact List.mem_cons_self | (apply List.mem_cons_of_mem; first | assumption | exact List.mem_cons_self | (apply List.mem_cons_of_mem; first | assumption | exact List.mem_cons_self | (apply List.mem_cons_of_mem; first | assumption | exact List.mem_cons_self | (apply List.mem_cons_of_mem; first | assumption | exact List.mem_cons_self))))))) _ _ (by omega) (by omega) | exact Rd.skip (Rd.skip (Rd.skip (Sat.rd H (by first | assumption | exact List.mem_cons_self | (apply List.mem_cons_of_mem; first | assumption | exact List.mem_cons_self | (apply List.mem_cons_of_mem; first | assumption | exact List.mem_cons_self | (apply List.mem_cons_of_mem; first | assumption | exact List.mem_cons_self | (apply List.mem_cons_of_mem; first | assumption | exact List.mem_cons_self | (apply List.mem_cons_of_mem; first | assumption | exact List.mem_cons_self))))))) _ (by omega)) _ (by omega)) _ (by omega) | assumption) (hb.drop 12) (by omega)) ?_
  rintro _ w ⟨rfl, g⟩
  replace H := H.grow g; clear g
  refine ⟨_, rfl, ?_⟩
  refine ⟨_, rfl, ?_⟩
  refine sSt0 H (by first | exact add_flat _ _ _ | exact add_flat2 _ _ _ _ | rfl) (by kernel_rfl) (by rfl) (by first | rfl | (simp only [List.all_cons, List.all_nil, Value.cells]; simp [*])) ?_; clear H; intro w _ H   -- StV pg 32 (p_25.add 6) (.int .u16 x23) w_24 w_26
  refine ⟨by omega, by omega, ?_⟩
  refine call_j (c76 (by first | exact (Sat.rd H (by first | assumption | exact List.mem_cons_self | (apply List.mem_cons_of_mem; first | assumption | exact List.mem_cons_self | (apply List.mem_cons_of_mem; first | assumption | exact List.mem_cons_self | (apply List.mem_cons_of_mem; first | assumption | exact List.mem_cons_self | (apply List.mem_cons_of_mem; first | assumption | exact List.mem_cons_self | (apply List.mem_cons_of_mem; first | assumption | exact List.mem_cons_self))))))) | exact Rd.skip (Sat.rd H (by first | assumption | exact List.mem_cons_self | (apply List.mem_cons_of_mem; first | assumption | exact List.mem_cons_self | (apply List.mem_cons_of_mem; first | assumption | exact List.mem_cons_self | (apply List.mem_cons_of_mem; first | assumption | exact List.mem_cons_self | (apply List.mem_cons_of_mem; first | assumption | exact List.mem_cons_self | (apply List.mem_cons_of_mem; first | assumption | exact List.mem_cons_self))))))) _ (by omega) | exact Rd.skip (Rd.skip (Sat.rd H (by first | assumption | exact List.mem_cons_self | (apply List.mem_cons_of_mem; first | assumption | exact List.mem_cons_self | (apply List.mem_cons_of_mem; first | assumption | exact List.mem_cons_self | (apply List.mem_cons_of_mem; first | assumption | exact List.mem_cons_self | (apply List.mem_cons_of_mem; first | assumption | exact List.mem_cons_self | (apply List.mem_cons_of_mem; first | assumption | exact List.mem_cons_self))))))) _ (by omega)) _ (by omega) | exact Rd.cut (Sat.rd H (by first | assumption | exact List.mem_cons_self | (apply List.mem_cons_of_mem; first | assumption | exact List.mem_cons_self | (apply List.mem_cons_of_mem; first | assumption | exact List.mem_cons_self | (apply List.mem_cons_of_mem; first | assumption | exact List.mem_cons_self | (apply List.mem_cons_of_mem; first | assumption | exact List.mem_cons_self | (apply List.mem_cons_of_mem; first | assumption | exact List.mem_cons_self))))))) _ _ (by omega) (by omega) | exact Rd.skip (Rd.skip (Rd.skip (Sat.rd H (by first | assumption | exact List.mem_cons_self | (apply List.mem_cons_of_mem; first | assumption | exact List.mem_cons_self | (apply List.mem_cons_of_mem; first | assumption | exact List.mem_cons_self | (apply List.mem_cons_of_mem; first | assumption | exact List.mem_cons_self | (apply List.mem_cons_of_mem; first | assumption | exact List.mem_cons_self | (apply List.mem_cons_of_mem; first | assumption | exact List.mem_cons_self))))))) _ (by omega)) _ (by omega)) _ (by omega) | assumption) (hb.drop 14) (by omega)) ?_
  rintro _ w ⟨rfl, g⟩
  replace H := H.grow g; clear g
  refine ⟨_, rfl, ?_⟩
  refine ⟨_, rfl, ?_⟩
  refine sSt0 H (by first | exact add_flat _ _ _ | exact add_flat2 _ _ _ _ | rfl) (by kernel_rfl) (by rfl) (by first | rfl | (simp only [List.all_cons, List.all_nil, Value.cells]; simp [*])) ?_; clear H; intro w _ H   -- StV pg 32 (p_29.add 7) (.int .u16 x27) w_28 w_30
  refine ⟨by omega, by omega, ?_⟩
  refine ⟨by omega, by omega, ?_⟩
  have H1 := H.cutB hx 16 19 (by omega) (by omega)
  refine call_j (c165 (Sat.rd H1 List.mem_cons_self) ((hb.drop 16).take _) (by omega)) ?_
  clear H1
  rintro _ w ⟨rfl, g⟩
  rw [show (19 : Nat) - 16 = 3 by rfl, n24_take]
  replace H := H.grow g; clear g
  refine ⟨_, rfl, ?_⟩
  refine ⟨_, rfl, ?_⟩
  refine sSt0 H (by first | exact add_flat _ _ _ | exact add_flat2 _ _ _ _ | rfl) (by kernel_rfl) (by rfl) (by first | rfl | (simp only [List.all_cons, List.all_nil, Value.cells]; simp [*])) ?_; clear H; intro w _ H   -- StV pg 23 (p_33.add 8) (.int .u32 x31) w_32 w_34
  obtain ⟨p_35, ep_35, hp_35, kp_35, fp_35⟩ := H.at_ (a := a) hx (by omega)
  refine ⟨p_35, ep_35, by omega, by omega, ?_⟩   -- rawPacket_1[(19 : Int)]
  refine ⟨_, hp_35 19 (by omega), ?_⟩   -- w_34.cell? (p_35.add ((19 : Int).toNat * 1)) = some (.int .u8 x36)
  refine ⟨_, rfl, ?_⟩
  clear ep_35 hp_35 kp_35 fp_35
  refine sSt0 H (by first | exact add_flat _ _ _ | exact add_flat2 _ _ _ _ | rfl) (by kernel_rfl) (by rfl) (by first | rfl | (simp only [List.all_cons, List.all_nil, Value.cells]; simp [*])) ?_; clear H; intro w _ H   -- StV pg 5 (p_37.add 9) (.int .u8 x36) w_34 w_38
  have hCN := n16_lt (hb.drop 14)
  replace H : Sat F w (tI b xs none 0 0 none [] none 0 none [] ex) ro := ((((H.noMany 217).nilOwn 216 1).nilOwn 209 1).r3)
  generalize hCNe : n16 (xs.drop 14) = CN at hC hCN
  refine ⟨fun pos proc m w => ∃ (vs1 vs2 : List Int) (f : Nat) (left : Int) (ca : Option Addr) (cc : Nat) (cr : Option Nat) (da : Option Addr) (dc : Nat) (dr : Option Nat) (bs : List (Nat × List Value)),
    pos = ((20 + 2 * vs1.length : Nat) : Int) ∧ proc = (if left ≤ 0 then CN else CN - left) ∧ m = vs2.length ∧ left ≤ CN ∧ vs = vs1 ++ vs2 ∧ tccC f left (xs.drop (20 + 2 * vs1.length)) = some (vs2, zs) ∧ bs.map (·.2) = (recv (vs1.flatMap symL)).map dl0 ∧ (bs.length : Int) ≤ proc ∧
    Sat F w (tI b xs ca vs1.length cc cr (vs1.map chD) da dc dr bs ex) ro, ?_, ?_⟩
  · refine ⟨_, [], vs, f, CN, none, 0, none, none, 0, none, [], rfl, ?_, rfl, by omega, rfl, hC, rfl, ?_, H⟩
    · split <;> omega
    · simp
  clear H; rintro dd40 pos proc m w ⟨vs1, vs2, f', left, ca, cc, cr, da, dc, dr, bs, rfl, hproc, rfl, hleft, hvs, hC', hbs, hbl, H⟩
  refine ⟨_, rfl, ?_⟩
  refine ⟨_, (by first | exact Ce (by first | exact add_flat _ _ _ | exact add_flat2 _ _ _ _ | rfl) H.b0 rfl | exact Ce (by first | exact add_flat _ _ _ | exact add_flat2 _ _ _ _ | rfl) H.b1 rfl | exact Ce (by first | exact add_flat _ _ _ | exact add_flat2 _ _ _ _ | rfl) H.b2 rfl | exact Ce (by first | exact add_flat _ _ _ | exact add_flat2 _ _ _ _ | rfl) H.b3 rfl | exact Ce (by first | exact add_flat _ _ _ | exact add_flat2 _ _ _ _ | rfl) H.b4 rfl | exact Ce (by first | exact add_flat _ _ _ | exact add_flat2 _ _ _ _ | rfl) H.b5 rfl | exact Ce (by first | exact add_flat _ _ _ | exact add_flat2 _ _ _ _ | rfl) H.b6 rfl | exact Ce (by first | exact add_flat _ _ _ | exact add_flat2 _ _ _ _ | rfl) H.b7 rfl | exact Ce (by first | exact add_flat _ _ _ | exact add_flat2 _ _ _ _ | rfl) H.b8 rfl | exact Ce (by first | exact add_flat _ _ _ | exact add_flat2 _ _ _ _ | rfl) H.b9 rfl), ?_⟩   -- w_44.cell? (p_47.add 7) = some (.int .u16 x48)
  have hvl : vs.length = vs1.length + vs2.length := by rw [hvs, List.length_append]
  refine ⟨fun hc => ?_, fun hc => ?_⟩   -- (decide (processedPacketNum46 < x48))
  · rw [decide_eq_true_eq, hCNe] at hc
    have hl0 : 0 < left := by
      by_cases h : left ≤ 0
      · rw [if_pos h] at hproc; omega
      · omega
    rw [if_neg (by omega)] at hproc
    obtain ⟨g', v, vs3, hy2, hv, rfl, hok, hso, hC3⟩ := tccC_cons hC' hl0
    have hby : By (xs.drop (20 + 2 * vs1.length)) := hb.drop _
    have hvr : 0 ≤ v ∧ v < 65536 := by rw [hv]; exact n16_lt hby
    rw [List.length_drop] at hy2
    rw [List.length_cons] at hvl
    rw [wi64_of (n := ((20 + 2 * vs1.length : Nat) : Int) + 2) (by omega) (by omega), wi64_of (n := ((20 + 2 * vs1.length : Nat) : Int) + 1) (by omega) (by omega)]
    refine ⟨fun hc => ?_, fun hc => ?_⟩
    · rw [decide_eq_true_eq] at hc; omega
    clear hc
    refine ⟨by omega, by omega, ?_⟩
    refine ⟨by omega, by omega, ?_⟩
    rw [show (((20 + 2 * vs1.length : Nat) : Int) + 2).toNat = 22 + 2 * vs1.length by omega, Int.toNat_natCast, show 22 + 2 * vs1.length - (20 + 2 * vs1.length) = 2 by omega]
    replace H := H.cutB hx (20 + 2 * vs1.length) (22 + 2 * vs1.length) (by omega) (by omega)
    rw [show 22 + 2 * vs1.length - (20 + 2 * vs1.length) = 2 by omega] at H
    obtain ⟨p_50, ep_50, hp_50, kp_50, fp_50⟩ := H.at_ (a := cutA a (20 + 2 * vs1.length) c 1) List.mem_cons_self (by omega)
    refine ⟨p_50, ep_50, by omega, by omega, ?_⟩
    refine ⟨_, hp_50 0 (by omega), ?_⟩
    have hby2 : By ((xs.drop (20 + 2 * vs1.length)).take 2) := hby.take 2
    have h0 := hby2.getD 0
    have h1 := hby2.getD 1
    have hv2 : v = n16 ((xs.drop (20 + 2 * vs1.length)).take 2) := by rw [n16_take, hv]
    clear hp_50 kp_50 fp_50 ep_50
    refine call_j (c166 (by omega) (by omega)) ?_
    rintro _ w ⟨rfl, g⟩
    replace H := H.grow g; clear g
    refine ⟨_, rfl, ?_⟩
    have e1 : nbits (((xs.drop (20 + 2 * vs1.length)).take 2).getD 0 0) 0 1 = v / 32768 := by
      have := nb1 h0 (s := 0) (by omega)
      rw [show ((0 : Nat) : Int) = 0 from rfl] at this
      rw [this, show (2 : Int) ^ (7 - 0) = 128 from rfl, hv2]
      unfold n16; omega
    rw [e1]
    have hwr : IntKind.u16.wrap (CN - proc) = left := by rw [wu16]; omega
    obtain ⟨l1, l2⟩ := symL_len2 hvr
    refine ⟨fun proc' ip _ w => ∃ (da : Option Addr) (dc : Nat) (dr : Option Nat) (bs' : List (Nat × List Value)) (T : TypeId) (q : Option Addr), proc' = (if left - (symL v).length ≤ 0 then CN else CN - (left - (symL v).length)) ∧ ip = .iface T (.pointer q) ∧ bs'.map (·.2) = (recv ((vs1 ++ [v]).flatMap symL)).map dl0 ∧ (bs'.length : Int) ≤ proc' ∧
      Sat F w (tI b xs ca vs1.length cc cr (vs1.map chD) da dc dr bs' ex) (.deep [chD v] [ip] :: ro), ?_, ?_⟩
    · refine ⟨fun hc => ?_, fun hc => ?_⟩   -- (x52 == (0 : Int))
      · have hc0 : v / 32768 = 0 := by simpa using hc
        rw [hc0]
        refine sNew H ?_; clear H; intro cb w _ H
        refine ⟨by omega, by omega, ?_⟩
        refine ⟨by omega, by omega, ?_⟩
        refine call_j (c167 H List.mem_cons_self hby2 rfl) ?_
        rintro _ w ⟨rfl, H⟩
        refine ⟨_, rfl, ?_⟩
        refine ⟨by simp [isIf], ?_⟩
        refine ⟨fun hc => absurd hc (by decide), fun _ => ?_⟩
        rw [← hv2] at H
        have hrun : ¬ (v % 8192 = 0 ∨ left < v % 8192) := fun h => hok ⟨hc0, h⟩
        obtain ⟨rn, hrn⟩ : ∃ rn : Nat, v % 8192 = (rn : Int) := ⟨(v % 8192).toNat, by omega⟩
        have hll := l1 hc0
        have hsl : symL v = List.replicate rn (v / 8192 % 4) := by rw [symL_run hc0, hrn, Int.toNat_natCast]
        have hchd := chD_run hc0
        have hrec : recv ((vs1 ++ [v]).flatMap symL) = recv (vs1.flatMap symL ++ List.replicate rn (v / 8192 % 4)) := by rw [List.flatMap_append, ← hsl]; simp
        generalize v / 8192 % 4 = sy at H hsl hchd hrec
        rw [hrn] at H hchd hll
        refine ⟨none, ?_⟩; replace H := H.drew; generalize w.drew = wd1 at H ⊢; have K := grew_refl wd1 (none)
        refine ⟨_, rfl, ?_⟩
        refine ⟨(by first | exact Option.some_ne_none _ | exact H.ne (by first | exact List.mem_cons_self | (apply List.mem_cons_of_mem; first | exact List.mem_cons_self | (apply List.mem_cons_of_mem; first | exact List.mem_cons_self | (apply List.mem_cons_of_mem; first | exact List.mem_cons_self | (apply List.mem_cons_of_mem; first | exact List.mem_cons_self | (apply List.mem_cons_of_mem; first | exact List.mem_cons_self | (apply List.mem_cons_of_mem; first | exact List.mem_cons_self | (apply List.mem_cons_of_mem; first | exact List.mem_cons_self)))))))) (by first | exact List.mem_cons_self | (apply List.mem_cons_of_mem; first | exact List.mem_cons_self | (apply List.mem_cons_of_mem; first | exact List.mem_cons_self | (apply List.mem_cons_of_mem; first | exact List.mem_cons_self | (apply List.mem_cons_of_mem; first | exact List.mem_cons_self | (apply List.mem_cons_of_mem; first | exact List.mem_cons_self | (apply List.mem_cons_of_mem; first | exact List.mem_cons_self | (apply List.mem_cons_of_mem; first | exact List.mem_cons_self))))))))), ?_⟩   -- some ((p_62.add 7)).block ≠ r61
        refine ⟨(by first | exact H.b0.row | exact H.b1.row | exact H.b2.row | exact H.b3.row | exact H.b4.row | exact H.b5.row | exact H.b6.row | exact H.b7.row), ?_⟩   -- ∃ c ty f, wd1.heap[((p_62.add 7)).block]? = some (.cells c t
        refine ⟨_, (by first | exact Ce (by first | exact add_flat _ _ _ | exact add_flat2 _ _ _ _ | rfl) H.b0 rfl | exact Ce (by first | exact add_flat _ _ _ | exact add_flat2 _ _ _ _ | rfl) H.b1 rfl | exact Ce (by first | exact add_flat _ _ _ | exact add_flat2 _ _ _ _ | rfl) H.b2 rfl | exact Ce (by first | exact add_flat _ _ _ | exact add_flat2 _ _ _ _ | rfl) H.b3 rfl | exact Ce (by first | exact add_flat _ _ _ | exact add_flat2 _ _ _ _ | rfl) H.b4 rfl | exact Ce (by first | exact add_flat _ _ _ | exact add_flat2 _ _ _ _ | rfl) H.b5 rfl | exact Ce (by first | exact add_flat _ _ _ | exact add_flat2 _ _ _ _ | rfl) H.b6 rfl | exact Ce (by first | exact add_flat _ _ _ | exact add_flat2 _ _ _ _ | rfl) H.b7 rfl | exact Ce (by first | exact add_flat _ _ _ | exact add_flat2 _ _ _ _ | rfl) H.b8 rfl | exact Ce (by first | exact add_flat _ _ _ | exact add_flat2 _ _ _ _ | rfl) H.b9 rfl), ?_⟩   -- wd1.cell? (p_62.add 7) = some (.int .u16 x63)
        refine ⟨_, rfl, ?_⟩
        refine ⟨(by first | exact Option.some_ne_none _ | exact H.ne (by first | exact List.mem_cons_self | (apply List.mem_cons_of_mem; first | exact List.mem_cons_self | (apply List.mem_cons_of_mem; first | exact List.mem_cons_self | (apply List.mem_cons_of_mem; first | exact List.mem_cons_self | (apply List.mem_cons_of_mem; first | exact List.mem_cons_self | (apply List.mem_cons_of_mem; first | exact List.mem_cons_self | (apply List.mem_cons_of_mem; first | exact List.mem_cons_self | (apply List.mem_cons_of_mem; first | exact List.mem_cons_self)))))))) (by first | exact List.mem_cons_self | (apply List.mem_cons_of_mem; first | exact List.mem_cons_self | (apply List.mem_cons_of_mem; first | exact List.mem_cons_self | (apply List.mem_cons_of_mem; first | exact List.mem_cons_self | (apply List.mem_cons_of_mem; first | exact List.mem_cons_self | (apply List.mem_cons_of_mem; first | exact List.mem_cons_self | (apply List.mem_cons_of_mem; first | exact List.mem_cons_self | (apply List.mem_cons_of_mem; first | exact List.mem_cons_self))))))))), ?_⟩   -- some ((p_64.add 3)).block ≠ r61
        refine ⟨(by first | exact H.b0.row | exact H.b1.row | exact H.b2.row | exact H.b3.row | exact H.b4.row | exact H.b5.row | exact H.b6.row | exact H.b7.row), ?_⟩   -- ∃ c ty f, wd1.heap[((p_64.add 3)).block]? = some (.cells c t
        refine ⟨_, (by first | exact Ce (by first | exact add_flat _ _ _ | exact add_flat2 _ _ _ _ | rfl) H.b0 rfl | exact Ce (by first | exact add_flat _ _ _ | exact add_flat2 _ _ _ _ | rfl) H.b1 rfl | exact Ce (by first | exact add_flat _ _ _ | exact add_flat2 _ _ _ _ | rfl) H.b2 rfl | exact Ce (by first | exact add_flat _ _ _ | exact add_flat2 _ _ _ _ | rfl) H.b3 rfl | exact Ce (by first | exact add_flat _ _ _ | exact add_flat2 _ _ _ _ | rfl) H.b4 rfl | exact Ce (by first | exact add_flat _ _ _ | exact add_flat2 _ _ _ _ | rfl) H.b5 rfl | exact Ce (by first | exact add_flat _ _ _ | exact add_flat2 _ _ _ _ | rfl) H.b6 rfl | exact Ce (by first | exact add_flat _ _ _ | exact add_flat2 _ _ _ _ | rfl) H.b7 rfl | exact Ce (by first | exact add_flat _ _ _ | exact add_flat2 _ _ _ _ | rfl) H.b8 rfl | exact Ce (by first | exact add_flat _ _ _ | exact add_flat2 _ _ _ _ | rfl) H.b9 rfl), ?_⟩   -- wd1.cell? (p_64.add 3) = some (.int .u16 x65)
        rw [hCNe, hwr]
        refine call_j (c168) ?_
        rintro _ w ⟨rfl, g⟩
        rw [if_neg (by omega)]
        replace H := H.grow g; replace K := World.grownBy.trans K (grew_none _ g); clear g
        refine ⟨_, rfl, ?_⟩
        refine ⟨K, ?_⟩   -- wd1.grownBy w_67 r61
        refine ⟨fun _ w => ∃ (da : Option Addr) (dc : Nat) (dr : Option Nat) (bs' : List (Nat × List Value)), bs'.map (·.2) = (recv ((vs1 ++ [v]).flatMap symL)).map dl0 ∧ bs'.length ≤ bs.length + rn ∧
          Sat F w (.blk cb 214 [.nilIface, .int .u16 0, .int .u16 sy, .int .u16 (rn : Int)] :: tI b xs ca vs1.length cc cr (vs1.map chD) da dc dr bs' ex) (.deep [.row 1 (ob (((xs.drop (20 + 2 * vs1.length)).take 2)))] [.slice (cutA a (20 + 2 * vs1.length) c 1) 2 (c - (20 + 2 * vs1.length))] :: ro), ?_, ?_⟩
        · refine ⟨_, rfl, ?_⟩
          refine ⟨_, (by first | exact Ce (by first | exact add_flat _ _ _ | exact add_flat2 _ _ _ _ | rfl) H.b0 rfl | exact Ce (by first | exact add_flat _ _ _ | exact add_flat2 _ _ _ _ | rfl) H.b1 rfl | exact Ce (by first | exact add_flat _ _ _ | exact add_flat2 _ _ _ _ | rfl) H.b2 rfl | exact Ce (by first | exact add_flat _ _ _ | exact add_flat2 _ _ _ _ | rfl) H.b3 rfl | exact Ce (by first | exact add_flat _ _ _ | exact add_flat2 _ _ _ _ | rfl) H.b4 rfl | exact Ce (by first | exact add_flat _ _ _ | exact add_flat2 _ _ _ _ | rfl) H.b5 rfl | exact Ce (by first | exact add_flat _ _ _ | exact add_flat2 _ _ _ _ | rfl) H.b6 rfl | exact Ce (by first | exact add_flat _ _ _ | exact add_flat2 _ _ _ _ | rfl) H.b7 rfl | exact Ce (by first | exact add_flat _ _ _ | exact add_flat2 _ _ _ _ | rfl) H.b8 rfl | exact Ce (by first | exact add_flat _ _ _ | exact add_flat2 _ _ _ _ | rfl) H.b9 rfl), ?_⟩   -- w_67.cell? (p_71.add 2) = some (.int .u16 x72)
          refine ⟨fun hc => ?_, fun hc => ?_⟩   -- (x72 == (1 : Int))
          · have hsy : sy = 1 := by simpa using hc
            subst hsy
            refine ⟨fun x79 m_75 w => ∃ (j : Nat) (da : Option Addr) (dc : Nat) (dr : Option Nat) (bs' : List (Nat × List Value)), x79 = (j : Int) ∧ j + m_75 = rn ∧ bs'.map (·.2) = (recv (vs1.flatMap symL)).map dl0 ++ List.replicate j (dl0 1) ∧ bs'.length = bs.length + j ∧
              Sat F w (.blk cb 214 [.nilIface, .int .u16 0, .int .u16 1, .int .u16 (rn : Int)] :: tI b xs ca vs1.length cc cr (vs1.map chD) da dc dr bs' ex) (.deep [.row 1 (ob (((xs.drop (20 + 2 * vs1.length)).take 2)))] [.slice (cutA a (20 + 2 * vs1.length) c 1) 2 (c - (20 + 2 * vs1.length))] :: ro), ⟨rn, 0, da, dc, dr, bs, rfl, by omega, by simpa using hbs, by omega, H⟩, ?_⟩
            clear H; rintro dd74 x79 m_75 w ⟨j, da, dc, dr, bs', rfl, hjm, hbs', hbl, H⟩
            refine ⟨fun hc => ?_, fun hc => ?_⟩
            · rw [decide_eq_true_eq] at hc
              refine ⟨dr, ?_⟩; replace H := H.drew; generalize w.drew = wd2 at H ⊢; have K := grew_refl wd2 (dr)
              refine ⟨_, rfl, ?_⟩
              refine ⟨(by first | exact Option.some_ne_none _ | exact H.ne (by first | exact List.mem_cons_self | (apply List.mem_cons_of_mem; first | exact List.mem_cons_self | (apply List.mem_cons_of_mem; first | exact List.mem_cons_self | (apply List.mem_cons_of_mem; first | exact List.mem_cons_self | (apply List.mem_cons_of_mem; first | exact List.mem_cons_self | (apply List.mem_cons_of_mem; first | exact List.mem_cons_self | (apply List.mem_cons_of_mem; first | exact List.mem_cons_self | (apply List.mem_cons_of_mem; first | exact List.mem_cons_self)))))))) (by first | exact List.mem_cons_self | (apply List.mem_cons_of_mem; first | exact List.mem_cons_self | (apply List.mem_cons_of_mem; first | exact List.mem_cons_self | (apply List.mem_cons_of_mem; first | exact List.mem_cons_self | (apply List.mem_cons_of_mem; first | exact List.mem_cons_self | (apply List.mem_cons_of_mem; first | exact List.mem_cons_self | (apply List.mem_cons_of_mem; first | exact List.mem_cons_self | (apply List.mem_cons_of_mem; first | exact List.mem_cons_self))))))))), ?_⟩
              refine ⟨(by first | exact H.b0.row | exact H.b1.row | exact H.b2.row | exact H.b3.row | exact H.b4.row | exact H.b5.row | exact H.b6.row | exact H.b7.row), ?_⟩
              refine ⟨_, _, _, (by first | exact Ce (by first | exact add_flat _ _ _ | exact add_flat2 _ _ _ _ | rfl) H.b0 rfl | exact Ce (by first | exact add_flat _ _ _ | exact add_flat2 _ _ _ _ | rfl) H.b1 rfl | exact Ce (by first | exact add_flat _ _ _ | exact add_flat2 _ _ _ _ | rfl) H.b2 rfl | exact Ce (by first | exact add_flat _ _ _ | exact add_flat2 _ _ _ _ | rfl) H.b3 rfl | exact Ce (by first | exact add_flat _ _ _ | exact add_flat2 _ _ _ _ | rfl) H.b4 rfl | exact Ce (by first | exact add_flat _ _ _ | exact add_flat2 _ _ _ _ | rfl) H.b5 rfl | exact Ce (by first | exact add_flat _ _ _ | exact add_flat2 _ _ _ _ | rfl) H.b6 rfl | exact Ce (by first | exact add_flat _ _ _ | exact add_flat2 _ _ _ _ | rfl) H.b7 rfl | exact Ce (by first | exact add_flat _ _ _ | exact add_flat2 _ _ _ _ | rfl) H.b8 rfl | exact Ce (by first | exact add_flat _ _ _ | exact add_flat2 _ _ _ _ | rfl) H.b9 rfl), ?_⟩
              refine ⟨_, rfl, ?_⟩
              refine ⟨(by first | exact Option.some_ne_none _ | exact H.ne (by first | exact List.mem_cons_self | (apply List.mem_cons_of_mem; first | exact List.mem_cons_self | (apply List.mem_cons_of_mem; first | exact List.mem_cons_self | (apply List.mem_cons_of_mem; first | exact List.mem_cons_self | (apply List.mem_cons_of_mem; first | exact List.mem_cons_self | (apply List.mem_cons_of_mem; first | exact List.mem_cons_self | (apply List.mem_cons_of_mem; first | exact List.mem_cons_self | (apply List.mem_cons_of_mem; first | exact List.mem_cons_self)))))))) (by first | exact List.mem_cons_self | (apply List.mem_cons_of_mem; first | exact List.mem_cons_self | (apply List.mem_cons_of_mem; first | exact List.mem_cons_self | (apply List.mem_cons_of_mem; first | exact List.mem_cons_self | (apply List.mem_cons_of_mem; first | exact List.mem_cons_self | (apply List.mem_cons_of_mem; first | exact List.mem_cons_self | (apply List.mem_cons_of_mem; first | exact List.mem_cons_self | (apply List.mem_cons_of_mem; first | exact List.mem_cons_self))))))))), ?_⟩
              refine ⟨(by first | exact H.b0.row | exact H.b1.row | exact H.b2.row | exact H.b3.row | exact H.b4.row | exact H.b5.row | exact H.b6.row | exact H.b7.row), ?_⟩
              refine ⟨_, (by first | exact Ce (by first | exact add_flat _ _ _ | exact add_flat2 _ _ _ _ | rfl) H.b0 rfl | exact Ce (by first | exact add_flat _ _ _ | exact add_flat2 _ _ _ _ | rfl) H.b1 rfl | exact Ce (by first | exact add_flat _ _ _ | exact add_flat2 _ _ _ _ | rfl) H.b2 rfl | exact Ce (by first | exact add_flat _ _ _ | exact add_flat2 _ _ _ _ | rfl) H.b3 rfl | exact Ce (by first | exact add_flat _ _ _ | exact add_flat2 _ _ _ _ | rfl) H.b4 rfl | exact Ce (by first | exact add_flat _ _ _ | exact add_flat2 _ _ _ _ | rfl) H.b5 rfl | exact Ce (by first | exact add_flat _ _ _ | exact add_flat2 _ _ _ _ | rfl) H.b6 rfl | exact Ce (by first | exact add_flat _ _ _ | exact add_flat2 _ _ _ _ | rfl) H.b7 rfl | exact Ce (by first | exact add_flat _ _ _ | exact add_flat2 _ _ _ _ | rfl) H.b8 rfl | exact Ce (by first | exact add_flat _ _ _ | exact add_flat2 _ _ _ _ | rfl) H.b9 rfl), ?_⟩
              refine sNew H ?_; clear H; intro bd w g H; replace K := World.grownBy.trans K (grew_none _ g); clear g
              refine ⟨K, ?_⟩
              refine ⟨rfl, ?_⟩
              refine sNew H ?_; clear H; intro be w g H; replace K := World.grownBy.trans K (grew_none _ g); clear g
              refine ⟨K, ?_⟩
              refine sApp5 H (bytes := 8) (by kernel_rfl) [.pointer (some ⟨bd, 0, none⟩)] [.one (.pointer (some ⟨bd, 0, none⟩))] (by rfl) (fun j u hu => by rw [add_flat, Nat.zero_add]; exact H.b0.cell hu) (fun G h => by repeat (first | exact DeepL.nil _ _ | exact DeepL.ones _ | refine DeepL.cons (Deep.emp _ _) ?_ | refine DeepL.cons (Deep.one _) ?_ | refine DeepL.cons (h (.deep [_] [_]) (by assumption)).head ?_ | refine DeepL.cons (h (.deep [_] [_]) (by first | assumption | exact List.mem_cons_self | (apply List.mem_cons_of_mem; first | assumption | exact List.mem_cons_self | (apply List.mem_cons_of_mem; first | assumption | exact List.mem_cons_self | (apply List.mem_cons_of_mem; first | assumption | exact List.mem_cons_self | (apply List.mem_cons_of_mem; first | assumption | exact List.mem_cons_self | (apply List.mem_cons_of_mem; first | assumption | exact List.mem_cons_self))))))).head ?_)) (by simp [Value.oneCell']) (by unfold maxLen; omega) (by omega) ?_
              clear H; intro da' dn' dc' dr' w ex89 g H
              replace K := World.grownBy.trans K g; clear g; replace H := H.sub (List.sublist_cons_self _ _) (fun _ h => h)
              refine ⟨K, ?_⟩
              refine ⟨_, rfl, ?_⟩
              refine sSt2 H (by first | exact add_flat _ _ _ | exact add_flat2 _ _ _ _ | rfl) (by kernel_rfl) (by rfl) (by first | rfl | (simp only [List.all_cons, List.all_nil, Value.cells]; simp [*])) ?_; clear H; intro w _ H
              replace H := Sat.tPush (s := 1) H ex89
              subst ex89
              refine ⟨m_75 - 1, by omega, j + 1, da', dc', dr', _, ?_, by omega, ?_, ?_, H⟩
              · rw [wu16]; omega
              · rw [List.map_append, hbs', List.append_assoc, List.replicate_succ']; rfl
              · simp; omega
            · rw [decide_eq_false_iff_not] at hc
              obtain rfl : j = rn := by omega
              refine ⟨da, dc, dr, bs', ?_, by omega, H⟩
              rw [hbs', hrec, recv_append, recv_rep _ (by decide), List.map_append, List.map_replicate]
          · have hs1 : ¬ sy = 1 := by simpa using hc
            refine ⟨_, rfl, ?_⟩
            refine ⟨_, (by first | exact Ce (by first | exact add_flat _ _ _ | exact add_flat2 _ _ _ _ | rfl) H.b0 rfl | exact Ce (by first | exact add_flat _ _ _ | exact add_flat2 _ _ _ _ | rfl) H.b1 rfl | exact Ce (by first | exact add_flat _ _ _ | exact add_flat2 _ _ _ _ | rfl) H.b2 rfl | exact Ce (by first | exact add_flat _ _ _ | exact add_flat2 _ _ _ _ | rfl) H.b3 rfl | exact Ce (by first | exact add_flat _ _ _ | exact add_flat2 _ _ _ _ | rfl) H.b4 rfl | exact Ce (by first | exact add_flat _ _ _ | exact add_flat2 _ _ _ _ | rfl) H.b5 rfl | exact Ce (by first | exact add_flat _ _ _ | exact add_flat2 _ _ _ _ | rfl) H.b6 rfl | exact Ce (by first | exact add_flat _ _ _ | exact add_flat2 _ _ _ _ | rfl) H.b7 rfl | exact Ce (by first | exact add_flat _ _ _ | exact add_flat2 _ _ _ _ | rfl) H.b8 rfl | exact Ce (by first | exact add_flat _ _ _ | exact add_flat2 _ _ _ _ | rfl) H.b9 rfl), ?_⟩   -- w_67.cell? (p_93.add 2) = some (.int .u16 x94)
            refine ⟨fun hc => ?_, fun hc => ?_⟩   -- (x94 == (2 : Int))
            · clear hs1
              have hsy : sy = 2 := by simpa using hc
              subst hsy
              refine ⟨fun x79 m_75 w => ∃ (j : Nat) (da : Option Addr) (dc : Nat) (dr : Option Nat) (bs' : List (Nat × List Value)), x79 = (j : Int) ∧ j + m_75 = rn ∧ bs'.map (·.2) = (recv (vs1.flatMap symL)).map dl0 ++ List.replicate j (dl0 2) ∧ bs'.length = bs.length + j ∧
                Sat F w (.blk cb 214 [.nilIface, .int .u16 0, .int .u16 2, .int .u16 (rn : Int)] :: tI b xs ca vs1.length cc cr (vs1.map chD) da dc dr bs' ex) (.deep [.row 1 (ob (((xs.drop (20 + 2 * vs1.length)).take 2)))] [.slice (cutA a (20 + 2 * vs1.length) c 1) 2 (c - (20 + 2 * vs1.length))] :: ro), ⟨rn, 0, da, dc, dr, bs, rfl, by omega, by simpa using hbs, by omega, H⟩, ?_⟩
              clear H; rintro dd74 x79 m_75 w ⟨j, da, dc, dr, bs', rfl, hjm, hbs', hbl, H⟩
              refine ⟨fun hc => ?_, fun hc => ?_⟩
              · rw [decide_eq_true_eq] at hc
                refine ⟨dr, ?_⟩; replace H := H.drew; generalize w.drew = wd2 at H ⊢; have K := grew_refl wd2 (dr)
                refine ⟨_, rfl, ?_⟩
                refine ⟨(by first | exact Option.some_ne_none _ | exact H.ne (by first | exact List.mem_cons_self | (apply List.mem_cons_of_mem; first | exact List.mem_cons_self | (apply List.mem_cons_of_mem; first | exact List.mem_cons_self | (apply List.mem_cons_of_mem; first | exact List.mem_cons_self | (apply List.mem_cons_of_mem; first | exact List.mem_cons_self | (apply List.mem_cons_of_mem; first | exact List.mem_cons_self | (apply List.mem_cons_of_mem; first | exact List.mem_cons_self | (apply List.mem_cons_of_mem; first | exact List.mem_cons_self)))))))) (by first | exact List.mem_cons_self | (apply List.mem_cons_of_mem; first | exact List.mem_cons_self | (apply List.mem_cons_of_mem; first | exact List.mem_cons_self | (apply List.mem_cons_of_mem; first | exact List.mem_cons_self | (apply List.mem_cons_of_mem; first | exact List.mem_cons_self | (apply List.mem_cons_of_mem; first | exact List.mem_cons_self | (apply List.mem_cons_of_mem; first | exact List.mem_cons_self | (apply List.mem_cons_of_mem; first | exact List.mem_cons_self))))))))), ?_⟩
                refine ⟨(by first | exact H.b0.row | exact H.b1.row | exact H.b2.row | exact H.b3.row | exact H.b4.row | exact H.b5.row | exact H.b6.row | exact H.b7.row), ?_⟩
                refine ⟨_, _, _, (by first | exact Ce (by first | exact add_flat _ _ _ | exact add_flat2 _ _ _ _ | rfl) H.b0 rfl | exact Ce (by first | exact add_flat _ _ _ | exact add_flat2 _ _ _ _ | rfl) H.b1 rfl | exact Ce (by first | exact add_flat _ _ _ | exact add_flat2 _ _ _ _ | rfl) H.b2 rfl | exact Ce (by first | exact add_flat _ _ _ | exact add_flat2 _ _ _ _ | rfl) H.b3 rfl | exact Ce (by first | exact add_flat _ _ _ | exact add_flat2 _ _ _ _ | rfl) H.b4 rfl | exact Ce (by first | exact add_flat _ _ _ | exact add_flat2 _ _ _ _ | rfl) H.b5 rfl | exact Ce (by first | exact add_flat _ _ _ | exact add_flat2 _ _ _ _ | rfl) H.b6 rfl | exact Ce (by first | exact add_flat _ _ _ | exact add_flat2 _ _ _ _ | rfl) H.b7 rfl | exact Ce (by first | exact add_flat _ _ _ | exact add_flat2 _ _ _ _ | rfl) H.b8 rfl | exact Ce (by first | exact add_flat _ _ _ | exact add_flat2 _ _ _ _ | rfl) H.b9 rfl), ?_⟩
                refine ⟨_, rfl, ?_⟩
                refine ⟨(by first | exact Option.some_ne_none _ | exact H.ne (by first | exact List.mem_cons_self | (apply List.mem_cons_of_mem; first | exact List.mem_cons_self | (apply List.mem_cons_of_mem; first | exact List.mem_cons_self | (apply List.mem_cons_of_mem; first | exact List.mem_cons_self | (apply List.mem_cons_of_mem; first | exact List.mem_cons_self | (apply List.mem_cons_of_mem; first | exact List.mem_cons_self | (apply List.mem_cons_of_mem; first | exact List.mem_cons_self | (apply List.mem_cons_of_mem; first | exact List.mem_cons_self)))))))) (by first | exact List.mem_cons_self | (apply List.mem_cons_of_mem; first | exact List.mem_cons_self | (apply List.mem_cons_of_mem; first | exact List.mem_cons_self | (apply List.mem_cons_of_mem; first | exact List.mem_cons_self | (apply List.mem_cons_of_mem; first | exact List.mem_cons_self | (apply List.mem_cons_of_mem; first | exact List.mem_cons_self | (apply List.mem_cons_of_mem; first | exact List.mem_cons_self | (apply List.mem_cons_of_mem; first | exact List.mem_cons_self))))))))), ?_⟩
                refine ⟨(by first | exact H.b0.row | exact H.b1.row | exact H.b2.row | exact H.b3.row | exact H.b4.row | exact H.b5.row | exact H.b6.row | exact H.b7.row), ?_⟩
                refine ⟨_, (by first | exact Ce (by first | exact add_flat _ _ _ | exact add_flat2 _ _ _ _ | rfl) H.b0 rfl | exact Ce (by first | exact add_flat _ _ _ | exact add_flat2 _ _ _ _ | rfl) H.b1 rfl | exact Ce (by first | exact add_flat _ _ _ | exact add_flat2 _ _ _ _ | rfl) H.b2 rfl | exact Ce (by first | exact add_flat _ _ _ | exact add_flat2 _ _ _ _ | rfl) H.b3 rfl | exact Ce (by first | exact add_flat _ _ _ | exact add_flat2 _ _ _ _ | rfl) H.b4 rfl | exact Ce (by first | exact add_flat _ _ _ | exact add_flat2 _ _ _ _ | rfl) H.b5 rfl | exact Ce (by first | exact add_flat _ _ _ | exact add_flat2 _ _ _ _ | rfl) H.b6 rfl | exact Ce (by first | exact add_flat _ _ _ | exact add_flat2 _ _ _ _ | rfl) H.b7 rfl | exact Ce (by first | exact add_flat _ _ _ | exact add_flat2 _ _ _ _ | rfl) H.b8 rfl | exact Ce (by first | exact add_flat _ _ _ | exact add_flat2 _ _ _ _ | rfl) H.b9 rfl), ?_⟩
                refine sNew H ?_; clear H; intro bd w g H; replace K := World.grownBy.trans K (grew_none _ g); clear g
                refine ⟨K, ?_⟩
                refine ⟨rfl, ?_⟩
                refine sNew H ?_; clear H; intro be w g H; replace K := World.grownBy.trans K (grew_none _ g); clear g
                refine ⟨K, ?_⟩
                refine sApp5 H (bytes := 8) (by kernel_rfl) [.pointer (some ⟨bd, 0, none⟩)] [.one (.pointer (some ⟨bd, 0, none⟩))] (by rfl) (fun j u hu => by rw [add_flat, Nat.zero_add]; exact H.b0.cell hu) (fun G h => by repeat (first | exact DeepL.nil _ _ | exact DeepL.ones _ | refine DeepL.cons (Deep.emp _ _) ?_ | refine DeepL.cons (Deep.one _) ?_ | refine DeepL.cons (h (.deep [_] [_]) (by assumption)).head ?_ | refine DeepL.cons (h (.deep [_] [_]) (by first | assumption | exact List.mem_cons_self | (apply List.mem_cons_of_mem; first | assumption | exact List.mem_cons_self | (apply List.mem_cons_of_mem; first | assumption | exact List.mem_cons_self | (apply List.mem_cons_of_mem; first | assumption | exact List.mem_cons_self | (apply List.mem_cons_of_mem; first | assumption | exact List.mem_cons_self | (apply List.mem_cons_of_mem; first | assumption | exact List.mem_cons_self))))))).head ?_)) (by simp [Value.oneCell']) (by unfold maxLen; omega) (by omega) ?_
                clear H; intro da' dn' dc' dr' w ex89 g H
                replace K := World.grownBy.trans K g; clear g; replace H := H.sub (List.sublist_cons_self _ _) (fun _ h => h)
                refine ⟨K, ?_⟩
                refine ⟨_, rfl, ?_⟩
                refine sSt2 H (by first | exact add_flat _ _ _ | exact add_flat2 _ _ _ _ | rfl) (by kernel_rfl) (by rfl) (by first | rfl | (simp only [List.all_cons, List.all_nil, Value.cells]; simp [*])) ?_; clear H; intro w _ H
                replace H := Sat.tPush (s := 2) H ex89
                subst ex89
                refine ⟨m_75 - 1, by omega, j + 1, da', dc', dr', _, ?_, by omega, ?_, ?_, H⟩
                · rw [wu16]; omega
                · rw [List.map_append, hbs', List.append_assoc, List.replicate_succ']; rfl
                · simp; omega
              · rw [decide_eq_false_iff_not] at hc
                obtain rfl : j = rn := by omega
                refine ⟨da, dc, dr, bs', ?_, by omega, H⟩
                rw [hbs', hrec, recv_append, recv_rep _ (by decide), List.map_append, List.map_replicate]
            · have hs2 : ¬ sy = 2 := by simpa using hc
              refine ⟨da, dc, dr, bs, ?_, by omega, H⟩
              rw [hrec, recv_append, recv_rep0 _ hs1 hs2, List.append_nil]; exact hbs
        · clear H K; rintro dd69 w ⟨da, dc, dr, bs', hbs', hbl', H⟩
          have H1 := H.blkPtr [.one .nilIface, .one (.int .u16 0), .one (.int .u16 sy), .one (.int .u16 (rn : Int))] (fun G h => by repeat (first | exact DeepL.nil _ _ | exact DeepL.ones _ | refine DeepL.cons (Deep.emp _ _) ?_ | refine DeepL.cons (Deep.one _) ?_ | refine DeepL.cons (h (.deep [_] [_]) (by assumption)).head ?_ | refine DeepL.cons (h (.deep [_] [_]) (by first | assumption | exact List.mem_cons_self | (apply List.mem_cons_of_mem; first | assumption | exact List.mem_cons_self | (apply List.mem_cons_of_mem; first | assumption | exact List.mem_cons_self | (apply List.mem_cons_of_mem; first | assumption | exact List.mem_cons_self | (apply List.mem_cons_of_mem; first | assumption | exact List.mem_cons_self | (apply List.mem_cons_of_mem; first | assumption | exact List.mem_cons_self))))))).head ?_))
          have H2 := H1.addD (ds := [chD v]) (vs := [.iface 212 (.pointer (some ⟨cb, 0, none⟩))]) (fun G h => by rw [hchd]; exact DeepL.cons (.ifc _ _ _ (h (.deep [_] [_]) List.mem_cons_self).head) (DeepL.nil _ _))
          have e6 : IntKind.u16.wrap (proc + (rn : Int)) = (if left - ((symL v).length : Int) ≤ 0 then CN else CN - (left - (symL v).length)) := by
            rw [wu16, hll, Int.toNat_natCast]; split <;> omega
          refine ⟨da, dc, dr, bs', _, _, e6, rfl, hbs', ?_, H2.sub (by repeat (first | exact List.Sublist.refl _ | exact List.nil_sublist _ | apply List.Sublist.cons_cons | apply List.Sublist.cons)) (fun r hr => by (try simp only [List.mem_cons] at hr ⊢); (repeat (first | (rcases hr with rfl | hr; (first | (left; rfl) | (right; left; rfl) | (right; right; left; rfl) | (right; right; right; left; rfl) | (right; right; right; right; left; rfl)))  | (simp [hr]; done) | assumption | exact hr.elim)))⟩
          rw [wu16]; omega
      · have hc0 : ¬ v / 32768 = 0 := by simpa using hc
        have hc1 : v / 32768 = 1 := by omega
        rw [hc1]
        refine ⟨fun _ => ?_, fun hc => absurd hc (by decide)⟩   -- (x52 == (1 : Int))
        refine sNew H ?_; clear H; intro cb w _ H
        refine ⟨by omega, by omega, ?_⟩
        refine ⟨by omega, by omega, ?_⟩
        refine call_j (c169 H List.mem_cons_self hby2 rfl (by rw [← hv2]; exact hc0)) ?_
        rintro _ w ⟨rfl, l, lc, H⟩
        refine ⟨_, rfl, ?_⟩
        refine ⟨by simp [isIf], ?_⟩
        refine ⟨fun hc => absurd hc (by decide), fun _ => ?_⟩
        rw [← hv2] at H
        have hchd := chD_vec hc0
        have hl14 := l2 hc0
        have hsym := symL_vec hc0 hvr
        have hsrg := symL_range hvr
        have hS : v / 16384 % 2 = 0 ∨ v / 16384 % 2 = 1 := by omega
        have hrec : recv ((vs1 ++ [v]).flatMap symL) = recv (vs1.flatMap symL) ++ recv (symL v) := by rw [List.flatMap_append, recv_append]; simp
        generalize v / 16384 % 2 = S at H hchd hsym hS
        obtain ⟨NN, hNN, hNt, hNl⟩ : ∃ NN : Nat, (if (((symL v).length : Nat) : Int) < left then (((symL v).length : Nat) : Int) else left) = (NN : Int) ∧ recv ((symL v).take NN) = recv (symL v) ∧ NN ≤ (symL v).length := by
          by_cases h : (((symL v).length : Nat) : Int) < left
          · exact ⟨(symL v).length, if_pos h, by rw [List.take_length], Nat.le_refl _⟩
          · exact ⟨left.toNat, by rw [if_neg h]; omega, recv_take (left := left) _ _ hso, by omega⟩
        refine ⟨_, rfl, ?_⟩
        replace H := H.drew; generalize w.drew = w at H ⊢
        refine ⟨_, (by first | exact Ce (by first | exact add_flat _ _ _ | exact add_flat2 _ _ _ _ | rfl) H.b0 rfl | exact Ce (by first | exact add_flat _ _ _ | exact add_flat2 _ _ _ _ | rfl) H.b1 rfl | exact Ce (by first | exact add_flat _ _ _ | exact add_flat2 _ _ _ _ | rfl) H.b2 rfl | exact Ce (by first | exact add_flat _ _ _ | exact add_flat2 _ _ _ _ | rfl) H.b3 rfl | exact Ce (by first | exact add_flat _ _ _ | exact add_flat2 _ _ _ _ | rfl) H.b4 rfl | exact Ce (by first | exact add_flat _ _ _ | exact add_flat2 _ _ _ _ | rfl) H.b5 rfl | exact Ce (by first | exact add_flat _ _ _ | exact add_flat2 _ _ _ _ | rfl) H.b6 rfl | exact Ce (by first | exact add_flat _ _ _ | exact add_flat2 _ _ _ _ | rfl) H.b7 rfl | exact Ce (by first | exact add_flat _ _ _ | exact add_flat2 _ _ _ _ | rfl) H.b8 rfl | exact Ce (by first | exact add_flat _ _ _ | exact add_flat2 _ _ _ _ | rfl) H.b9 rfl), ?_⟩   -- wd4.cell? (p_119.add 7) = some (.int .u16 x120)
        refine ⟨_, rfl, ?_⟩
        refine ⟨_, _, _, (by first | exact Ce (by first | exact add_flat _ _ _ | exact add_flat2 _ _ _ _ | rfl) H.b0 rfl | exact Ce (by first | exact add_flat _ _ _ | exact add_flat2 _ _ _ _ | rfl) H.b1 rfl | exact Ce (by first | exact add_flat _ _ _ | exact add_flat2 _ _ _ _ | rfl) H.b2 rfl | exact Ce (by first | exact add_flat _ _ _ | exact add_flat2 _ _ _ _ | rfl) H.b3 rfl | exact Ce (by first | exact add_flat _ _ _ | exact add_flat2 _ _ _ _ | rfl) H.b4 rfl | exact Ce (by first | exact add_flat _ _ _ | exact add_flat2 _ _ _ _ | rfl) H.b5 rfl | exact Ce (by first | exact add_flat _ _ _ | exact add_flat2 _ _ _ _ | rfl) H.b6 rfl | exact Ce (by first | exact add_flat _ _ _ | exact add_flat2 _ _ _ _ | rfl) H.b7 rfl | exact Ce (by first | exact add_flat _ _ _ | exact add_flat2 _ _ _ _ | rfl) H.b8 rfl | exact Ce (by first | exact add_flat _ _ _ | exact add_flat2 _ _ _ _ | rfl) H.b9 rfl), ?_⟩   -- wd4.cell? (p_121.add 3) = some (.slice x122 x122l x122c)
        rw [hCNe, hwr, wi64_of (n := left) (by omega) (by omega), hNN]
        refine ⟨fun _ w => ∃ (da : Option Addr) (dc : Nat) (dr : Option Nat) (bs' : List (Nat × List Value)), (S = 0 → bs'.map (·.2) = (recv ((vs1 ++ [v]).flatMap symL)).map dl0) ∧ (S = 1 → bs'.map (·.2) = (recv (vs1.flatMap symL)).map dl0) ∧ bs'.length ≤ bs.length + NN ∧ (S = 1 → bs'.length ≤ bs.length) ∧
          Sat F w (.blk cb 211 [.nilIface, .int .u16 1, .int .u16 S, .slice l (symL v).length lc] :: tI b xs ca vs1.length cc cr (vs1.map chD) da dc dr bs' ex) (.deep [.row 1 (oi .u16 (symL v))] [.slice l (symL v).length lc] :: .deep [.row 1 (ob (((xs.drop (20 + 2 * vs1.length)).take 2)))] [.slice (cutA a (20 + 2 * vs1.length) c 1) 2 (c - (20 + 2 * vs1.length))] :: ro), ?_, ?_⟩
        · refine ⟨_, rfl, ?_⟩
          refine ⟨_, (by first | exact Ce (by first | exact add_flat _ _ _ | exact add_flat2 _ _ _ _ | rfl) H.b0 rfl | exact Ce (by first | exact add_flat _ _ _ | exact add_flat2 _ _ _ _ | rfl) H.b1 rfl | exact Ce (by first | exact add_flat _ _ _ | exact add_flat2 _ _ _ _ | rfl) H.b2 rfl | exact Ce (by first | exact add_flat _ _ _ | exact add_flat2 _ _ _ _ | rfl) H.b3 rfl | exact Ce (by first | exact add_flat _ _ _ | exact add_flat2 _ _ _ _ | rfl) H.b4 rfl | exact Ce (by first | exact add_flat _ _ _ | exact add_flat2 _ _ _ _ | rfl) H.b5 rfl | exact Ce (by first | exact add_flat _ _ _ | exact add_flat2 _ _ _ _ | rfl) H.b6 rfl | exact Ce (by first | exact add_flat _ _ _ | exact add_flat2 _ _ _ _ | rfl) H.b7 rfl | exact Ce (by first | exact add_flat _ _ _ | exact add_flat2 _ _ _ _ | rfl) H.b8 rfl | exact Ce (by first | exact add_flat _ _ _ | exact add_flat2 _ _ _ _ | rfl) H.b9 rfl), ?_⟩   -- wd4.cell? (p_126.add 2) = some (.int .u16 x127)
          refine ⟨fun hc => ?_, fun hc => ?_⟩   -- (x127 == (0 : Int))
          · have hS0 : S = 0 := by simpa using hc
            subst hS0
            rw [if_pos rfl] at hsym
            have hs2 : ∀ x ∈ symL v, x = 0 ∨ x = 1 := by
              intro x hx'
              rw [hsym] at hx'
              simp only [vecL, List.mem_map, if_pos] at hx'
              obtain ⟨k, _, rfl⟩ := hx'
              unfold bitAt; omega
            refine ⟨fun x134 m_130 w => ∃ (j : Nat) (da : Option Addr) (dc : Nat) (dr : Option Nat) (bs' : List (Nat × List Value)), x134 = (j : Int) ∧ j + m_130 = NN ∧ bs'.map (·.2) = (recv (vs1.flatMap symL) ++ recv ((symL v).take j)).map dl0 ∧ bs'.length ≤ bs.length + j ∧
              Sat F w (.blk cb 211 [.nilIface, .int .u16 1, .int .u16 0, .slice l (symL v).length lc] :: tI b xs ca vs1.length cc cr (vs1.map chD) da dc dr bs' ex) (.deep [.row 1 (oi .u16 (symL v))] [.slice l (symL v).length lc] :: .deep [.row 1 (ob (((xs.drop (20 + 2 * vs1.length)).take 2)))] [.slice (cutA a (20 + 2 * vs1.length) c 1) 2 (c - (20 + 2 * vs1.length))] :: ro), ⟨NN, 0, da, dc, dr, bs, rfl, by omega, by simpa [recv] using hbs, by omega, H⟩, ?_⟩
            clear H; rintro dd129 x134 m_130 w ⟨j, da, dc, dr, bs', rfl, hjm, hbs', hbl, H⟩
            refine ⟨fun hc => ?_, fun hc => ?_⟩
            · rw [decide_eq_true_eq] at hc
              refine ⟨_, rfl, ?_⟩
              refine ⟨_, _, _, (by first | exact Ce (by first | exact add_flat _ _ _ | exact add_flat2 _ _ _ _ | rfl) H.b0 rfl | exact Ce (by first | exact add_flat _ _ _ | exact add_flat2 _ _ _ _ | rfl) H.b1 rfl | exact Ce (by first | exact add_flat _ _ _ | exact add_flat2 _ _ _ _ | rfl) H.b2 rfl | exact Ce (by first | exact add_flat _ _ _ | exact add_flat2 _ _ _ _ | rfl) H.b3 rfl | exact Ce (by first | exact add_flat _ _ _ | exact add_flat2 _ _ _ _ | rfl) H.b4 rfl | exact Ce (by first | exact add_flat _ _ _ | exact add_flat2 _ _ _ _ | rfl) H.b5 rfl | exact Ce (by first | exact add_flat _ _ _ | exact add_flat2 _ _ _ _ | rfl) H.b6 rfl | exact Ce (by first | exact add_flat _ _ _ | exact add_flat2 _ _ _ _ | rfl) H.b7 rfl | exact Ce (by first | exact add_flat _ _ _ | exact add_flat2 _ _ _ _ | rfl) H.b8 rfl | exact Ce (by first | exact add_flat _ _ _ | exact add_flat2 _ _ _ _ | rfl) H.b9 rfl), ?_⟩   -- w_133.cell? (p_135.add 3) = some (.slice x136 x136l x136c)
              obtain ⟨p_137, ep_137, hp_137, kp_137, fp_137⟩ := H.atU (l := symL v) (a := l) (by first | assumption | exact List.mem_cons_self | (apply List.mem_cons_of_mem; first | assumption | exact List.mem_cons_self | (apply List.mem_cons_of_mem; first | assumption | exact List.mem_cons_self | (apply List.mem_cons_of_mem; first | assumption | exact List.mem_cons_self | (apply List.mem_cons_of_mem; first | assumption | exact List.mem_cons_self | (apply List.mem_cons_of_mem; first | assumption | exact List.mem_cons_self)))))) (by omega)
              refine ⟨p_137, ep_137, by omega, by omega, ?_⟩   -- x136[x134]
              refine ⟨_, (by rw [show (j : Int).toNat * 1 = j by omega]; exact hp_137 j (by omega)), ?_⟩   -- w_133.cell? (p_137.add (x134.toNat * 1)) = some (.int .u16 x138)
              clear ep_137 hp_137 kp_137 fp_137
              have hxr := hs2 _ (getD_mem (by omega : j < (symL v).length))
              have hpush : ∀ (da' : Option Addr) (dc' : Nat) (dr' : Option Nat) (bs'' : List (Nat × List Value)) (w : World) (bs' : List (Nat × List Value)), IntKind.i64.wrap ((j : Int) + 1) = ((j + 1 : Nat) : Int) → bs'.map (·.2) = (recv (vs1.flatMap symL) ++ recv ((symL v).take j)).map dl0 → bs'.length ≤ bs.length + j →
                  ((recv [(symL v).getD j 0] = [] ∧ bs'' = bs') ∨ (recv [(symL v).getD j 0] = [(symL v).getD j 0] ∧ ∃ q, bs'' = bs' ++ [(q, dl0 ((symL v).getD j 0))])) →
                  Sat F w (.blk cb 211 [.nilIface, .int .u16 1, .int .u16 0, .slice l (symL v).length lc] :: tI b xs ca vs1.length cc cr (vs1.map chD) da' dc' dr' bs'' ex) (.deep [.row 1 (oi .u16 (symL v))] [.slice l (symL v).length lc] :: .deep [.row 1 (ob (((xs.drop (20 + 2 * vs1.length)).take 2)))] [.slice (cutA a (20 + 2 * vs1.length) c 1) 2 (c - (20 + 2 * vs1.length))] :: ro) →
                  ∃ m', m' < m_130 ∧ ∃ (j' : Nat) (da : Option Addr) (dc : Nat) (dr : Option Nat) (bs' : List (Nat × List Value)), IntKind.i64.wrap ((j : Int) + 1) = (j' : Int) ∧ j' + m' = NN ∧ bs'.map (·.2) = (recv (vs1.flatMap symL) ++ recv ((symL v).take j')).map dl0 ∧ bs'.length ≤ bs.length + j' ∧
                    Sat F w (.blk cb 211 [.nilIface, .int .u16 1, .int .u16 0, .slice l (symL v).length lc] :: tI b xs ca vs1.length cc cr (vs1.map chD) da dc dr bs' ex) (.deep [.row 1 (oi .u16 (symL v))] [.slice l (symL v).length lc] :: .deep [.row 1 (ob (((xs.drop (20 + 2 * vs1.length)).take 2)))] [.slice (cutA a (20 + 2 * vs1.length) c 1) 2 (c - (20 + 2 * vs1.length))] :: ro) := by
                intro da' dc' dr' bs'' w bs' h1 h2 h3 h4 H
                refine ⟨m_130 - 1, by omega, j + 1, da', dc', dr', bs'', h1, by omega, ?_, ?_, H⟩
                · rw [recv_step (by omega), ← List.append_assoc, List.map_append]
                  rcases h4 with ⟨h5, rfl⟩ | ⟨h5, q, rfl⟩
                  · rw [h5, h2]; simp
                  · rw [h5, List.map_append, h2]; rfl
                · rcases h4 with ⟨h5, rfl⟩ | ⟨h5, q, rfl⟩
                  · omega
                  · simp; omega
              generalize hX : (symL v).getD j 0 = X at hxr hpush ⊢
              refine ⟨fun hc => ?_, fun hc => ?_⟩   -- (x138 == (1 : Int))
              · have hX1 : X = 1 := by simpa using hc
                refine ⟨_, rfl, ?_⟩
                refine ⟨_, _, _, (by first | exact Ce (by first | exact add_flat _ _ _ | exact add_flat2 _ _ _ _ | rfl) H.b0 rfl | exact Ce (by first | exact add_flat _ _ _ | exact add_flat2 _ _ _ _ | rfl) H.b1 rfl | exact Ce (by first | exact add_flat _ _ _ | exact add_flat2 _ _ _ _ | rfl) H.b2 rfl | exact Ce (by first | exact add_flat _ _ _ | exact add_flat2 _ _ _ _ | rfl) H.b3 rfl | exact Ce (by first | exact add_flat _ _ _ | exact add_flat2 _ _ _ _ | rfl) H.b4 rfl | exact Ce (by first | exact add_flat _ _ _ | exact add_flat2 _ _ _ _ | rfl) H.b5 rfl | exact Ce (by first | exact add_flat _ _ _ | exact add_flat2 _ _ _ _ | rfl) H.b6 rfl | exact Ce (by first | exact add_flat _ _ _ | exact add_flat2 _ _ _ _ | rfl) H.b7 rfl | exact Ce (by first | exact add_flat _ _ _ | exact add_flat2 _ _ _ _ | rfl) H.b8 rfl | exact Ce (by first | exact add_flat _ _ _ | exact add_flat2 _ _ _ _ | rfl) H.b9 rfl), ?_⟩   -- w_133.cell? (p_139.add 11) = some (.slice x140 x140l x140c)
                refine sNew H ?_; clear H; intro b141 w _ H   -- (#[.int .u16 (1 : Int), .int .i64 (0 : Int)])
                refine ⟨rfl, ?_⟩
                refine sPush4 H (bytes := 8) (by kernel_rfl) [.one (.pointer (some ⟨b141, 0, none⟩))] (by rfl) (fun G h => by repeat (first | exact DeepL.nil _ _ | exact DeepL.ones _ | refine DeepL.cons (Deep.emp _ _) ?_ | refine DeepL.cons (Deep.one _) ?_ | refine DeepL.cons (h (.deep [_] [_]) (by assumption)).head ?_ | refine DeepL.cons (h (.deep [_] [_]) (by first | assumption | exact List.mem_cons_self | (apply List.mem_cons_of_mem; first | assumption | exact List.mem_cons_self | (apply List.mem_cons_of_mem; first | assumption | exact List.mem_cons_self | (apply List.mem_cons_of_mem; first | assumption | exact List.mem_cons_self | (apply List.mem_cons_of_mem; first | assumption | exact List.mem_cons_self | (apply List.mem_cons_of_mem; first | assumption | exact List.mem_cons_self))))))).head ?_)) (by rfl) (by unfold maxLen; omega) (by omega) ?_
                clear H; intro da' dn' dc' dr' w ex145 _ H
                refine ⟨_, rfl, ?_⟩
                refine sSt2 H (by first | exact add_flat _ _ _ | exact add_flat2 _ _ _ _ | rfl) (by kernel_rfl) (by rfl) (by first | rfl | (simp only [List.all_cons, List.all_nil, Value.cells]; simp [*])) ?_; clear H; intro w _ H   -- StV pg 202 (p_147.add 11) (.slice x145 x145l x145c) w_146 w_148
                replace H := Sat.tPush (s := 1) H ex145
                subst ex145
                refine hpush da' dc' dr' _ w bs' ?_ hbs' hbl (.inr ⟨by rw [hX1]; decide, b141, by rw [hX1]⟩) H
                rw [wi64_of (by omega) (by omega)]; simp
              · have hX1 : ¬ X = 1 := by simpa using hc
                refine hpush da dc dr _ w bs' ?_ hbs' hbl (.inl ⟨by simp [recv, hX1]; omega, rfl⟩) H
                rw [wi64_of (by omega) (by omega)]; simp
            · rw [decide_eq_false_iff_not] at hc
              obtain rfl : j = NN := by omega
              refine ⟨da, dc, dr, bs', fun _ => ?_, fun h => absurd h (by decide), hbl, fun h => absurd h (by decide), H⟩
              rw [hbs', hrec, hNt]
          · have hS0 : ¬ S = 0 := by simpa using hc
            exact ⟨da, dc, dr, bs, fun h => absurd h hS0, fun _ => hbs, by omega, fun _ => by omega, H⟩
        clear H; rintro dd124 w ⟨da, dc, dr, bs1, hb1, hb2, hbl1, hbl2, H⟩
        refine ⟨fun _ w => ∃ (da : Option Addr) (dc : Nat) (dr : Option Nat) (bs' : List (Nat × List Value)), bs'.map (·.2) = (recv ((vs1 ++ [v]).flatMap symL)).map dl0 ∧ bs'.length ≤ bs.length + NN ∧
          Sat F w (.blk cb 211 [.nilIface, .int .u16 1, .int .u16 S, .slice l (symL v).length lc] :: tI b xs ca vs1.length cc cr (vs1.map chD) da dc dr bs' ex) (.deep [.row 1 (oi .u16 (symL v))] [.slice l (symL v).length lc] :: .deep [.row 1 (ob (((xs.drop (20 + 2 * vs1.length)).take 2)))] [.slice (cutA a (20 + 2 * vs1.length) c 1) 2 (c - (20 + 2 * vs1.length))] :: ro), ?_, ?_⟩
        · refine ⟨_, rfl, ?_⟩
          refine ⟨_, (by first | exact Ce (by first | exact add_flat _ _ _ | exact add_flat2 _ _ _ _ | rfl) H.b0 rfl | exact Ce (by first | exact add_flat _ _ _ | exact add_flat2 _ _ _ _ | rfl) H.b1 rfl | exact Ce (by first | exact add_flat _ _ _ | exact add_flat2 _ _ _ _ | rfl) H.b2 rfl | exact Ce (by first | exact add_flat _ _ _ | exact add_flat2 _ _ _ _ | rfl) H.b3 rfl | exact Ce (by first | exact add_flat _ _ _ | exact add_flat2 _ _ _ _ | rfl) H.b4 rfl | exact Ce (by first | exact add_flat _ _ _ | exact add_flat2 _ _ _ _ | rfl) H.b5 rfl | exact Ce (by first | exact add_flat _ _ _ | exact add_flat2 _ _ _ _ | rfl) H.b6 rfl | exact Ce (by first | exact add_flat _ _ _ | exact add_flat2 _ _ _ _ | rfl) H.b7 rfl | exact Ce (by first | exact add_flat _ _ _ | exact add_flat2 _ _ _ _ | rfl) H.b8 rfl | exact Ce (by first | exact add_flat _ _ _ | exact add_flat2 _ _ _ _ | rfl) H.b9 rfl), ?_⟩   -- w_125.cell? (p_152.add 2) = some (.int .u16 x153)
          refine ⟨fun hc => ?_, fun hc => ?_⟩   -- (x153 == (1 : Int))
          · have hS1 : S = 1 := by simpa using hc
            subst hS1
            replace hbs := hb2 rfl
            replace hbl2 := hbl2 rfl
            clear hb1 hb2 hbl1
            have hbs0 : (bs1.length : Int) ≤ proc := by omega
            generalize hbsl : bs.length = bsl at hbl2
            clear hbl hbsl
            revert bs1
            intro bs H hbs hbl2 hbl
            refine ⟨fun x134 m_130 w => ∃ (j : Nat) (da : Option Addr) (dc : Nat) (dr : Option Nat) (bs' : List (Nat × List Value)), x134 = (j : Int) ∧ j + m_130 = NN ∧ bs'.map (·.2) = (recv (vs1.flatMap symL) ++ recv ((symL v).take j)).map dl0 ∧ bs'.length ≤ bs.length + j ∧
              Sat F w (.blk cb 211 [.nilIface, .int .u16 1, .int .u16 1, .slice l (symL v).length lc] :: tI b xs ca vs1.length cc cr (vs1.map chD) da dc dr bs' ex) (.deep [.row 1 (oi .u16 (symL v))] [.slice l (symL v).length lc] :: .deep [.row 1 (ob (((xs.drop (20 + 2 * vs1.length)).take 2)))] [.slice (cutA a (20 + 2 * vs1.length) c 1) 2 (c - (20 + 2 * vs1.length))] :: ro), ⟨NN, 0, da, dc, dr, bs, rfl, by omega, by simpa [recv] using hbs, by omega, H⟩, ?_⟩
            clear H; rintro dd129 x134 m_130 w ⟨j, da, dc, dr, bs', rfl, hjm, hbs', hbl, H⟩
            refine ⟨fun hc => ?_, fun hc => ?_⟩
            · rw [decide_eq_true_eq] at hc
              have hpush : ∀ (da' : Option Addr) (dc' : Nat) (dr' : Option Nat) (bs'' : List (Nat × List Value)) (w : World) (bs' : List (Nat × List Value)), IntKind.i64.wrap ((j : Int) + 1) = ((j + 1 : Nat) : Int) → bs'.map (·.2) = (recv (vs1.flatMap symL) ++ recv ((symL v).take j)).map dl0 → bs'.length ≤ bs.length + j →
                  ((recv [(symL v).getD j 0] = [] ∧ bs'' = bs') ∨ (recv [(symL v).getD j 0] = [(symL v).getD j 0] ∧ ∃ q, bs'' = bs' ++ [(q, dl0 ((symL v).getD j 0))])) →
                  Sat F w (.blk cb 211 [.nilIface, .int .u16 1, .int .u16 1, .slice l (symL v).length lc] :: tI b xs ca vs1.length cc cr (vs1.map chD) da' dc' dr' bs'' ex) (.deep [.row 1 (oi .u16 (symL v))] [.slice l (symL v).length lc] :: .deep [.row 1 (ob (((xs.drop (20 + 2 * vs1.length)).take 2)))] [.slice (cutA a (20 + 2 * vs1.length) c 1) 2 (c - (20 + 2 * vs1.length))] :: ro) →
                  ∃ m', m' < m_130 ∧ ∃ (j' : Nat) (da : Option Addr) (dc : Nat) (dr : Option Nat) (bs' : List (Nat × List Value)), IntKind.i64.wrap ((j : Int) + 1) = (j' : Int) ∧ j' + m' = NN ∧ bs'.map (·.2) = (recv (vs1.flatMap symL) ++ recv ((symL v).take j')).map dl0 ∧ bs'.length ≤ bs.length + j' ∧
                    Sat F w (.blk cb 211 [.nilIface, .int .u16 1, .int .u16 1, .slice l (symL v).length lc] :: tI b xs ca vs1.length cc cr (vs1.map chD) da dc dr bs' ex) (.deep [.row 1 (oi .u16 (symL v))] [.slice l (symL v).length lc] :: .deep [.row 1 (ob (((xs.drop (20 + 2 * vs1.length)).take 2)))] [.slice (cutA a (20 + 2 * vs1.length) c 1) 2 (c - (20 + 2 * vs1.length))] :: ro) := by
                intro da' dc' dr' bs'' w bs' h1 h2 h3 h4 H
                refine ⟨m_130 - 1, by omega, j + 1, da', dc', dr', bs'', h1, by omega, ?_, ?_, H⟩
                · rw [recv_step (by omega), ← List.append_assoc, List.map_append]
                  rcases h4 with ⟨h5, rfl⟩ | ⟨h5, q, rfl⟩
                  · rw [h5, h2]; simp
                  · rw [h5, List.map_append, h2]; rfl
                · rcases h4 with ⟨h5, rfl⟩ | ⟨h5, q, rfl⟩
                  · omega
                  · simp; omega
              refine ⟨_, rfl, ?_⟩
              refine ⟨_, _, _, (by first | exact Ce (by first | exact add_flat _ _ _ | exact add_flat2 _ _ _ _ | rfl) H.b0 rfl | exact Ce (by first | exact add_flat _ _ _ | exact add_flat2 _ _ _ _ | rfl) H.b1 rfl | exact Ce (by first | exact add_flat _ _ _ | exact add_flat2 _ _ _ _ | rfl) H.b2 rfl | exact Ce (by first | exact add_flat _ _ _ | exact add_flat2 _ _ _ _ | rfl) H.b3 rfl | exact Ce (by first | exact add_flat _ _ _ | exact add_flat2 _ _ _ _ | rfl) H.b4 rfl | exact Ce (by first | exact add_flat _ _ _ | exact add_flat2 _ _ _ _ | rfl) H.b5 rfl | exact Ce (by first | exact add_flat _ _ _ | exact add_flat2 _ _ _ _ | rfl) H.b6 rfl | exact Ce (by first | exact add_flat _ _ _ | exact add_flat2 _ _ _ _ | rfl) H.b7 rfl | exact Ce (by first | exact add_flat _ _ _ | exact add_flat2 _ _ _ _ | rfl) H.b8 rfl | exact Ce (by first | exact add_flat _ _ _ | exact add_flat2 _ _ _ _ | rfl) H.b9 rfl), ?_⟩   -- w_159.cell? (p_161.add 3) = some (.slice x162 x162l x162c)
              obtain ⟨p_163, ep_163, hp_163, kp_163, fp_163⟩ := H.atU (l := symL v) (a := l) (by first | assumption | exact List.mem_cons_self | (apply List.mem_cons_of_mem; first | assumption | exact List.mem_cons_self | (apply List.mem_cons_of_mem; first | assumption | exact List.mem_cons_self | (apply List.mem_cons_of_mem; first | assumption | exact List.mem_cons_self | (apply List.mem_cons_of_mem; first | assumption | exact List.mem_cons_self | (apply List.mem_cons_of_mem; first | assumption | exact List.mem_cons_self)))))) (by omega)
              refine ⟨p_163, ep_163, by omega, by omega, ?_⟩   -- x162[x160]
              refine ⟨_, (by rw [show (j : Int).toNat * 1 = j by omega]; exact hp_163 j (by omega)), ?_⟩
              clear ep_163 hp_163 kp_163 fp_163
              refine ⟨fun hc => ?_, fun hc => ?_⟩   -- (x164 == (1 : Int))
              · have hX : (symL v).getD j 0 = 1 := by simpa using hc
                refine ⟨dr, ?_⟩; replace H := H.drew; generalize w.drew = wd5 at H ⊢; have K := grew_refl wd5 (dr)
                refine ⟨_, rfl, ?_⟩
                refine ⟨(by first | exact Option.some_ne_none _ | exact H.ne (by first | exact List.mem_cons_self | (apply List.mem_cons_of_mem; first | exact List.mem_cons_self | (apply List.mem_cons_of_mem; first | exact List.mem_cons_self | (apply List.mem_cons_of_mem; first | exact List.mem_cons_self | (apply List.mem_cons_of_mem; first | exact List.mem_cons_self | (apply List.mem_cons_of_mem; first | exact List.mem_cons_self | (apply List.mem_cons_of_mem; first | exact List.mem_cons_self | (apply List.mem_cons_of_mem; first | exact List.mem_cons_self)))))))) (by first | exact List.mem_cons_self | (apply List.mem_cons_of_mem; first | exact List.mem_cons_self | (apply List.mem_cons_of_mem; first | exact List.mem_cons_self | (apply List.mem_cons_of_mem; first | exact List.mem_cons_self | (apply List.mem_cons_of_mem; first | exact List.mem_cons_self | (apply List.mem_cons_of_mem; first | exact List.mem_cons_self | (apply List.mem_cons_of_mem; first | exact List.mem_cons_self | (apply List.mem_cons_of_mem; first | exact List.mem_cons_self))))))))), ?_⟩
                refine ⟨(by first | exact H.b0.row | exact H.b1.row | exact H.b2.row | exact H.b3.row | exact H.b4.row | exact H.b5.row | exact H.b6.row | exact H.b7.row), ?_⟩
                refine ⟨_, _, _, (by first | exact Ce (by first | exact add_flat _ _ _ | exact add_flat2 _ _ _ _ | rfl) H.b0 rfl | exact Ce (by first | exact add_flat _ _ _ | exact add_flat2 _ _ _ _ | rfl) H.b1 rfl | exact Ce (by first | exact add_flat _ _ _ | exact add_flat2 _ _ _ _ | rfl) H.b2 rfl | exact Ce (by first | exact add_flat _ _ _ | exact add_flat2 _ _ _ _ | rfl) H.b3 rfl | exact Ce (by first | exact add_flat _ _ _ | exact add_flat2 _ _ _ _ | rfl) H.b4 rfl | exact Ce (by first | exact add_flat _ _ _ | exact add_flat2 _ _ _ _ | rfl) H.b5 rfl | exact Ce (by first | exact add_flat _ _ _ | exact add_flat2 _ _ _ _ | rfl) H.b6 rfl | exact Ce (by first | exact add_flat _ _ _ | exact add_flat2 _ _ _ _ | rfl) H.b7 rfl | exact Ce (by first | exact add_flat _ _ _ | exact add_flat2 _ _ _ _ | rfl) H.b8 rfl | exact Ce (by first | exact add_flat _ _ _ | exact add_flat2 _ _ _ _ | rfl) H.b9 rfl), ?_⟩
                refine ⟨_, rfl, ?_⟩
                refine ⟨(by first | exact Option.some_ne_none _ | exact H.ne (by first | exact List.mem_cons_self | (apply List.mem_cons_of_mem; first | exact List.mem_cons_self | (apply List.mem_cons_of_mem; first | exact List.mem_cons_self | (apply List.mem_cons_of_mem; first | exact List.mem_cons_self | (apply List.mem_cons_of_mem; first | exact List.mem_cons_self | (apply List.mem_cons_of_mem; first | exact List.mem_cons_self | (apply List.mem_cons_of_mem; first | exact List.mem_cons_self | (apply List.mem_cons_of_mem; first | exact List.mem_cons_self)))))))) (by first | exact List.mem_cons_self | (apply List.mem_cons_of_mem; first | exact List.mem_cons_self | (apply List.mem_cons_of_mem; first | exact List.mem_cons_self | (apply List.mem_cons_of_mem; first | exact List.mem_cons_self | (apply List.mem_cons_of_mem; first | exact List.mem_cons_self | (apply List.mem_cons_of_mem; first | exact List.mem_cons_self | (apply List.mem_cons_of_mem; first | exact List.mem_cons_self | (apply List.mem_cons_of_mem; first | exact List.mem_cons_self))))))))), ?_⟩
                refine ⟨(by first | exact H.b0.row | exact H.b1.row | exact H.b2.row | exact H.b3.row | exact H.b4.row | exact H.b5.row | exact H.b6.row | exact H.b7.row), ?_⟩
                refine ⟨_, _, _, (by first | exact Ce (by first | exact add_flat _ _ _ | exact add_flat2 _ _ _ _ | rfl) H.b0 rfl | exact Ce (by first | exact add_flat _ _ _ | exact add_flat2 _ _ _ _ | rfl) H.b1 rfl | exact Ce (by first | exact add_flat _ _ _ | exact add_flat2 _ _ _ _ | rfl) H.b2 rfl | exact Ce (by first | exact add_flat _ _ _ | exact add_flat2 _ _ _ _ | rfl) H.b3 rfl | exact Ce (by first | exact add_flat _ _ _ | exact add_flat2 _ _ _ _ | rfl) H.b4 rfl | exact Ce (by first | exact add_flat _ _ _ | exact add_flat2 _ _ _ _ | rfl) H.b5 rfl | exact Ce (by first | exact add_flat _ _ _ | exact add_flat2 _ _ _ _ | rfl) H.b6 rfl | exact Ce (by first | exact add_flat _ _ _ | exact add_flat2 _ _ _ _ | rfl) H.b7 rfl | exact Ce (by first | exact add_flat _ _ _ | exact add_flat2 _ _ _ _ | rfl) H.b8 rfl | exact Ce (by first | exact add_flat _ _ _ | exact add_flat2 _ _ _ _ | rfl) H.b9 rfl), ?_⟩
                obtain ⟨p_170, e, hp_170, kp_170, fp_170⟩ := H.atU (l := symL v) (a := l) (by first | assumption | exact List.mem_cons_self | (apply List.mem_cons_of_mem; first | assumption | exact List.mem_cons_self | (apply List.mem_cons_of_mem; first | assumption | exact List.mem_cons_self | (apply List.mem_cons_of_mem; first | assumption | exact List.mem_cons_self | (apply List.mem_cons_of_mem; first | assumption | exact List.mem_cons_self | (apply List.mem_cons_of_mem; first | assumption | exact List.mem_cons_self)))))) (by omega)
                refine ⟨p_170, e, by omega, by omega, ?_⟩
                refine ⟨H.ne_own (by first | exact List.mem_cons_self | (apply List.mem_cons_of_mem; first | exact List.mem_cons_self | (apply List.mem_cons_of_mem; first | exact List.mem_cons_self | (apply List.mem_cons_of_mem; first | exact List.mem_cons_self | (apply List.mem_cons_of_mem; first | exact List.mem_cons_self | (apply List.mem_cons_of_mem; first | exact List.mem_cons_self | (apply List.mem_cons_of_mem; first | exact List.mem_cons_self | (apply List.mem_cons_of_mem; first | exact List.mem_cons_self)))))))) (fp_170 _), ?_⟩
                refine ⟨kp_170 _, ?_⟩
                refine ⟨_, (by rw [show (j : Int).toNat * 1 = j by omega]; exact hp_170 j (by omega)), ?_⟩
                refine sNew H ?_; clear H; intro bd w g H; replace K := World.grownBy.trans K (grew_none _ g); clear g
                refine ⟨K, ?_⟩
                refine ⟨rfl, ?_⟩
                refine sNew H ?_; clear H; intro be w g H; replace K := World.grownBy.trans K (grew_none _ g); clear g
                refine ⟨K, ?_⟩
                refine sApp5 H (bytes := 8) (by kernel_rfl) [.pointer (some ⟨bd, 0, none⟩)] [.one (.pointer (some ⟨bd, 0, none⟩))] (by rfl) (fun j u hu => by rw [add_flat, Nat.zero_add]; exact H.b0.cell hu) (fun G h => by repeat (first | exact DeepL.nil _ _ | exact DeepL.ones _ | refine DeepL.cons (Deep.emp _ _) ?_ | refine DeepL.cons (Deep.one _) ?_ | refine DeepL.cons (h (.deep [_] [_]) (by assumption)).head ?_ | refine DeepL.cons (h (.deep [_] [_]) (by first | assumption | exact List.mem_cons_self | (apply List.mem_cons_of_mem; first | assumption | exact List.mem_cons_self | (apply List.mem_cons_of_mem; first | assumption | exact List.mem_cons_self | (apply List.mem_cons_of_mem; first | assumption | exact List.mem_cons_self | (apply List.mem_cons_of_mem; first | assumption | exact List.mem_cons_self | (apply List.mem_cons_of_mem; first | assumption | exact List.mem_cons_self))))))).head ?_)) (by simp [Value.oneCell']) (by unfold maxLen; omega) (by omega) ?_
                clear H; intro da' dn' dc' dr' w ex89 g H
                replace K := World.grownBy.trans K g; clear g; replace H := H.sub (List.sublist_cons_self _ _) (fun _ h => h)
                refine ⟨K, ?_⟩
                refine ⟨_, rfl, ?_⟩
                refine sSt2 H (by first | exact add_flat _ _ _ | exact add_flat2 _ _ _ _ | rfl) (by kernel_rfl) (by rfl) (by first | rfl | (simp only [List.all_cons, List.all_nil, Value.cells]; simp [*])) ?_; clear H; intro w _ H
                replace H := Sat.tPush (s := ((symL v).getD j 0)) H ex89
                subst ex89
                refine hpush da' dc' dr' _ w bs' ?_ hbs' hbl (.inr ⟨by rw [hX]; decide, bd, rfl⟩) H
                rw [wi64_of (by omega) (by omega)]; simp
              · have hX1 : ¬ (symL v).getD j 0 = 1 := by simpa using hc
                refine ⟨_, rfl, ?_⟩
                refine ⟨_, _, _, (by first | exact Ce (by first | exact add_flat _ _ _ | exact add_flat2 _ _ _ _ | rfl) H.b0 rfl | exact Ce (by first | exact add_flat _ _ _ | exact add_flat2 _ _ _ _ | rfl) H.b1 rfl | exact Ce (by first | exact add_flat _ _ _ | exact add_flat2 _ _ _ _ | rfl) H.b2 rfl | exact Ce (by first | exact add_flat _ _ _ | exact add_flat2 _ _ _ _ | rfl) H.b3 rfl | exact Ce (by first | exact add_flat _ _ _ | exact add_flat2 _ _ _ _ | rfl) H.b4 rfl | exact Ce (by first | exact add_flat _ _ _ | exact add_flat2 _ _ _ _ | rfl) H.b5 rfl | exact Ce (by first | exact add_flat _ _ _ | exact add_flat2 _ _ _ _ | rfl) H.b6 rfl | exact Ce (by first | exact add_flat _ _ _ | exact add_flat2 _ _ _ _ | rfl) H.b7 rfl | exact Ce (by first | exact add_flat _ _ _ | exact add_flat2 _ _ _ _ | rfl) H.b8 rfl | exact Ce (by first | exact add_flat _ _ _ | exact add_flat2 _ _ _ _ | rfl) H.b9 rfl), ?_⟩   -- w_159.cell? (p_180.add 3) = some (.slice x181 x181l x181c)
                obtain ⟨p_163, ep_163, hp_163, kp_163, fp_163⟩ := H.atU (l := symL v) (a := l) (by first | assumption | exact List.mem_cons_self | (apply List.mem_cons_of_mem; first | assumption | exact List.mem_cons_self | (apply List.mem_cons_of_mem; first | assumption | exact List.mem_cons_self | (apply List.mem_cons_of_mem; first | assumption | exact List.mem_cons_self | (apply List.mem_cons_of_mem; first | assumption | exact List.mem_cons_self | (apply List.mem_cons_of_mem; first | assumption | exact List.mem_cons_self)))))) (by omega)
                refine ⟨p_163, ep_163, by omega, by omega, ?_⟩   -- x162[x160]
                refine ⟨_, (by rw [show (j : Int).toNat * 1 = j by omega]; exact hp_163 j (by omega)), ?_⟩
                clear ep_163 hp_163 kp_163 fp_163
                refine ⟨fun hc => ?_, fun hc => ?_⟩   -- (x183 == (2 : Int))
                · have hX : (symL v).getD j 0 = 2 := by simpa using hc
                  refine ⟨dr, ?_⟩; replace H := H.drew; generalize w.drew = wd5 at H ⊢; have K := grew_refl wd5 (dr)
                  refine ⟨_, rfl, ?_⟩
                  refine ⟨(by first | exact Option.some_ne_none _ | exact H.ne (by first | exact List.mem_cons_self | (apply List.mem_cons_of_mem; first | exact List.mem_cons_self | (apply List.mem_cons_of_mem; first | exact List.mem_cons_self | (apply List.mem_cons_of_mem; first | exact List.mem_cons_self | (apply List.mem_cons_of_mem; first | exact List.mem_cons_self | (apply List.mem_cons_of_mem; first | exact List.mem_cons_self | (apply List.mem_cons_of_mem; first | exact List.mem_cons_self | (apply List.mem_cons_of_mem; first | exact List.mem_cons_self)))))))) (by first | exact List.mem_cons_self | (apply List.mem_cons_of_mem; first | exact List.mem_cons_self | (apply List.mem_cons_of_mem; first | exact List.mem_cons_self | (apply List.mem_cons_of_mem; first | exact List.mem_cons_self | (apply List.mem_cons_of_mem; first | exact List.mem_cons_self | (apply List.mem_cons_of_mem; first | exact List.mem_cons_self | (apply List.mem_cons_of_mem; first | exact List.mem_cons_self | (apply List.mem_cons_of_mem; first | exact List.mem_cons_self))))))))), ?_⟩
                  refine ⟨(by first | exact H.b0.row | exact H.b1.row | exact H.b2.row | exact H.b3.row | exact H.b4.row | exact H.b5.row | exact H.b6.row | exact H.b7.row), ?_⟩
                  refine ⟨_, _, _, (by first | exact Ce (by first | exact add_flat _ _ _ | exact add_flat2 _ _ _ _ | rfl) H.b0 rfl | exact Ce (by first | exact add_flat _ _ _ | exact add_flat2 _ _ _ _ | rfl) H.b1 rfl | exact Ce (by first | exact add_flat _ _ _ | exact add_flat2 _ _ _ _ | rfl) H.b2 rfl | exact Ce (by first | exact add_flat _ _ _ | exact add_flat2 _ _ _ _ | rfl) H.b3 rfl | exact Ce (by first | exact add_flat _ _ _ | exact add_flat2 _ _ _ _ | rfl) H.b4 rfl | exact Ce (by first | exact add_flat _ _ _ | exact add_flat2 _ _ _ _ | rfl) H.b5 rfl | exact Ce (by first | exact add_flat _ _ _ | exact add_flat2 _ _ _ _ | rfl) H.b6 rfl | exact Ce (by first | exact add_flat _ _ _ | exact add_flat2 _ _ _ _ | rfl) H.b7 rfl | exact Ce (by first | exact add_flat _ _ _ | exact add_flat2 _ _ _ _ | rfl) H.b8 rfl | exact Ce (by first | exact add_flat _ _ _ | exact add_flat2 _ _ _ _ | rfl) H.b9 rfl), ?_⟩
                  refine ⟨_, rfl, ?_⟩
                  refine ⟨(by first | exact Option.some_ne_none _ | exact H.ne (by first | exact List.mem_cons_self | (apply List.mem_cons_of_mem; first | exact List.mem_cons_self | (apply List.mem_cons_of_mem; first | exact List.mem_cons_self | (apply List.mem_cons_of_mem; first | exact List.mem_cons_self | (apply List.mem_cons_of_mem; first | exact List.mem_cons_self | (apply List.mem_cons_of_mem; first | exact List.mem_cons_self | (apply List.mem_cons_of_mem; first | exact List.mem_cons_self | (apply List.mem_cons_of_mem; first | exact List.mem_cons_self)))))))) (by first | exact List.mem_cons_self | (apply List.mem_cons_of_mem; first | exact List.mem_cons_self | (apply List.mem_cons_of_mem; first | exact List.mem_cons_self | (apply List.mem_cons_of_mem; first | exact List.mem_cons_self | (apply List.mem_cons_of_mem; first | exact List.mem_cons_self | (apply List.mem_cons_of_mem; first | exact List.mem_cons_self | (apply List.mem_cons_of_mem; first | exact List.mem_cons_self | (apply List.mem_cons_of_mem; first | exact List.mem_cons_self))))))))), ?_⟩
                  refine ⟨(by first | exact H.b0.row | exact H.b1.row | exact H.b2.row | exact H.b3.row | exact H.b4.row | exact H.b5.row | exact H.b6.row | exact H.b7.row), ?_⟩
                  refine ⟨_, _, _, (by first | exact Ce (by first | exact add_flat _ _ _ | exact add_flat2 _ _ _ _ | rfl) H.b0 rfl | exact Ce (by first | exact add_flat _ _ _ | exact add_flat2 _ _ _ _ | rfl) H.b1 rfl | exact Ce (by first | exact add_flat _ _ _ | exact add_flat2 _ _ _ _ | rfl) H.b2 rfl | exact Ce (by first | exact add_flat _ _ _ | exact add_flat2 _ _ _ _ | rfl) H.b3 rfl | exact Ce (by first | exact add_flat _ _ _ | exact add_flat2 _ _ _ _ | rfl) H.b4 rfl | exact Ce (by first | exact add_flat _ _ _ | exact add_flat2 _ _ _ _ | rfl) H.b5 rfl | exact Ce (by first | exact add_flat _ _ _ | exact add_flat2 _ _ _ _ | rfl) H.b6 rfl | exact Ce (by first | exact add_flat _ _ _ | exact add_flat2 _ _ _ _ | rfl) H.b7 rfl | exact Ce (by first | exact add_flat _ _ _ | exact add_flat2 _ _ _ _ | rfl) H.b8 rfl | exact Ce (by first | exact add_flat _ _ _ | exact add_flat2 _ _ _ _ | rfl) H.b9 rfl), ?_⟩
                  obtain ⟨p_170, e, hp_170, kp_170, fp_170⟩ := H.atU (l := symL v) (a := l) (by first | assumption | exact List.mem_cons_self | (apply List.mem_cons_of_mem; first | assumption | exact List.mem_cons_self | (apply List.mem_cons_of_mem; first | assumption | exact List.mem_cons_self | (apply List.mem_cons_of_mem; first | assumption | exact List.mem_cons_self | (apply List.mem_cons_of_mem; first | assumption | exact List.mem_cons_self | (apply List.mem_cons_of_mem; first | assumption | exact List.mem_cons_self)))))) (by omega)
                  refine ⟨p_170, e, by omega, by omega, ?_⟩
                  refine ⟨H.ne_own (by first | exact List.mem_cons_self | (apply List.mem_cons_of_mem; first | exact List.mem_cons_self | (apply List.mem_cons_of_mem; first | exact List.mem_cons_self | (apply List.mem_cons_of_mem; first | exact List.mem_cons_self | (apply List.mem_cons_of_mem; first | exact List.mem_cons_self | (apply List.mem_cons_of_mem; first | exact List.mem_cons_self | (apply List.mem_cons_of_mem; first | exact List.mem_cons_self | (apply List.mem_cons_of_mem; first | exact List.mem_cons_self)))))))) (fp_170 _), ?_⟩
                  refine ⟨kp_170 _, ?_⟩
                  refine ⟨_, (by rw [show (j : Int).toNat * 1 = j by omega]; exact hp_170 j (by omega)), ?_⟩
                  refine sNew H ?_; clear H; intro bd w g H; replace K := World.grownBy.trans K (grew_none _ g); clear g
                  refine ⟨K, ?_⟩
                  refine ⟨rfl, ?_⟩
                  refine sNew H ?_; clear H; intro be w g H; replace K := World.grownBy.trans K (grew_none _ g); clear g
                  refine ⟨K, ?_⟩
                  refine sApp5 H (bytes := 8) (by kernel_rfl) [.pointer (some ⟨bd, 0, none⟩)] [.one (.pointer (some ⟨bd, 0, none⟩))] (by rfl) (fun j u hu => by rw [add_flat, Nat.zero_add]; exact H.b0.cell hu) (fun G h => by repeat (first | exact DeepL.nil _ _ | exact DeepL.ones _ | refine DeepL.cons (Deep.emp _ _) ?_ | refine DeepL.cons (Deep.one _) ?_ | refine DeepL.cons (h (.deep [_] [_]) (by assumption)).head ?_ | refine DeepL.cons (h (.deep [_] [_]) (by first | assumption | exact List.mem_cons_self | (apply List.mem_cons_of_mem; first | assumption | exact List.mem_cons_self | (apply List.mem_cons_of_mem; first | assumption | exact List.mem_cons_self | (apply List.mem_cons_of_mem; first | assumption | exact List.mem_cons_self | (apply List.mem_cons_of_mem; first | assumption | exact List.mem_cons_self | (apply List.mem_cons_of_mem; first | assumption | exact List.mem_cons_self))))))).head ?_)) (by simp [Value.oneCell']) (by unfold maxLen; omega) (by omega) ?_
                  clear H; intro da' dn' dc' dr' w ex89 g H
                  replace K := World.grownBy.trans K g; clear g; replace H := H.sub (List.sublist_cons_self _ _) (fun _ h => h)
                  refine ⟨K, ?_⟩
                  refine ⟨_, rfl, ?_⟩
                  refine sSt2 H (by first | exact add_flat _ _ _ | exact add_flat2 _ _ _ _ | rfl) (by kernel_rfl) (by rfl) (by first | rfl | (simp only [List.all_cons, List.all_nil, Value.cells]; simp [*])) ?_; clear H; intro w _ H
                  replace H := Sat.tPush (s := ((symL v).getD j 0)) H ex89
                  subst ex89
                  refine hpush da' dc' dr' _ w bs' ?_ hbs' hbl (.inr ⟨by rw [hX]; decide, bd, rfl⟩) H
                  rw [wi64_of (by omega) (by omega)]; simp
                · have hX2 : ¬ (symL v).getD j 0 = 2 := by simpa using hc
                  refine hpush da dc dr _ w bs' ?_ hbs' hbl (.inl ⟨recv_rep0 1 hX1 hX2, rfl⟩) H
                  rw [wi64_of (by omega) (by omega)]; simp
            · rw [decide_eq_false_iff_not] at hc
              obtain rfl : j = NN := by omega
              refine ⟨da, dc, dr, bs', ?_, by omega, H⟩
              rw [hbs', hrec, hNt]
          · have hS1 : ¬ S = 1 := by simpa using hc
            have hS0 : S = 0 := by omega
            exact ⟨da, dc, dr, bs1, hb1 hS0, hbl1, H⟩
        · clear H; rintro dd150 w ⟨da, dc, dr, bs', hbs', hbl', H⟩
          have H1 := H.blkPtr [.one .nilIface, .one (.int .u16 1), .one (.int .u16 S), .row 1 (oi .u16 (symL v))] (fun G h => by repeat (first | exact DeepL.nil _ _ | exact DeepL.ones _ | refine DeepL.cons (Deep.emp _ _) ?_ | refine DeepL.cons (Deep.one _) ?_ | refine DeepL.cons (h (.deep [_] [_]) (by assumption)).head ?_ | refine DeepL.cons (h (.deep [_] [_]) (by first | assumption | exact List.mem_cons_self | (apply List.mem_cons_of_mem; first | assumption | exact List.mem_cons_self | (apply List.mem_cons_of_mem; first | assumption | exact List.mem_cons_self | (apply List.mem_cons_of_mem; first | assumption | exact List.mem_cons_self | (apply List.mem_cons_of_mem; first | assumption | exact List.mem_cons_self | (apply List.mem_cons_of_mem; first | assumption | exact List.mem_cons_self))))))).head ?_))
          have H2 := H1.addD (ds := [chD v]) (vs := [.iface 206 (.pointer (some ⟨cb, 0, none⟩))]) (fun G h => by rw [hchd]; exact DeepL.cons (.ifc _ _ _ (h (.deep [_] [_]) List.mem_cons_self).head) (DeepL.nil _ _))
          have hNl2 : (NN : Int) = if left - ((symL v).length : Int) ≤ 0 then left else ((symL v).length : Int) := by rw [← hNN]; split <;> split <;> omega
          have e6 : IntKind.u16.wrap (proc + IntKind.u16.wrap (NN : Int)) = (if left - ((symL v).length : Int) ≤ 0 then CN else CN - (left - (symL v).length)) := by
            rw [wu16, wu16, hNl2]; split <;> omega
          refine ⟨da, dc, dr, bs', _, _, e6, rfl, hbs', ?_, H2.sub (by repeat (first | exact List.Sublist.refl _ | exact List.nil_sublist _ | apply List.Sublist.cons_cons | apply List.Sublist.cons)) (fun r hr => by (try simp only [List.mem_cons] at hr ⊢); (repeat (first | (rcases hr with rfl | hr; (first | (left; rfl) | (right; left; rfl) | (right; right; left; rfl) | (right; right; right; left; rfl) | (right; right; right; right; left; rfl)))  | (simp [hr]; done) | assumption | exact hr.elim)))⟩
          have hNle : (NN : Int) ≤ left := by rw [hNl2]; split <;> omega
          rw [wu16, wu16]; omega
    · clear H; rintro dd55 proc' ip w ⟨da, dc, dr, bs', T, q, rfl, rfl, hbs', hbl', H⟩
      refine ⟨_, rfl, ?_⟩
      refine ⟨_, _, _, (by first | exact Ce (by first | exact add_flat _ _ _ | exact add_flat2 _ _ _ _ | rfl) H.b0 rfl | exact Ce (by first | exact add_flat _ _ _ | exact add_flat2 _ _ _ _ | rfl) H.b1 rfl | exact Ce (by first | exact add_flat _ _ _ | exact add_flat2 _ _ _ _ | rfl) H.b2 rfl | exact Ce (by first | exact add_flat _ _ _ | exact add_flat2 _ _ _ _ | rfl) H.b3 rfl | exact Ce (by first | exact add_flat _ _ _ | exact add_flat2 _ _ _ _ | rfl) H.b4 rfl | exact Ce (by first | exact add_flat _ _ _ | exact add_flat2 _ _ _ _ | rfl) H.b5 rfl | exact Ce (by first | exact add_flat _ _ _ | exact add_flat2 _ _ _ _ | rfl) H.b6 rfl | exact Ce (by first | exact add_flat _ _ _ | exact add_flat2 _ _ _ _ | rfl) H.b7 rfl | exact Ce (by first | exact add_flat _ _ _ | exact add_flat2 _ _ _ _ | rfl) H.b8 rfl | exact Ce (by first | exact add_flat _ _ _ | exact add_flat2 _ _ _ _ | rfl) H.b9 rfl), ?_⟩   -- w_56.cell? (p_201.add 10) = some (.slice x202 x202l x202c)
      refine ⟨rfl, ?_⟩
      refine sPush1 H (bytes := 16) (by kernel_rfl) [chD v] (by rfl) (fun G h => by repeat (first | exact DeepL.nil _ _ | exact DeepL.ones _ | refine DeepL.cons (Deep.emp _ _) ?_ | refine DeepL.cons (Deep.one _) ?_ | refine DeepL.cons (h (.deep [_] [_]) (by assumption)).head ?_ | refine DeepL.cons (h (.deep [_] [_]) (by first | assumption | exact List.mem_cons_self | (apply List.mem_cons_of_mem; first | assumption | exact List.mem_cons_self | (apply List.mem_cons_of_mem; first | assumption | exact List.mem_cons_self | (apply List.mem_cons_of_mem; first | assumption | exact List.mem_cons_self | (apply List.mem_cons_of_mem; first | assumption | exact List.mem_cons_self | (apply List.mem_cons_of_mem; first | assumption | exact List.mem_cons_self))))))).head ?_)) (by rfl) (by unfold maxLen; omega) (by omega) ?_
      clear H; intro ca' cn' cc' cr' w exc _ H
      refine ⟨_, rfl, ?_⟩
      refine sSt0 H (by first | exact add_flat _ _ _ | exact add_flat2 _ _ _ _ | rfl) (by kernel_rfl) (by rfl) (by first | rfl | (simp only [List.all_cons, List.all_nil, Value.cells]; simp [*])) ?_; clear H; intro w _ H
      subst exc
      refine ⟨vs3.length, by simp, vs1 ++ [v], vs3, g', left - (symL v).length, ca', cc', cr', da, dc, dr, bs', ?_, rfl, rfl, by omega, by rw [hvs, List.append_assoc]; rfl, ?_, hbs', hbl', ?_⟩
      · rw [List.length_append]; simp; omega
      · rw [List.drop_drop] at hC3
        rw [List.length_append, List.length_singleton, show 20 + 2 * (vs1.length + 1) = 20 + 2 * vs1.length + 2 by omega]; exact hC3
      · rw [List.length_append, List.length_singleton, List.map_append]
        exact H.sub (by repeat (first | exact List.Sublist.refl _ | exact List.nil_sublist _ | apply List.Sublist.cons_cons | apply List.Sublist.cons)) (fun r hr => by (try simp only [List.mem_cons] at hr ⊢); (repeat (first | (rcases hr with rfl | hr; (first | (left; rfl) | (right; left; rfl) | (right; right; left; rfl) | (right; right; right; left; rfl) | (right; right; right; right; left; rfl)))  | (simp [hr]; done) | assumption | exact hr.elim)))
  · rw [decide_eq_false_iff_not, hCNe] at hc
    have hl0 : left ≤ 0 := by
      by_cases h : left ≤ 0
      · exact h
      · rw [if_neg h] at hproc; omega
    obtain ⟨rfl, hzz⟩ := tccC_nil hC' hl0
    rw [List.append_nil] at hvs
    obtain rfl : vs = vs1 := hvs
    refine ⟨_, rfl, ?_⟩
    refine ⟨_, _, _, (by first | exact Ce (by first | exact add_flat _ _ _ | exact add_flat2 _ _ _ _ | rfl) H.b0 rfl | exact Ce (by first | exact add_flat _ _ _ | exact add_flat2 _ _ _ _ | rfl) H.b1 rfl | exact Ce (by first | exact add_flat _ _ _ | exact add_flat2 _ _ _ _ | rfl) H.b2 rfl | exact Ce (by first | exact add_flat _ _ _ | exact add_flat2 _ _ _ _ | rfl) H.b3 rfl | exact Ce (by first | exact add_flat _ _ _ | exact add_flat2 _ _ _ _ | rfl) H.b4 rfl | exact Ce (by first | exact add_flat _ _ _ | exact add_flat2 _ _ _ _ | rfl) H.b5 rfl | exact Ce (by first | exact add_flat _ _ _ | exact add_flat2 _ _ _ _ | rfl) H.b6 rfl | exact Ce (by first | exact add_flat _ _ _ | exact add_flat2 _ _ _ _ | rfl) H.b7 rfl | exact Ce (by first | exact add_flat _ _ _ | exact add_flat2 _ _ _ _ | rfl) H.b8 rfl | exact Ce (by first | exact add_flat _ _ _ | exact add_flat2 _ _ _ _ | rfl) H.b9 rfl), ?_⟩
    generalize hda0 : da = da0 at ⊢
    have hRm : ∀ x ∈ recv (vs.flatMap symL), x = 1 ∨ x = 2 := fun x h => recv_mem h
    generalize hR : recv (vs.flatMap symL) = R at hD hbs hRm
    have hbR : bs.length = R.length := by have := congrArg List.length hbs; simpa using this
    refine ⟨fun posD i m w => ∃ (j q : Nat) (da : Option Addr) (bs' : List (Nat × List Value)) (ds1 ds2 : List Del), i = (j : Int) ∧ posD = (q : Int) ∧ j + m = bs.length ∧ q ≤ n ∧ ds = ds1 ++ ds2 ∧ ds1.length = j ∧ tccD (R.drop j) (xs.drop q) = some (ds2, tl) ∧ bs'.map (·.2) = ds1.map deV ++ (R.drop j).map dl0 ∧ bs'.length = bs.length ∧ da0 = da ∧
      Sat F w (tI b xs ca vs.length cc cr (vs.map chD) da dc dr bs' ex) ro, ⟨bs.length, 0, 20 + 2 * vs.length, da, bs, [], ds, rfl, rfl, by omega, by omega, rfl, rfl, by rw [List.drop_zero, ← hzs]; exact hD, by simpa using hbs, rfl, hda0.symm, H⟩, ?_⟩
    clear H; rintro dd212 posD i m w ⟨j, q, da, bs', ds1, ds2, rfl, rfl, hjm, hqn, hds, hd1, hD', hbs', hbl', rfl, H⟩
    refine ⟨fun hc => ?_, fun hc => ?_⟩   -- (decide (x218 < ((x210l : Nat) : Int)))
    · rw [decide_eq_true_eq] at hc
      have hjR : j < R.length := by omega
      have hXm := hRm _ (List.getElem_mem hjR)
      rw [List.drop_eq_getElem_cons hjR] at hD' hbs'
      generalize R[j] = X at hXm hD' hbs'
      obtain ⟨hXl, ds3, rfl, hD3⟩ := tccD_cons hD'
      rw [List.length_drop] at hXl
      obtain ⟨bq, hbq⟩ : ∃ bq, bs'[j]? = some (bq, dl0 X) := by
        have h1 : (bs'.map (·.2))[j]? = some (dl0 X) := by
          rw [hbs', List.getElem?_append_right (by simp; omega)]
          simp [hd1]
        rw [List.getElem?_map] at h1
        cases h2 : bs'[j]? with
        | none => rw [h2] at h1; cases h1
        | some r => rw [h2] at h1; simp only [Option.map_some, Option.some.injEq] at h1; exact ⟨r.1, by rw [← h1]⟩
      obtain ⟨bb, hda, hcell⟩ := H.r2.ownElt (by omega)
      subst hda
      refine ⟨_, rfl, by omega, by omega, ?_⟩   -- x210[x218]
      refine ⟨_, (by rw [show (j : Int).toNat * 1 = j by omega, add_flat, Nat.zero_add]; exact hcell j (.pointer (some ⟨bq, 0, none⟩)) (by unfold ptrs; rw [List.getElem?_map, hbq]; rfl)), ?_⟩
      clear hcell
      replace H := H.r3.manyOut hbq
      have hnext : ∀ (q' : Nat) (w : World) (z : Int), q' = q + X.toNat → z = (q' : Int) → Sat F w (.blk bq 217 (deV (del1 X (xs.drop q))) :: .many 217 (bs'.eraseIdx j) :: .blk b 204 (tcX xs (.slice ca vs.length cc) (.slice (some ⟨bb, 0, none⟩) bs'.length dc)) :: .own 209 1 ca vs.length cc cr (vs.map chD) :: .own 216 1 (some ⟨bb, 0, none⟩) bs'.length dc dr (ptrs bs') :: ex) ro →
          ∃ m', m' < m ∧ ∃ (j' q : Nat) (da : Option Addr) (bs' : List (Nat × List Value)) (ds1 ds2 : List Del), IntKind.i64.wrap ((j : Int) + 1) = (j' : Int) ∧ z = (q : Int) ∧ j' + m' = bs.length ∧ q ≤ n ∧ ds = ds1 ++ ds2 ∧ ds1.length = j' ∧ tccD (R.drop j') (xs.drop q) = some (ds2, tl) ∧ bs'.map (·.2) = ds1.map deV ++ (R.drop j').map dl0 ∧ bs'.length = bs.length ∧ some ⟨bb, 0, none⟩ = da ∧
            Sat F w (tI b xs ca vs.length cc cr (vs.map chD) da dc dr bs' ex) ro := by
        intro q' w z h1 h2 H
        have H1 := (H.manyIn hbq).u3
        refine ⟨m - 1, by omega, j + 1, q', some ⟨bb, 0, none⟩, bs'.set j (bq, deV (del1 X (xs.drop q))), ds1 ++ [del1 X (xs.drop q)], ds3, ?_, h2, by omega, by omega, by rw [hds, List.append_assoc]; rfl, by simp [hd1], ?_, ?_, by rw [List.length_set]; exact hbl', rfl, ?_⟩
        · rw [wi64_of (by omega) (by omega)]; simp
        · rw [List.drop_drop] at hD3; rw [h1]; exact hD3
        · rw [List.map_set, hbs', List.map_append, List.append_assoc]
          have hl : j = (ds1.map deV).length := by simp [hd1]
          rw [List.map_cons, set_mid' _ _ _ _ _ hl]; rfl
        · unfold tI
          rw [ptrs_set _ _ _ _ _ hbq, List.length_set]
          exact H1
      have hby : By (xs.drop q) := hb.drop _
      refine ⟨fun posD' _ w => ∃ l', (X = 1 → posD' = ((q + 1 : Nat) : Int) ∧ l' = deV (del1 X (xs.drop q))) ∧ (X = 2 → posD' = (q : Int) ∧ l' = dl0 2) ∧ Sat F w (.blk bq 217 l' :: .many 217 (bs'.eraseIdx j) :: .blk b 204 (tcX xs (.slice ca vs.length cc) (.slice (some ⟨bb, 0, none⟩) bs'.length dc)) :: .own 209 1 ca vs.length cc cr (vs.map chD) :: .own 216 1 (some ⟨bb, 0, none⟩) bs'.length dc dr (ptrs bs') :: ex) ro, ?_, ?_⟩
      · refine ⟨_, rfl, ?_⟩
        refine ⟨_, (by first | exact Ce (by first | exact add_flat _ _ _ | exact add_flat2 _ _ _ _ | rfl) H.b0 rfl | exact Ce (by first | exact add_flat _ _ _ | exact add_flat2 _ _ _ _ | rfl) H.b1 rfl | exact Ce (by first | exact add_flat _ _ _ | exact add_flat2 _ _ _ _ | rfl) H.b2 rfl | exact Ce (by first | exact add_flat _ _ _ | exact add_flat2 _ _ _ _ | rfl) H.b3 rfl | exact Ce (by first | exact add_flat _ _ _ | exact add_flat2 _ _ _ _ | rfl) H.b4 rfl | exact Ce (by first | exact add_flat _ _ _ | exact add_flat2 _ _ _ _ | rfl) H.b5 rfl | exact Ce (by first | exact add_flat _ _ _ | exact add_flat2 _ _ _ _ | rfl) H.b6 rfl | exact Ce (by first | exact add_flat _ _ _ | exact add_flat2 _ _ _ _ | rfl) H.b7 rfl | exact Ce (by first | exact add_flat _ _ _ | exact add_flat2 _ _ _ _ | rfl) H.b8 rfl | exact Ce (by first | exact add_flat _ _ _ | exact add_flat2 _ _ _ _ | rfl) H.b9 rfl), ?_⟩
        refine ⟨fun hc => ?_, fun hc => ?_⟩   -- (x225 == (1 : Int))
        · have hX1 : X = 1 := by simpa using hc
          subst hX1
          rw [wi64_of (n := (q : Int) + 1) (by omega) (by omega)]
          refine ⟨fun hc => ?_, fun hc => ?_⟩
          · rw [decide_eq_true_eq] at hc; omega
          refine ⟨by omega, by omega, ?_⟩
          refine ⟨by omega, by omega, ?_⟩
          rw [show ((q : Int) + 1).toNat = q + 1 by omega, Int.toNat_natCast, show q + 1 - q = 1 by omega]
          have H1 := H.cutB hx q (q + 1) (by omega) (by omega)
          rw [show q + 1 - q = 1 by omega] at H1
          refine call_j (c170 H1 List.mem_cons_self (hby.take 1) (.inl rfl)) ?_
          clear H H1
          rintro _ w ⟨rfl, H⟩
          refine ⟨_, rfl, ?_⟩
          refine ⟨by simp [isIf], ?_⟩
          refine ⟨fun hc => absurd hc (by decide), fun _ => ?_⟩
          refine ⟨_, fun _ => ⟨rfl, rfl⟩, fun h => absurd h (by decide), ?_⟩
          rw [show (((1 : Nat)) : Int) = 1 from rfl, del1_take1] at H
          exact H.sub (by repeat (first | exact List.Sublist.refl _ | exact List.nil_sublist _ | apply List.Sublist.cons_cons | apply List.Sublist.cons)) (fun r hr => by (try simp only [List.mem_cons] at hr ⊢); (repeat (first | (rcases hr with rfl | hr; (first | (left; rfl) | (right; left; rfl) | (right; right; left; rfl) | (right; right; right; left; rfl) | (right; right; right; right; left; rfl)))  | (simp [hr]; done) | assumption | exact hr.elim)))
        · have hX1 : ¬ X = 1 := by simpa using hc
          have hX2 : X = 2 := by omega
          subst hX2
          exact ⟨_, fun h => absurd h (by decide), fun _ => ⟨rfl, rfl⟩, H⟩
      · clear H; rintro dd222 posD' w ⟨l', h1, h2, H⟩
        rcases hXm with rfl | rfl
        · obtain ⟨rfl, rfl⟩ := h1 rfl
          refine ⟨_, rfl, ?_⟩
          refine ⟨_, (by first | exact Ce (by first | exact add_flat _ _ _ | exact add_flat2 _ _ _ _ | rfl) H.b0 rfl | exact Ce (by first | exact add_flat _ _ _ | exact add_flat2 _ _ _ _ | rfl) H.b1 rfl | exact Ce (by first | exact add_flat _ _ _ | exact add_flat2 _ _ _ _ | rfl) H.b2 rfl | exact Ce (by first | exact add_flat _ _ _ | exact add_flat2 _ _ _ _ | rfl) H.b3 rfl | exact Ce (by first | exact add_flat _ _ _ | exact add_flat2 _ _ _ _ | rfl) H.b4 rfl | exact Ce (by first | exact add_flat _ _ _ | exact add_flat2 _ _ _ _ | rfl) H.b5 rfl | exact Ce (by first | exact add_flat _ _ _ | exact add_flat2 _ _ _ _ | rfl) H.b6 rfl | exact Ce (by first | exact add_flat _ _ _ | exact add_flat2 _ _ _ _ | rfl) H.b7 rfl | exact Ce (by first | exact add_flat _ _ _ | exact add_flat2 _ _ _ _ | rfl) H.b8 rfl | exact Ce (by first | exact add_flat _ _ _ | exact add_flat2 _ _ _ _ | rfl) H.b9 rfl), ?_⟩
          refine ⟨fun hc => absurd (show ((1 : Int) == 2) = true from hc) (by decide), fun _ => ?_⟩
          exact hnext (q + 1) w _ rfl rfl H
        · obtain ⟨rfl, rfl⟩ := h2 rfl
          refine ⟨_, rfl, ?_⟩
          refine ⟨_, (by first | exact Ce (by first | exact add_flat _ _ _ | exact add_flat2 _ _ _ _ | rfl) H.b0 rfl | exact Ce (by first | exact add_flat _ _ _ | exact add_flat2 _ _ _ _ | rfl) H.b1 rfl | exact Ce (by first | exact add_flat _ _ _ | exact add_flat2 _ _ _ _ | rfl) H.b2 rfl | exact Ce (by first | exact add_flat _ _ _ | exact add_flat2 _ _ _ _ | rfl) H.b3 rfl | exact Ce (by first | exact add_flat _ _ _ | exact add_flat2 _ _ _ _ | rfl) H.b4 rfl | exact Ce (by first | exact add_flat _ _ _ | exact add_flat2 _ _ _ _ | rfl) H.b5 rfl | exact Ce (by first | exact add_flat _ _ _ | exact add_flat2 _ _ _ _ | rfl) H.b6 rfl | exact Ce (by first | exact add_flat _ _ _ | exact add_flat2 _ _ _ _ | rfl) H.b7 rfl | exact Ce (by first | exact add_flat _ _ _ | exact add_flat2 _ _ _ _ | rfl) H.b8 rfl | exact Ce (by first | exact add_flat _ _ _ | exact add_flat2 _ _ _ _ | rfl) H.b9 rfl), ?_⟩
          refine ⟨fun _ => ?_, fun hc => absurd hc (by decide)⟩
          rw [wi64_of (n := (q : Int) + 2) (by omega) (by omega)]
          refine ⟨fun hc => ?_, fun hc => ?_⟩
          · rw [decide_eq_true_eq] at hc; omega
          refine ⟨by omega, by omega, ?_⟩
          refine ⟨by omega, by omega, ?_⟩
          rw [show ((q : Int) + 2).toNat = q + 2 by omega, Int.toNat_natCast, show q + 2 - q = 2 by omega]
          have H1 := H.cutB hx q (q + 2) (by omega) (by omega)
          rw [show q + 2 - q = 2 by omega] at H1
          refine call_j (c170 H1 List.mem_cons_self (hby.take 2) (.inr rfl)) ?_
          clear H H1
          rintro _ w ⟨rfl, H⟩
          refine ⟨_, rfl, ?_⟩
          refine ⟨by simp [isIf], ?_⟩
          refine ⟨fun hc => absurd hc (by decide), fun _ => ?_⟩
          rw [show (((2 : Nat)) : Int) = 2 from rfl, del1_take2] at H
          exact hnext (q + 2) w _ rfl (by omega) (H.sub (by repeat (first | exact List.Sublist.refl _ | exact List.nil_sublist _ | apply List.Sublist.cons_cons | apply List.Sublist.cons)) (fun r hr => by (try simp only [List.mem_cons] at hr ⊢); (repeat (first | (rcases hr with rfl | hr; (first | (left; rfl) | (right; left; rfl) | (right; right; left; rfl) | (right; right; right; left; rfl) | (right; right; right; right; left; rfl)))  | (simp [hr]; done) | assumption | exact hr.elim))))
    · rw [decide_eq_false_iff_not] at hc
      have hj : j = R.length := by omega
      subst hj
      rw [List.drop_length] at hD' hbs'
      cases hD'
      rw [List.append_nil] at hds
      subst hds
      rw [List.map_nil, List.append_nil] at hbs'
      have hbd : bs'.length = ds.length := by rw [hbl', hbR, hd1]
      have H1 := (H.r3.r3.manyFreeze).r1.freeze
      have e9 : (bs'.map fun p => Dat.ptr (p.2.map .one)) = ds.map deD := by
        have : (bs'.map fun p => Dat.ptr (p.2.map .one)) = (bs'.map (·.2)).map fun l => Dat.ptr (l.map .one) := by rw [List.map_map]; rfl
        rw [this, hbs', List.map_map]; rfl
      rw [e9, hbd] at H1
      exact ⟨rfl, ca, cc, _, dc, H1⟩
end Go.Proofs.YtkdialecadjedaaGreat
