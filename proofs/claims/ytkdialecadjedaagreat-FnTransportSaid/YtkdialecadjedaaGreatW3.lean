/- rtcp's writers of vectors and deltas, and a packet's size (no statement of the seat is proved here; conditions: none). -/
import Derived.Test.YtkdialecadjedaaGreatW2
namespace Go.Proofs.YtkdialecadjedaaGreat
set_option linter.unusedVariables false
set_option linter.unusedSimpArgs false
set_option linter.unusedSectionVars false
open Go

theorem p2 (k : Nat) : (0 : Int) ≤ 2 ^ k := Int.le_of_lt (Int.pow_pos (by decide))
set_option maxHeartbeats 1000000 in
theorem c178 {F : Fr} {w : World} {ex : List Ex} {ro : List Ro} (H : Sat F w ex ro) {x : Value} {v ty : Int} {l : Option Addr} {lc : Nat} (hx : x = .nilIface) (hv : 32768 ≤ v ∧ v < 65536) (hl : Ro.deep [.row 1 (oi .u16 (symL v))] [.slice l (symL v).length lc] ∈ ro) :
    Calls pg 178 #[.agg #[x, .int .u16 ty, .int .u16 (v / 16384 % 2), .slice l (symL v).length lc]] w fun en w' => ∃ a c, en = .returned (.tuple #[.slice a 2 c, .nilIface]) ∧ Sat F w' ex (Ro.B [v / 256, v % 256] a 2 c :: ro) := by
  apply of178
  subst hx
  have hv0 : 0 ≤ v ∧ v < 65536 := by omega
  have hsy := symL_vec (v := v) (by omega) hv0
  refine sNew H ?_; clear H; intro b1 w _ H
  refine sMk H (e := 5) (z := .int .u8 0) (bytes := 1) (by kernel_rfl) (by kernel_rfl) (by rfl) (by unfold maxLen; omega) (by omega) (n := 2) (by omega) (by omega) ?_
  clear H; intro g w _ H
  refine call_j (c123 (k := 15) (m := 2) (q := 0) (by omega) (.inl ⟨rfl, rfl⟩) (by omega) (by omega) (by decide) (by decide)) ?_
  rintro _ w ⟨rfl, gr⟩
  replace H := H.grow gr; clear gr
  refine ⟨_, _, rfl, by simp [isIf], fun h => absurd h (by decide), fun _ => ?_⟩
  refine ⟨_, (by first | exact Ce (by first | exact add_flat _ _ _ | exact add_flat2 _ _ _ _ | rfl) H.b0 rfl | exact Ce (by first | exact add_flat _ _ _ | exact add_flat2 _ _ _ _ | rfl) H.b1 rfl | exact Ce (by first | exact add_flat _ _ _ | exact add_flat2 _ _ _ _ | rfl) H.b2 rfl | exact Ce (by first | exact add_flat _ _ _ | exact add_flat2 _ _ _ _ | rfl) H.b3 rfl | exact Ce (by first | exact add_flat _ _ _ | exact add_flat2 _ _ _ _ | rfl) H.b4 rfl | exact Ce (by first | exact add_flat _ _ _ | exact add_flat2 _ _ _ _ | rfl) H.b5 rfl | exact Ce (by first | exact add_flat _ _ _ | exact add_flat2 _ _ _ _ | rfl) H.b6 rfl | exact Ce (by first | exact add_flat _ _ _ | exact add_flat2 _ _ _ _ | rfl) H.b7 rfl | exact Ce (by first | exact add_flat _ _ _ | exact add_flat2 _ _ _ _ | rfl) H.b8 rfl | exact Ce (by first | exact add_flat _ _ _ | exact add_flat2 _ _ _ _ | rfl) H.b9 rfl), ?_⟩
  refine call_j (c123 (k := 14) (m := 2) (q := 1) (by omega) (.inl ⟨rfl, rfl⟩) (by omega) (by omega) (by decide) (by omega)) ?_
  rintro _ w ⟨rfl, gr⟩
  replace H := H.grow gr; clear gr
  refine ⟨_, _, rfl, by simp [isIf], fun h => absurd h (by decide), fun _ => ?_⟩
  have e14 : v / 16384 * 16384 = (0 : Int) + 1 * 2 ^ 15 + v / 16384 % 2 * 2 ^ 14 := by omega
  have hS : v / 16384 % 2 = 0 ∨ v / 16384 % 2 = 1 := by omega
  generalize v / 16384 % 2 = S at H e14 hS hsy ⊢
  refine ⟨none, ?_⟩; replace H := H.drew; generalize w.drew = wd1 at H ⊢; have K := grew_refl wd1 (none)
  refine ⟨(by first | exact Option.some_ne_none _ | exact H.ne (by first | exact List.mem_cons_self | (apply List.mem_cons_of_mem; first | exact List.mem_cons_self | (apply List.mem_cons_of_mem; first | exact List.mem_cons_self | (apply List.mem_cons_of_mem; first | exact List.mem_cons_self | (apply List.mem_cons_of_mem; first | exact List.mem_cons_self | (apply List.mem_cons_of_mem; first | exact List.mem_cons_self | (apply List.mem_cons_of_mem; first | exact List.mem_cons_self | (apply List.mem_cons_of_mem; first | exact List.mem_cons_self)))))))) (by first | exact List.mem_cons_self | (apply List.mem_cons_of_mem; first | exact List.mem_cons_self | (apply List.mem_cons_of_mem; first | exact List.mem_cons_self | (apply List.mem_cons_of_mem; first | exact List.mem_cons_self | (apply List.mem_cons_of_mem; first | exact List.mem_cons_self | (apply List.mem_cons_of_mem; first | exact List.mem_cons_self | (apply List.mem_cons_of_mem; first | exact List.mem_cons_self | (apply List.mem_cons_of_mem; first | exact List.mem_cons_self))))))))), ?_⟩
  refine ⟨(by first | exact H.b0.row | exact H.b1.row | exact H.b2.row | exact H.b3.row | exact H.b4.row | exact H.b5.row | exact H.b6.row | exact H.b7.row), ?_⟩
  refine ⟨_, (by first | exact Ce (by first | exact add_flat _ _ _ | exact add_flat2 _ _ _ _ | rfl) H.b0 rfl | exact Ce (by first | exact add_flat _ _ _ | exact add_flat2 _ _ _ _ | rfl) H.b1 rfl | exact Ce (by first | exact add_flat _ _ _ | exact add_flat2 _ _ _ _ | rfl) H.b2 rfl | exact Ce (by first | exact add_flat _ _ _ | exact add_flat2 _ _ _ _ | rfl) H.b3 rfl | exact Ce (by first | exact add_flat _ _ _ | exact add_flat2 _ _ _ _ | rfl) H.b4 rfl | exact Ce (by first | exact add_flat _ _ _ | exact add_flat2 _ _ _ _ | rfl) H.b5 rfl | exact Ce (by first | exact add_flat _ _ _ | exact add_flat2 _ _ _ _ | rfl) H.b6 rfl | exact Ce (by first | exact add_flat _ _ _ | exact add_flat2 _ _ _ _ | rfl) H.b7 rfl | exact Ce (by first | exact add_flat _ _ _ | exact add_flat2 _ _ _ _ | rfl) H.b8 rfl | exact Ce (by first | exact add_flat _ _ _ | exact add_flat2 _ _ _ _ | rfl) H.b9 rfl), ?_⟩
  refine call_j (c179) ?_
  rintro _ w ⟨r, rfl, gr, hm⟩
  replace H := H.grow gr; replace K := World.grownBy.trans K (grew_none _ gr); clear gr
  refine ⟨_, rfl, K, ?_⟩
  refine ⟨_, _, get_bits hm hS, K, ?_⟩
  clear K hm
  refine ⟨_, _, _, (by first | exact Ce (by first | exact add_flat _ _ _ | exact add_flat2 _ _ _ _ | rfl) H.b0 rfl | exact Ce (by first | exact add_flat _ _ _ | exact add_flat2 _ _ _ _ | rfl) H.b1 rfl | exact Ce (by first | exact add_flat _ _ _ | exact add_flat2 _ _ _ _ | rfl) H.b2 rfl | exact Ce (by first | exact add_flat _ _ _ | exact add_flat2 _ _ _ _ | rfl) H.b3 rfl | exact Ce (by first | exact add_flat _ _ _ | exact add_flat2 _ _ _ _ | rfl) H.b4 rfl | exact Ce (by first | exact add_flat _ _ _ | exact add_flat2 _ _ _ _ | rfl) H.b5 rfl | exact Ce (by first | exact add_flat _ _ _ | exact add_flat2 _ _ _ _ | rfl) H.b6 rfl | exact Ce (by first | exact add_flat _ _ _ | exact add_flat2 _ _ _ _ | rfl) H.b7 rfl | exact Ce (by first | exact add_flat _ _ _ | exact add_flat2 _ _ _ _ | rfl) H.b8 rfl | exact Ce (by first | exact add_flat _ _ _ | exact add_flat2 _ _ _ _ | rfl) H.b9 rfl), ?_⟩
  rw [← e14]
  clear e14
  generalize hsl : symL v = sy at hsy hl H
  refine ⟨fun dst x26 m_21 w => ∃ i : Nat, x26 = (i : Int) ∧ i + m_21 = sy.length ∧ dst = (if S = 0 then v / 2 ^ (14 - i) * 2 ^ (14 - i) else v / 2 ^ (14 - 2 * i) * 2 ^ (14 - 2 * i)) ∧
    Sat F w (.blk g 5 (u8s [0, 0]) :: .blk b1 211 [.nilIface, .int .u16 ty, .int .u16 S, .slice l sy.length lc] :: ex) ro, ?_, ?_⟩
  · refine ⟨sy.length, 0, rfl, by omega, ?_, H⟩
    split
    · simp
    · simp
  clear H; rintro dd20 dst x26 m_21 w ⟨i, rfl, him, hdst, H⟩
  refine ⟨fun hc => ?_, fun hc => ?_⟩
  · rw [decide_eq_true_eq] at hc
    have hi : i < sy.length := by omega
    obtain ⟨p, ep, hp, _, _⟩ := H.atU (l := sy) (a := l) (by first | assumption | exact List.mem_cons_self | (apply List.mem_cons_of_mem; first | assumption | exact List.mem_cons_self | (apply List.mem_cons_of_mem; first | assumption | exact List.mem_cons_self | (apply List.mem_cons_of_mem; first | assumption | exact List.mem_cons_self | (apply List.mem_cons_of_mem; first | assumption | exact List.mem_cons_self | (apply List.mem_cons_of_mem; first | assumption | exact List.mem_cons_self)))))) (by omega)
    refine ⟨p, ep, by omega, by omega, ?_⟩
    refine ⟨_, (by rw [show (i : Int).toNat * 1 = i by omega]; exact hp i hi), ?_⟩
    have hget : sy.getD i 0 = if S = 0 then bitAt v (13 - i) 2 else bitAt v (12 - 2 * i) 4 := by
      rw [hsy] at hi ⊢
      exact vecL_get (by simpa [vecL] using hi)
    have hfin : ∀ (z : Int) (w : World), z = (if S = 0 then v / 2 ^ (14 - (i + 1)) * 2 ^ (14 - (i + 1)) else v / 2 ^ (14 - 2 * (i + 1)) * 2 ^ (14 - 2 * (i + 1))) → Sat F w (.blk g 5 (u8s [0, 0]) :: .blk b1 211 [.nilIface, .int .u16 ty, .int .u16 S, .slice l sy.length lc] :: ex) ro →
        ∃ m', m' < m_21 ∧ ∃ i' : Nat, IntKind.i64.wrap ((i : Int) + (1 : Int)) = (i' : Int) ∧ i' + m' = sy.length ∧ z = (if S = 0 then v / 2 ^ (14 - i') * 2 ^ (14 - i') else v / 2 ^ (14 - 2 * i') * 2 ^ (14 - 2 * i')) ∧
          Sat F w (.blk g 5 (u8s [0, 0]) :: .blk b1 211 [.nilIface, .int .u16 ty, .int .u16 S, .slice l sy.length lc] :: ex) ro := by
      intro z w hz H
      have hlen : sy.length ≤ 14 := by rw [hsy]; unfold vecL; split <;> simp
      exact ⟨m_21 - 1, by omega, i + 1, by rw [wi64_of (by omega) (by omega)]; simp, by omega, hz, H⟩
    rw [hget]
    rcases hS with rfl | rfl
    · rw [if_pos rfl] at hsy hdst
      rw [if_pos rfl]
      have hi14 : i < 14 := by rw [hsy] at hi; simpa [vecL] using hi
      have hstep := vec_step1 hv0 i hi14
      have hpw : (2 : Int) ^ (14 - i) = 2 * 2 ^ (13 - i) := by rw [show 14 - i = (13 - i) + 1 by omega, Int.pow_succ, Int.mul_comm]
      have hb : 0 ≤ bitAt v (13 - i) 2 ∧ bitAt v (13 - i) 2 < 2 := by unfold bitAt; omega
      have hfit : v / 2 ^ (14 - i) * 2 ^ (14 - i) + ((2 : Nat) : Int) * 2 ^ (13 - i) ≤ 65536 := by
        have : i = 0 ∨ i = 1 ∨ i = 2 ∨ i = 3 ∨ i = 4 ∨ i = 5 ∨ i = 6 ∨ i = 7 ∨ i = 8 ∨ i = 9 ∨ i = 10 ∨ i = 11 ∨ i = 12 ∨ i = 13 := by omega
        clear hp hfin hget H hstep hpw hb hdst him hc hi
        rcases this with rfl | rfl | rfl | rfl | rfl | rfl | rfl | rfl | rfl | rfl | rfl | rfl | rfl | rfl <;> simp <;> omega
      have e2 : IntKind.u16.wrap ((IntKind.u16.wrap (((0 : Int) + 1) * (IntKind.u16.wrap (i : Int)))) + (2 : Int)) = (i : Int) + 2 := by simp only [wu16]; omega
      rw [e2]
      refine call_j (c123 (k := 13 - i) (m := 2) (q := v / 2 ^ (14 - i)) (by omega) (.inl ⟨rfl, rfl⟩) (by omega) (by rw [hdst, hpw]; rfl) ⟨Int.ediv_nonneg hv0.1 (p2 _), by rw [hdst]; exact hfit⟩ hb) ?_
      rintro _ w ⟨rfl, gr⟩
      replace H := H.grow gr; clear gr
      refine ⟨_, _, rfl, by simp [isIf], fun h => absurd h (by decide), fun _ => ?_⟩
      refine hfin _ w ?_ H
      rw [if_pos rfl, hdst]
      exact hstep
    · rw [if_neg (by decide)] at hsy hdst
      rw [if_neg (by decide)]
      have hi7 : i < 7 := by rw [hsy] at hi; simpa [vecL] using hi
      have hstep := vec_step2 hv0 i hi7
      have hpw : (2 : Int) ^ (14 - 2 * i) = 4 * 2 ^ (12 - 2 * i) := by rw [show 14 - 2 * i = (12 - 2 * i) + 1 + 1 by omega, Int.pow_succ, Int.pow_succ]; omega
      have hb : 0 ≤ bitAt v (12 - 2 * i) 4 ∧ bitAt v (12 - 2 * i) 4 < 4 := by unfold bitAt; omega
      have hfit : v / 2 ^ (14 - 2 * i) * 2 ^ (14 - 2 * i) + ((4 : Nat) : Int) * 2 ^ (12 - 2 * i) ≤ 65536 := by
        have : i = 0 ∨ i = 1 ∨ i = 2 ∨ i = 3 ∨ i = 4 ∨ i = 5 ∨ i = 6 := by omega
        clear hp hfin hget H hstep hpw hb hdst him hc hi
        rcases this with rfl | rfl | rfl | rfl | rfl | rfl | rfl <;> simp <;> omega
      have e2 : IntKind.u16.wrap ((IntKind.u16.wrap (((1 : Int) + 1) * (IntKind.u16.wrap (i : Int)))) + (2 : Int)) = 2 * (i : Int) + 2 := by simp only [wu16]; omega
      rw [e2]
      refine call_j (c123 (k := 12 - 2 * i) (m := 4) (q := v / 2 ^ (14 - 2 * i)) (by omega) (.inr (.inl ⟨rfl, rfl⟩)) (by omega) (by rw [hdst, hpw]; rfl) ⟨Int.ediv_nonneg hv0.1 (p2 _), by rw [hdst]; exact hfit⟩ hb) ?_
      rintro _ w ⟨rfl, gr⟩
      replace H := H.grow gr; clear gr
      refine ⟨_, _, rfl, by simp [isIf], fun h => absurd h (by decide), fun _ => ?_⟩
      refine hfin _ w ?_ H
      rw [if_neg (by decide), hdst]
      exact hstep
  · rw [decide_eq_false_iff_not] at hc
    have hi : i = sy.length := by omega
    have hd : dst = v := by
      rw [hdst, hi, hsy]
      rcases hS with rfl | rfl
      · simp [vecL]
      · simp [vecL]
    rw [hd]
    refine call_j (c75 (l := [0, 0]) (o := 0) (n := 2) (c := 2) H (by omega) (by omega) (by decide)) ?_
    clear H
    rintro _ w ⟨rfl, H⟩
    have H1 := H.blkRow 1 2 (ob [v / 256, v % 256]) (by rfl) (by decide) (fun G h => DeepL.ones [.int .u8 (v / 256), .int .u8 (v % 256)])
    exact ⟨rfl, _, _, rfl, H1.sub (List.sublist_cons_self _ _) (fun _ h => h)⟩
/-! ### Deltas -/
theorem take1 {ys : List Int} (h : 1 ≤ ys.length) : ys.take 1 = [ys.getD 0 0] := by
  match ys, h with
  | y :: r, _ => simp
theorem take2 {ys : List Int} (h : 2 ≤ ys.length) : ys.take 2 = [ys.getD 0 0, ys.getD 1 0] := by
  match ys, h with
  | y :: z :: r, _ => simp
theorem c163 {F : Fr} {w : World} {ex : List Ex} {ro : List Ro} (H : Sat F w ex ro) {ys : List Int} (hb : By ys) {x : Int} (hx : x = 1 ∨ x = 2) (hy : x ≤ ys.length) :
    Calls pg 163 #[.agg #[.int .u16 x, .int .i64 (del1 x ys).2]] w fun en w' => ∃ a c, en = .returned (.tuple #[.slice a x.toNat c, .nilIface]) ∧ Sat F w' ex (Ro.B (ys.take x.toNat) a x.toNat c :: ro) := by
  apply of163
  refine sNew H ?_; clear H; intro b1 w _ H
  refine ⟨_, (by first | exact Ce (by first | exact add_flat _ _ _ | exact add_flat2 _ _ _ _ | rfl) H.b0 rfl | exact Ce (by first | exact add_flat _ _ _ | exact add_flat2 _ _ _ _ | rfl) H.b1 rfl | exact Ce (by first | exact add_flat _ _ _ | exact add_flat2 _ _ _ _ | rfl) H.b2 rfl | exact Ce (by first | exact add_flat _ _ _ | exact add_flat2 _ _ _ _ | rfl) H.b3 rfl | exact Ce (by first | exact add_flat _ _ _ | exact add_flat2 _ _ _ _ | rfl) H.b4 rfl | exact Ce (by first | exact add_flat _ _ _ | exact add_flat2 _ _ _ _ | rfl) H.b5 rfl | exact Ce (by first | exact add_flat _ _ _ | exact add_flat2 _ _ _ _ | rfl) H.b6 rfl | exact Ce (by first | exact add_flat _ _ _ | exact add_flat2 _ _ _ _ | rfl) H.b7 rfl | exact Ce (by first | exact add_flat _ _ _ | exact add_flat2 _ _ _ _ | rfl) H.b8 rfl | exact Ce (by first | exact add_flat _ _ _ | exact add_flat2 _ _ _ _ | rfl) H.b9 rfl), ?_⟩
  refine ⟨by decide, ?_⟩
  refine ⟨_, (by first | exact Ce (by first | exact add_flat _ _ _ | exact add_flat2 _ _ _ _ | rfl) H.b0 rfl | exact Ce (by first | exact add_flat _ _ _ | exact add_flat2 _ _ _ _ | rfl) H.b1 rfl | exact Ce (by first | exact add_flat _ _ _ | exact add_flat2 _ _ _ _ | rfl) H.b2 rfl | exact Ce (by first | exact add_flat _ _ _ | exact add_flat2 _ _ _ _ | rfl) H.b3 rfl | exact Ce (by first | exact add_flat _ _ _ | exact add_flat2 _ _ _ _ | rfl) H.b4 rfl | exact Ce (by first | exact add_flat _ _ _ | exact add_flat2 _ _ _ _ | rfl) H.b5 rfl | exact Ce (by first | exact add_flat _ _ _ | exact add_flat2 _ _ _ _ | rfl) H.b6 rfl | exact Ce (by first | exact add_flat _ _ _ | exact add_flat2 _ _ _ _ | rfl) H.b7 rfl | exact Ce (by first | exact add_flat _ _ _ | exact add_flat2 _ _ _ _ | rfl) H.b8 rfl | exact Ce (by first | exact add_flat _ _ _ | exact add_flat2 _ _ _ _ | rfl) H.b9 rfl), ?_⟩
  have h0 := hb.getD 0
  have h1 := hb.getD 1
  have hz := n16_lt hb
  rcases hx with rfl | rfl
  · have e : (del1 1 ys).2 = ys.getD 0 0 * 250 := by unfold del1; rw [if_neg (by decide)]
    have e2 : IntKind.i64.wrap (((del1 1 ys).2).tdiv (250 : Int)) = ys.getD 0 0 := by rw [e, Int.mul_tdiv_cancel _ (by decide), wi64_of (by omega) (by omega)]
    rw [e2]
    refine ⟨fun _ => ?_, fun h => absurd h (by decide)⟩
    refine ⟨fun _ => ?_, fun h => by rw [decide_eq_false_iff_not] at h; omega⟩
    refine ⟨fun _ => ?_, fun h => by rw [decide_eq_false_iff_not] at h; omega⟩
    refine sMk H (e := 5) (z := .int .u8 0) (bytes := 1) (by kernel_rfl) (by kernel_rfl) (by rfl) (by unfold maxLen; omega) (by omega) (n := 1) (by omega) (by omega) ?_
    clear H; intro g w _ H
    refine ⟨_, rfl, by omega, by omega, ?_⟩
    rw [wu8, show ys.getD 0 0 % 256 = ys.getD 0 0 by omega]
    refine sStB (l := [0]) H (i := 0) (by rw [add_flat]; rfl) (by decide) ?_
    clear H; intro w _ H
    have H1 := H.blkRow 1 1 (ob [ys.getD 0 0]) (by rfl) (by decide) (fun G h => DeepL.ones [.int .u8 (ys.getD 0 0)])
    refine ⟨_, _, rfl, ?_⟩
    rw [show (1 : Int).toNat = 1 by rfl, take1 (by omega)]
    exact H1.sub (List.sublist_cons_self _ _) (fun _ h => h)
  · have h16 : -32768 ≤ IntKind.i16.wrap (n16 ys) ∧ IntKind.i16.wrap (n16 ys) < 32768 := by rw [wi16]; split <;> omega
    have e : (del1 2 ys).2 = IntKind.i16.wrap (n16 ys) * 250 := by unfold del1; rw [if_pos rfl]
    have e2 : IntKind.i64.wrap (((del1 2 ys).2).tdiv (250 : Int)) = IntKind.i16.wrap (n16 ys) := by rw [e, Int.mul_tdiv_cancel _ (by decide), wi64_of (by omega) (by omega)]
    rw [e2]
    refine ⟨fun h => absurd h (by decide), fun _ => ?_⟩
    refine ⟨_, (by first | exact Ce (by first | exact add_flat _ _ _ | exact add_flat2 _ _ _ _ | rfl) H.b0 rfl | exact Ce (by first | exact add_flat _ _ _ | exact add_flat2 _ _ _ _ | rfl) H.b1 rfl | exact Ce (by first | exact add_flat _ _ _ | exact add_flat2 _ _ _ _ | rfl) H.b2 rfl | exact Ce (by first | exact add_flat _ _ _ | exact add_flat2 _ _ _ _ | rfl) H.b3 rfl | exact Ce (by first | exact add_flat _ _ _ | exact add_flat2 _ _ _ _ | rfl) H.b4 rfl | exact Ce (by first | exact add_flat _ _ _ | exact add_flat2 _ _ _ _ | rfl) H.b5 rfl | exact Ce (by first | exact add_flat _ _ _ | exact add_flat2 _ _ _ _ | rfl) H.b6 rfl | exact Ce (by first | exact add_flat _ _ _ | exact add_flat2 _ _ _ _ | rfl) H.b7 rfl | exact Ce (by first | exact add_flat _ _ _ | exact add_flat2 _ _ _ _ | rfl) H.b8 rfl | exact Ce (by first | exact add_flat _ _ _ | exact add_flat2 _ _ _ _ | rfl) H.b9 rfl), ?_⟩
    refine ⟨fun _ => ?_, fun h => absurd h (by decide)⟩
    refine ⟨fun _ => ?_, fun h => by rw [decide_eq_false_iff_not] at h; omega⟩
    refine ⟨fun _ => ?_, fun h => by rw [decide_eq_false_iff_not] at h; omega⟩
    refine sMk H (e := 5) (z := .int .u8 0) (bytes := 1) (by kernel_rfl) (by kernel_rfl) (by rfl) (by unfold maxLen; omega) (by omega) (n := 2) (by omega) (by omega) ?_
    clear H; intro g w _ H
    have e3 : IntKind.u16.wrap (IntKind.i16.wrap (n16 ys)) = n16 ys := by rw [wu16, wi16]; split <;> omega
    rw [e3]
    refine call_j (c75 (l := [0, 0]) (o := 0) (n := 2) (c := 2) H (by omega) (by omega) (by decide)) ?_
    clear H
    rintro _ w ⟨rfl, H⟩
    have H1 := H.blkRow 1 2 (ob [n16 ys / 256, n16 ys % 256]) (by rfl) (by decide) (fun G h => DeepL.ones [.int .u8 (n16 ys / 256), .int .u8 (n16 ys % 256)])
    refine ⟨rfl, _, _, rfl, ?_⟩
    have ed : n16 ys / 256 = ys.getD 0 0 ∧ n16 ys % 256 = ys.getD 1 0 := by unfold n16; omega
    rw [ed.1, ed.2] at H1
    rw [show (2 : Int).toNat = 2 by rfl, take2 (by omega)]
    exact H1.sub (List.sublist_cons_self _ _) (fun _ h => h)
end Go.Proofs.YtkdialecadjedaaGreat
