/- spec.readBitrate: what it computes (no statement of the seat is proved here; conditions: its slice reads bytes). -/
import Derived.Test.YtkdialecadjedaaGreatRdC
import Derived.Lib.Bytes
import Derived.Laws.Externs
namespace Go.Proofs.YtkdialecadjedaaGreat
set_option linter.unusedVariables false
set_option linter.unusedSimpArgs false
set_option linter.unusedSectionVars false
open Go

theorem byte_inj {x y : Int} (hx : 0 ≤ x ∧ x < 256) (hy : 0 ≤ y ∧ y < 256) (h : UInt8.ofNat x.toNat = UInt8.ofNat y.toNat) : x = y := by
  have := congrArg UInt8.toNat h
  simp only [UInt8.toNat_ofNat'] at this
  omega
theorem bytes_inj : ∀ {xs ys : List Int}, By xs → By ys → (xs.map fun n => UInt8.ofNat n.toNat) = (ys.map fun n => UInt8.ofNat n.toNat) → xs = ys
  | [], [], _, _, _ => rfl
  | [], _ :: _, _, _, h => by simp at h
  | _ :: _, [], _, _, h => by simp at h
  | x :: xs, y :: ys, hx, hy, h => by
    simp only [List.map_cons, List.cons.injEq] at h
    rw [byte_inj (hx x (by simp)) (hy y (by simp)) h.1, bytes_inj (fun z hz => hx z (by simp [hz])) (fun z hz => hy z (by simp [hz])) h.2]
theorem str_eq {xs ys : List Int} (hx : By xs) (hy : By ys) : (strOfNums xs).toList = (strOfNums ys).toList ↔ xs = ys := by
  rw [Lib.strOfNums_toList, Lib.strOfNums_toList]
  exact ⟨fun h => bytes_inj hx hy h, fun h => by rw [h]⟩
theorem remb_str {xs : List Int} (hx : By xs) : ((strOfNums xs).toList == (ByteArray.mk #[82, 69, 77, 66]).toList) = decide (xs = [82, 69, 77, 66]) := by
  have e : (ByteArray.mk #[82, 69, 77, 66]) = strOfNums [82, 69, 77, 66] := by rfl
  have hy : By [82, 69, 77, 66] := by intro x hx; simp at hx; omega
  rw [e, Bool.eq_iff_iff, beq_iff_eq, str_eq hx hy, decide_eq_true_eq]
theorem run_f32bits {w : World} {b : Nat} : (callFunc 39 #[.float .f32 b]).run pg w = .ok (.value (.int .u32 b)) w := by
  rw [run_callFunc_extern (fn := Tryz.f39) (e := Extern.MathFloatBits.float32bits) Tryz.func39 (by kernel_rfl) (by kernel_rfl) (by kernel_rfl) (by kernel_rfl)]
  rfl
theorem uU32 : pg.underlying 23 = some (.int .u32) := by kernel_rfl
theorem uF64 : pg.underlying 159 = some (.float .f64) := by kernel_rfl
theorem uF32 : pg.underlying 146 = some (.float .f32) := by kernel_rfl

theorem c26 {F : Fr} {w : World} {ex : List Ex} {ro : List Ro} {xs : List Int} {a : Option Addr} {n c : Nat} {p : Nat} {s m : Int} (H : Sat F w (.blk p 38 (pk0 12 s m false 0 0 0) :: ex) ro) (hx : Ro.B xs a n c ∈ ro) (hb : By xs)
    (hn : n ≤ 1000000) : Calls pg 26 #[.pointer (some ⟨p, 0, none⟩), .slice a n c] w (RdPost F p ex ro (rdRemb s m xs)) := by
  apply of26
  have hlen := H.lenB hx
  refine ⟨fun hc => ?_, fun hc => ?_⟩   -- (decide (((b_1l : Nat) : Int) < (8 : Int)))
  · rw [decide_eq_true_eq] at hc
    exact RdPost.no (by unfold rdRemb; rw [if_pos (by omega)]) H
  rw [decide_eq_false_iff_not] at hc
  refine ⟨_, rfl, ?_⟩
  refine ⟨_, (by first | exact Ce (by first | exact add_flat _ _ _ | exact add_flat2 _ _ _ _ | rfl) H.b0 rfl | exact Ce (by first | exact add_flat _ _ _ | exact add_flat2 _ _ _ _ | rfl) H.b1 rfl | exact Ce (by first | exact add_flat _ _ _ | exact add_flat2 _ _ _ _ | rfl) H.b2 rfl | exact Ce (by first | exact add_flat _ _ _ | exact add_flat2 _ _ _ _ | rfl) H.b3 rfl | exact Ce (by first | exact add_flat _ _ _ | exact add_flat2 _ _ _ _ | rfl) H.b4 rfl | exact Ce (by first | exact add_flat _ _ _ | exact add_flat2 _ _ _ _ | rfl) H.b5 rfl | exact Ce (by first | exact add_flat _ _ _ | exact add_flat2 _ _ _ _ | rfl) H.b6 rfl | exact Ce (by first | exact add_flat _ _ _ | exact add_flat2 _ _ _ _ | rfl) H.b7 rfl | exact Ce (by first | exact add_flat _ _ _ | exact add_flat2 _ _ _ _ | rfl) H.b8 rfl | exact Ce (by first | exact add_flat _ _ _ | exact add_flat2 _ _ _ _ | rfl) H.b9 rfl), ?_⟩   -- w.cell? (p_1.add 2) = some (.int .u32 x2)
  refine ⟨fun hc2 => ?_, fun hc2 => ?_⟩   -- (x2 != (0 : Int))
  · have hc2 : m ≠ 0 := by simpa using hc2
    exact RdPost.no (by unfold rdRemb; rw [if_neg (by omega), if_pos hc2]) H
  have hc2 : ¬ m ≠ 0 := by simpa using hc2
  have hcap := (H.deep1 hx).len
  refine ⟨by omega, by omega, ?_⟩
  have HT := H.cutB hx 0 4 (by omega) (by omega)
  refine ⟨_, _, sStr HT List.mem_cons_self uSl uU8 uStr, ?_⟩
  clear HT
  have hb4 : By ((xs.drop 0).take (4 - 0)) := (hb.drop 0).take _
  rw [remb_str hb4]
  refine ⟨fun hc3 => ?_, fun hc3 => ?_⟩
  · have hc3 : xs.take 4 ≠ [82, 69, 77, 66] := by simpa using hc3
    exact RdPost.no (by unfold rdRemb; rw [if_neg (by omega), if_neg hc2, if_pos hc3]) H
  have hc3 : ¬ xs.take 4 ≠ [82, 69, 77, 66] := by simpa using hc3
  obtain ⟨p_5, rfl, hp_5, kp_5, fp_5⟩ := H.at_ (a := a) (xs := xs) hx (by omega)
  refine ⟨p_5, rfl, by omega, by omega, ?_⟩   -- b_1[(4 : Int)]
  refine ⟨_, hp_5 4 (by omega), ?_⟩   -- w_4.cell? (p_5.add ((4 : Int).toNat * 1)) = some (.int .u8 x6)
  have h4 := hb.getD 4
  generalize hC : xs.getD 4 0 = C at h4
  rw [wi64_of (n := C) (by omega) (by omega), wi64_of (n := 4 * C) (by omega) (by omega), wi64_of (n := 8 + 4 * C) (by omega) (by omega)]
  refine ⟨fun hc4 => ?_, fun hc4 => ?_⟩
  · have hc4 : ¬ (n : Int) = 8 + 4 * C := by simpa using hc4
    exact RdPost.no (by unfold rdRemb; rw [if_neg (by omega), if_neg hc2, if_neg hc3, if_pos (by rw [hC]; omega)]) H
  have hc4 : (n : Int) = 8 + 4 * C := by simpa using hc4
  refine ⟨by omega, by omega, ?_⟩
  refine call_j (c25 (by first | exact (Sat.rd H (by first | assumption | exact List.mem_cons_self | (apply List.mem_cons_of_mem; first | assumption | exact List.mem_cons_self | (apply List.mem_cons_of_mem; first | assumption | exact List.mem_cons_self | (apply List.mem_cons_of_mem; first | assumption | exact List.mem_cons_self | (apply List.mem_cons_of_mem; first | assumption | exact List.mem_cons_self | (apply List.mem_cons_of_mem; first | assumption | exact List.mem_cons_self))))))) | exact Rd.skip (Sat.rd H (by first | assumption | exact List.mem_cons_self | (apply List.mem_cons_of_mem; first | assumption | exact List.mem_cons_self | (apply List.mem_cons_of_mem; first | assumption | exact List.mem_cons_self | (apply List.mem_cons_of_mem; first | assumption | exact List.mem_cons_self | (apply List.mem_cons_of_mem; first | assumption | exact List.mem_cons_self | (apply List.mem_cons_of_mem; first | assumption | exact List.mem_cons_self))))))) _ (by omega) | exact Rd.skip (Rd.skip (Sat.rd H (by first | assumption | exact List.mem_cons_self | (apply List.mem_cons_of_mem; first | assumption | exact List.mem_cons_self | (apply List.mem_cons_of_mem; first | assumption | exact List.mem_cons_self | (apply List.mem_cons_of_mem; first | assumption | exact List.mem_cons_self | (apply List.mem_cons_of_mem; first | assumption | exact List.mem_cons_self | (apply List.mem_cons_of_mem; first | assumption | exact List.mem_cons_self))))))) _ (by omega)) _ (by omega) | exact Rd.cut (Sat.rd H (by first | assumption | exact List.mem_cons_self | (apply List.mem_cons_of_mem; first | assumption | exact List.mem_cons_self | (apply List.mem_cons_of_mem; first | assumption | exact List.mem_cons_self | (apply List.mem_cons_of_mem; first | assumption | exact List.mem_cons_self | (apply List.mem_cons_of_mem; first | assumption | exact List.mem_cons_self | (apply List.mem_cons_of_mem; first | assumption | exact List.mem_cons_self))))))) _ _ (by omega) (by omega) | exact Rd.skip (Rd.skip (Rd.skip (Sat.rd H (by first | assumption | exact List.mem_cons_self | (apply List.mem_cons_of_mem; first | assumption | exact List.mem_cons_self | (apply List.mem_cons_of_mem; first | assumption | exact List.mem_cons_self | (apply List.mem_cons_of_mem; first | assumption | exact List.mem_cons_self | (apply List.mem_cons_of_mem; first | assumption | exact List.mem_cons_self | (apply List.mem_cons_of_mem; first | assumption | exact List.mem_cons_self))))))) _ (by omega)) _ (by omega)) _ (by omega) | assumption) (by repeat (first | assumption | apply By.drop | apply By.take)) (by omega)) ?_
  rintro _ w ⟨rfl, g⟩
  replace H := H.grow g; clear g
  refine ⟨_, rfl, ?_⟩
  have hv := n24_lt (hb.drop 5)
  have eU : rdRemb s m xs = if n24 (xs.drop 5) % 262144 = 0 then none else some { kind := 12, sender := s, bits := sgl (n24 (xs.drop 5) % 262144).toNat (n24 (xs.drop 5) / 262144).toNat, sources := words C.toNat (xs.drop 8) } := by
    unfold rdRemb; rw [if_neg (by omega), if_neg hc2, if_neg hc3, if_neg (by rw [hC]; omega), hC]
  generalize n24 (xs.drop 5) = V at hv eU
  have e1 : iand .u32 V (262143 : Int) = V % 262144 := iand_low (k := .u32) (by rfl) 18 hv.1 (by simp only [IntKind.bits]; omega) (by omega) (by decide)
  have e2 : ishr .u32 V (18 : Int) = V / 262144 := ishr_of 18 (by rfl) (by decide)
  rw [e1, e2]
  refine ⟨fun hc5 => ?_, fun hc5 => ?_⟩
  · have hc5 : V % 262144 = 0 := by simpa using hc5
    exact RdPost.no (by rw [eU, if_pos hc5]) H
  have hc5 : ¬ V % 262144 = 0 := by simpa using hc5
  rw [if_neg hc5] at eU
  obtain ⟨M, hM⟩ : ∃ M : Nat, V % 262144 = (M : Int) := ⟨(V % 262144).toNat, by omega⟩
  obtain ⟨E, hE⟩ : ∃ E : Nat, V / 262144 = (E : Int) := ⟨(V / 262144).toNat, by omega⟩
  rw [hM] at hc5
  rw [hM, hE] at eU
  rw [hM, hE, wi64_of (n := (E : Int)) (by omega) (by omega)]
  rw [Int.toNat_natCast, Int.toNat_natCast] at eU
  have hM0 : 0 < M := by omega
  have hM1 : M < 262144 := by omega
  have hE1 : E ≤ 63 := by omega
  refine ⟨dbl M 0, w, ?_, ?_⟩
  · have := dbl_of_int hM0 hM1
    simp only [convert, Sem.run_bind, run_underlying uU32, run_underlying uF64, Result.andThen_ok, Conv.intToFloat, Sem.run_pure, FloatKind.nearest, FloatKind.encode, FloatKind.format, Ieee.Format.write, Int.natAbs_natCast]
    rw [show decide ((M : Int) < 0) = false by simp, this]
  refine ⟨fun f_17 x18 m_13 w => ∃ i : Nat, x18 = (i : Int) ∧ i + m_13 = E ∧ f_17 = dbl M i ∧ Sat F w (.blk p 38 (pk0 12 s m false 0 0 0) :: ex) ro, ⟨E, 0, rfl, by omega, rfl, H⟩, ?_⟩
  clear H; rintro dd12 f_17 x18 m_13 w ⟨i, rfl, hi, rfl, H⟩
  refine ⟨fun hc => ?_, fun hc => ?_⟩   -- (decide (x18 < (IntKind.i64.wrap (ishr .u32 x7 (18 : Int)))))
  · rw [decide_eq_true_eq] at hc
    refine ⟨dbl M (i + 1), w, run_float_arith w .mul _ .f64 _ _ _ (dbl_mul hM0 hM1 (by omega)), ?_⟩
    refine ⟨m_13 - 1, by omega, i + 1, ?_, by omega, rfl, H⟩
    rw [wi64_of (by omega) (by omega)]; simp
  rw [decide_eq_false_iff_not] at hc
  obtain rfl : E = i := by omega
  refine ⟨sgl M E, w, run_convert_float_float w _ _ .f64 .f32 _ _ (by rw [uF64]; rfl) uF32 (sgl_of_dbl hM0 hM1 hE1), ?_⟩
  refine ⟨_, w, run_f32bits, ?_⟩
  generalize sgl M E = BB at eU ⊢
  refine ⟨_, rfl, ?_⟩
  refine sSt0 H (by first | exact add_flat _ _ _ | exact add_flat2 _ _ _ _ | rfl) (by kernel_rfl) (by rfl) (by first | rfl | (simp only [List.all_cons, List.all_nil, Value.cells]; simp [*])) ?_; clear H; intro w _ H   -- StV pg 23 (p_25.add 17) (.int .u32 x23) w_24 w_26
  refine ⟨by omega, by omega, ?_⟩
  have H1 := H.skipB hx 8 (by omega)
  replace H := H1; clear H1
  generalize hys : xs.drop 8 = ys at H eU
  have hyb : By ys := by rw [← hys]; exact hb.drop _
  refine ⟨fun b33 b33l b33c m_29 w => ∃ (i : Nat) (o : Option Addr) (oc : Nat) (r : Option Nat), i + m_29 = C.toNat ∧ b33l + 4 * i = 4 * C.toNat ∧
    Sat F w (.blk p 38 (((pk0 12 s m false 0 0 0).set 17 (.int .u32 BB)).set 10 (.slice o i oc)) :: .own 23 1 o i oc r (oi .u32 (words i ys)) :: ex) (Ro.B (ys.drop (4 * i)) b33 b33l b33c :: ro), ⟨C.toNat, 0, none, 0, none, by omega, by omega, ?_⟩, ?_⟩
  · exact (H.nilOwn 23 1).u1
  clear H; rintro dd28 b33 b33l b33c m_29 w ⟨i, o, oc, r, hi, hbl, H⟩
  refine ⟨fun hc => ?_, fun hc => ?_⟩   -- (decide (((b33l : Nat) : Int) > (0 : Int)))
  · rw [decide_eq_true_eq] at hc
    have hby : By (ys.drop (4 * i)) := hyb.drop _
    refine ⟨r, ?_⟩; replace H := H.drew; generalize w.drew = wd1 at H ⊢; have K := grew_refl wd1 (r)
    refine ⟨_, rfl, ?_⟩
    refine ⟨(by first | exact Option.some_ne_none _ | exact H.ne (by first | exact List.mem_cons_self | (apply List.mem_cons_of_mem; first | exact List.mem_cons_self | (apply List.mem_cons_of_mem; first | exact List.mem_cons_self | (apply List.mem_cons_of_mem; first | exact List.mem_cons_self | (apply List.mem_cons_of_mem; first | exact List.mem_cons_self | (apply List.mem_cons_of_mem; first | exact List.mem_cons_self | (apply List.mem_cons_of_mem; first | exact List.mem_cons_self | (apply List.mem_cons_of_mem; first | exact List.mem_cons_self)))))))) (by first | exact List.mem_cons_self | (apply List.mem_cons_of_mem; first | exact List.mem_cons_self | (apply List.mem_cons_of_mem; first | exact List.mem_cons_self | (apply List.mem_cons_of_mem; first | exact List.mem_cons_self | (apply List.mem_cons_of_mem; first | exact List.mem_cons_self | (apply List.mem_cons_of_mem; first | exact List.mem_cons_self | (apply List.mem_cons_of_mem; first | exact List.mem_cons_self | (apply List.mem_cons_of_mem; first | exact List.mem_cons_self))))))))), ?_⟩   -- some ((p_35.add 10)).block ≠ r34
    refine ⟨(by first | exact H.b0.row | exact H.b1.row | exact H.b2.row | exact H.b3.row | exact H.b4.row | exact H.b5.row | exact H.b6.row | exact H.b7.row), ?_⟩   -- ∃ c ty f, wd1.heap[((p_35.add 10)).block]? = some (.cells c
    refine ⟨_, _, _, (by first | exact Ce (by first | exact add_flat _ _ _ | exact add_flat2 _ _ _ _ | rfl) H.b0 rfl | exact Ce (by first | exact add_flat _ _ _ | exact add_flat2 _ _ _ _ | rfl) H.b1 rfl | exact Ce (by first | exact add_flat _ _ _ | exact add_flat2 _ _ _ _ | rfl) H.b2 rfl | exact Ce (by first | exact add_flat _ _ _ | exact add_flat2 _ _ _ _ | rfl) H.b3 rfl | exact Ce (by first | exact add_flat _ _ _ | exact add_flat2 _ _ _ _ | rfl) H.b4 rfl | exact Ce (by first | exact add_flat _ _ _ | exact add_flat2 _ _ _ _ | rfl) H.b5 rfl | exact Ce (by first | exact add_flat _ _ _ | exact add_flat2 _ _ _ _ | rfl) H.b6 rfl | exact Ce (by first | exact add_flat _ _ _ | exact add_flat2 _ _ _ _ | rfl) H.b7 rfl | exact Ce (by first | exact add_flat _ _ _ | exact add_flat2 _ _ _ _ | rfl) H.b8 rfl | exact Ce (by first | exact add_flat _ _ _ | exact add_flat2 _ _ _ _ | rfl) H.b9 rfl), ?_⟩   -- wd1.cell? (p_35.add 10) = some (.slice x36 x36l x36c)
    refine call_j (c10 (by first | exact (Sat.rd H (by first | assumption | exact List.mem_cons_self | (apply List.mem_cons_of_mem; first | assumption | exact List.mem_cons_self | (apply List.mem_cons_of_mem; first | assumption | exact List.mem_cons_self | (apply List.mem_cons_of_mem; first | assumption | exact List.mem_cons_self | (apply List.mem_cons_of_mem; first | assumption | exact List.mem_cons_self | (apply List.mem_cons_of_mem; first | assumption | exact List.mem_cons_self))))))) | exact Rd.skip (Sat.rd H (by first | assumption | exact List.mem_cons_self | (apply List.mem_cons_of_mem; first | assumption | exact List.mem_cons_self | (apply List.mem_cons_of_mem; first | assumption | exact List.mem_cons_self | (apply List.mem_cons_of_mem; first | assumption | exact List.mem_cons_self | (apply List.mem_cons_of_mem; first | assumption | exact List.mem_cons_self | (apply List.mem_cons_of_mem; first | assumption | exact List.mem_cons_self))))))) _ (by omega) | exact Rd.skip (Rd.skip (Sat.rd H (by first | assumption | exact List.mem_cons_self | (apply List.mem_cons_of_mem; first | assumption | exact List.mem_cons_self | (apply List.mem_cons_of_mem; first | assumption | exact List.mem_cons_self | (apply List.mem_cons_of_mem; first | assumption | exact List.mem_cons_self | (apply List.mem_cons_of_mem; first | assumption | exact List.mem_cons_self | (apply List.mem_cons_of_mem; first | assumption | exact List.mem_cons_self))))))) _ (by omega)) _ (by omega) | exact Rd.cut (Sat.rd H (by first | assumption | exact List.mem_cons_self | (apply List.mem_cons_of_mem; first | assumption | exact List.mem_cons_self | (apply List.mem_cons_of_mem; first | assumption | exact List.mem_cons_self | (apply List.mem_cons_of_mem; first | assumption | exact List.mem_cons_self | (apply List.mem_cons_of_mem; first | assumption | exact List.mem_cons_self | (apply List.mem_cons_of_mem; first | assumption | exact List.mem_cons_self))))))) _ _ (by omega) (by omega) | exact Rd.skip (Rd.skip (Rd.skip (Sat.rd H (by first | assumption | exact List.mem_cons_self | (apply List.mem_cons_of_mem; first | assumption | exact List.mem_cons_self | (apply List.mem_cons_of_mem; first | assumption | exact List.mem_cons_self | (apply List.mem_cons_of_mem; first | assumption | exact List.mem_cons_self | (apply List.mem_cons_of_mem; first | assumption | exact List.mem_cons_self | (apply List.mem_cons_of_mem; first | assumption | exact List.mem_cons_self))))))) _ (by omega)) _ (by omega)) _ (by omega) | assumption) hby (by omega)) ?_
    rintro _ w ⟨rfl, g⟩
    replace H := H.grow g; replace K := World.grownBy.trans K (grew_none _ g); clear g
    refine ⟨_, rfl, ?_⟩
    refine ⟨K, ?_⟩   -- wd1.grownBy w_38 r34
    refine ⟨rfl, ?_⟩
    refine sNew H ?_; clear H; intro b39 w g H; replace K := World.grownBy.trans K (grew_none _ g); clear g   -- (#[.int .u32 x37])
    refine ⟨K, ?_⟩   -- wd1.grownBy w_40 r34
    refine sApp2 H (bytes := 4) (by kernel_rfl) [.int .u32 (n32 (ys.drop (4 * i)))] [.one (.int .u32 (n32 (ys.drop (4 * i))))] (by rfl) (fun j u hu => by rw [add_flat, Nat.zero_add]; exact H.b0.cell hu) (fun G h => by repeat (first | exact DeepL.nil _ _ | exact DeepL.ones _ | refine DeepL.cons (Deep.emp _ _) ?_ | refine DeepL.cons (Deep.one _) ?_ | refine DeepL.cons (h (.deep [_] [_]) (by assumption)).head ?_ | refine DeepL.cons (h (.deep [_] [_]) (by first | assumption | exact List.mem_cons_self | (apply List.mem_cons_of_mem; first | assumption | exact List.mem_cons_self | (apply List.mem_cons_of_mem; first | assumption | exact List.mem_cons_self | (apply List.mem_cons_of_mem; first | assumption | exact List.mem_cons_self | (apply List.mem_cons_of_mem; first | assumption | exact List.mem_cons_self | (apply List.mem_cons_of_mem; first | assumption | exact List.mem_cons_self))))))).head ?_)) (by simp [Value.oneCell']) (by unfold maxLen; omega) (by omega) ?_
    clear H; intro x41 x41l x41c x41r w ex41 g H
    replace K := World.grownBy.trans K g; clear g; replace H := H.sub (List.sublist_cons_self _ _) (fun _ h => h)
    refine ⟨K, ?_⟩   -- wd1.grownBy w_42 r34
    refine ⟨_, rfl, ?_⟩
    refine sSt0 H (by first | exact add_flat _ _ _ | exact add_flat2 _ _ _ _ | rfl) (by kernel_rfl) (by rfl) (by first | rfl | (simp only [List.all_cons, List.all_nil, Value.cells]; simp [*])) ?_; clear H; intro w _ H   -- StV pg 27 (p_43.add 10) (.slice x41 x41l x41c) w_42 w_44
    refine ⟨by omega, by omega, ?_⟩
    subst ex41
    refine ⟨m_29 - 1, by omega, i + 1, x41, x41c, x41r, by omega, by omega, ?_⟩
    have H2 := H.skipB List.mem_cons_self 4 (by omega)
    rw [List.drop_drop, show 4 * i + 4 = 4 * (i + 1) by omega] at H2
    rw [words_snoc, oi_snoc]
    exact H2.sub (by repeat (first | exact List.Sublist.refl _ | exact List.nil_sublist _ | apply List.Sublist.cons_cons | apply List.Sublist.cons)) (fun r hr => by (try simp only [List.mem_cons] at hr ⊢); (repeat (first | (rcases hr with rfl | hr; (first | (left; rfl) | (right; left; rfl) | (right; right; left; rfl) | (right; right; right; left; rfl) | (right; right; right; right; left; rfl)))  | (simp [hr]; done) | assumption | exact hr.elim)))
  · rw [decide_eq_false_iff_not] at hc
    obtain rfl : i = C.toNat := by omega
    replace H := H.r1.freeze
    have hm0 : m = 0 := by simpa using hc2
    subst hm0
    exact RdPost.yes _ eU H (fun r hr => by (try simp only [List.mem_cons] at hr ⊢); (repeat (first | (rcases hr with rfl | hr; (first | (left; rfl) | (right; left; rfl) | (right; right; left; rfl) | (right; right; right; left; rfl) | (right; right; right; right; left; rfl)))  | (simp [hr]; done) | assumption | exact hr.elim))) (fun G h => by repeat (first | exact DeepL.nil _ _ | exact DeepL.ones _ | refine DeepL.cons (Deep.emp _ _) ?_ | refine DeepL.cons (Deep.one _) ?_ | refine DeepL.cons (h (.deep [_] [_]) (by assumption)).head ?_ | refine DeepL.cons (h (.deep [_] [_]) (by first | assumption | exact List.mem_cons_self | (apply List.mem_cons_of_mem; first | assumption | exact List.mem_cons_self | (apply List.mem_cons_of_mem; first | assumption | exact List.mem_cons_self | (apply List.mem_cons_of_mem; first | assumption | exact List.mem_cons_self | (apply List.mem_cons_of_mem; first | assumption | exact List.mem_cons_self | (apply List.mem_cons_of_mem; first | assumption | exact List.mem_cons_self))))))).head ?_))
end Go.Proofs.YtkdialecadjedaaGreat
