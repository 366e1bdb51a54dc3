/- Methods on an interface's value (no statement of the seat is proved here; conditions: none). -/
import Derived.Test.YtkdialecadjedaaGreatMem2
namespace Go.Proofs.YtkdialecadjedaaGreat
set_option linter.unusedVariables false
set_option linter.unusedSimpArgs false
set_option linter.unusedSectionVars false
open Go

def mthB (P : Program) (t : TypeId) (name : String) (f : FuncId) (ptr : Bool) : Bool := match P.info? t with
  | some i => (match i.methods.find? (·.name == name) with
    | some m => (match m.func with
      | some (g, q) => Nat.beq g f && (q == ptr) && m.path.toList.isEmpty
      | none => false)
    | none => false)
  | none => false
theorem fuel_pos : Nat.ble 1 (pg.types.size + Made.depth) = true := by kernel_rfl
theorem mth_spec {P : Program} {t : TypeId} {name : String} {f : FuncId} {ptr : Bool} (h : mthB P t name f ptr = true) :
    ∃ i m, P.info? t = some i ∧ i.methods.find? (·.name == name) = some m ∧ m.func = some (f, ptr) ∧ m.path.toList = [] := by
  unfold mthB at h
  split at h
  · rename_i i hi
    split at h
    · rename_i m hm
      split at h
      · rename_i g q hf
        simp only [Bool.and_eq_true, beq_iff_eq, List.isEmpty_iff] at h
        obtain ⟨⟨h1, rfl⟩, h3⟩ := h
        obtain rfl := Nat.eq_of_beq_eq_true h1
        exact ⟨i, m, hi, hm, hf, h3⟩
      · cases h
    · cases h
  · cases h
/-- A method with a pointer receiver. -/
theorem run_mth_ptr {P : Program} {k : Nat} {t e : TypeId} {name : String} {f : FuncId} {v : Value} (h : mthB P t name f true = true) (ht : P.underlying t = some (.pointer e)) (w : World) :
    (method (k + 1) t v name).run P w = .ok (f, v) w := by
  obtain ⟨i, m, hi, hm, hf, hp⟩ := mth_spec h
  simp only [method, typeInfo, Sem.run_bind, run_program, Result.andThen_ok, hi, Sem.run_pure, hm, hp, follow, hf]
  simp only [receiverAt, Sem.run_bind, run_underlying ht, Result.andThen_ok, Place.get, Sem.run_pure]
theorem run_wrapChk {P : Program} {xt : TypeId} {a : Addr} {s n : String} {w : World} : (Builtin.ssaWrapNilChk_ #[xt] xt #[.pointer (some a), strVal s, strVal n]).run P w = .ok (.pointer (some a)) w := rfl
/-- A method with a value receiver, through a pointer. -/
theorem run_mth_val {P : Program} {k : Nat} {t e : TypeId} {name : String} {f : FuncId} {a : Addr} {v : Value} (h : mthB P t name f false = true) (ht : P.underlying t = some (.pointer e)) {w : World} (hl : LdV P e a v w) :
    (method (k + 1) t (.pointer (some a)) name).run P w = .ok (f, v) w := by
  obtain ⟨i, m, hi, hm, hf, hp⟩ := mth_spec h
  have hpe : m.path.isEmpty = true := by rw [Array.isEmpty_iff, ← Array.toList_eq_nil_iff]; exact hp
  unfold LdV at hl
  simp only [method, typeInfo, Sem.run_bind, run_program, Result.andThen_ok, hi, Sem.run_pure, hm, hp, follow, hf]
  simp only [receiverAt, Sem.run_bind, run_underlying ht, Result.andThen_ok, Place.get, Sem.run_pure, hpe, if_true]
  rw [run_wrapChk]
  simp only [Result.andThen_ok, asAddr, Sem.run_pure, hl]
theorem fuel_succ : ∃ k, pg.types.size + Made.depth = k + 1 := by
  have h := Nat.le_of_ble_eq_true fuel_pos
  generalize pg.types.size + Made.depth = n at h
  exact ⟨n - 1, by omega⟩
theorem inv_ptr {t e : TypeId} {name : String} {f : FuncId} {v : Value} {args : Array Value} {w : World} {R : Ending → World → Prop} (h : mthB pg t name f true = true) (ht : pg.underlying t = some (.pointer e)) (hb : hasBody pg f = true) (hc : Calls pg f (#[v] ++ args) w R) :
    Invk (.iface t v) name args w R := by
  obtain ⟨k, hk⟩ := fuel_succ
  exact ⟨t, v, f, v, rfl, by rw [hk]; exact run_mth_ptr h ht w, hb, hc⟩
theorem inv_val {t e : TypeId} {name : String} {f : FuncId} {a : Addr} {v : Value} {args : Array Value} {w : World} {R : Ending → World → Prop} (h : mthB pg t name f false = true) (ht : pg.underlying t = some (.pointer e)) (hb : hasBody pg f = true) (hl : LdV pg e a v w) (hc : Calls pg f (#[v] ++ args) w R) :
    Invk (.iface t (.pointer (some a))) name args w R := by
  obtain ⟨k, hk⟩ := fuel_succ
  exact ⟨t, .pointer (some a), f, v, rfl, by rw [hk]; exact run_mth_val h ht hl, hb, hc⟩

def ptrB (P : Program) (t : TypeId) : Bool := match P.underlying t, (P.info? t).bind (·.zero) with
  | some (.pointer _), some (.pointer none) => true
  | _, _ => false
theorem ta_yes {P : Program} {t xt : TypeId} {p : Option Addr} (h : ptrB P t = true) (w : World) : (Instr.typeAssert (.iface t (.pointer p)) xt t true).run P w = .ok (.tuple #[.pointer p, .bool true]) w := by
  unfold ptrB at h
  split at h
  · rename_i e ht hz
    simp only [Instr.typeAssert, Sem.run_bind, run_underlying ht, Result.andThen_ok, if_true, Sem.run_pure]
  · cases h
theorem ta_no {P : Program} {t u xt : TypeId} {v : Value} (h : ptrB P u = true) (hne : t ≠ u) (w : World) : (Instr.typeAssert (.iface t v) xt u true).run P w = .ok (.tuple #[.pointer none, .bool false]) w := by
  unfold ptrB at h
  split at h
  · rename_i e ht hz
    obtain ⟨i, hi, hz⟩ := Option.bind_eq_some_iff.1 hz
    simp only [Instr.typeAssert, Sem.run_bind, run_underlying ht, Result.andThen_ok, if_neg hne, Sem.run_pure, if_true, zeroValue, typeInfo, run_program, hi, hz]
  · cases h

theorem OS.mono {w : World} {base base' : Nat} {e : TypeId} {size : Nat} {a : Option Addr} {l c : Nat} {r : Option Nat} {xs : List Value} (h : OS w base e size a l c r xs) (hb : base' ≤ base) : OS w base' e size a l c r xs :=
  ⟨⟨h.own.1, h.own.2.imp id fun ⟨g, cap, cur, h1, h2, h3⟩ => ⟨g, cap, cur, h1, Nat.le_trans hb h2, h3⟩⟩, h.blk⟩
end Go.Proofs.YtkdialecadjedaaGreat
