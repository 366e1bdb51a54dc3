/- The verification conditions of a function of the program: each operation asks what it needs and hands on what it yields (no statement of the seat is proved here; conditions: none). -/
import Derived.Test.YtkdialecadjedaaGreatProg
import Derived.WalkKit
import Derived.KernelRfl
import Derived.OrdersHeld
namespace Go.Proofs.YtkdialecadjedaaGreat
set_option linter.unusedVariables false
set_option linter.unusedSimpArgs false
set_option linter.unusedSectionVars false
open Go

/-! ### Frames as lists: slot, value, and the Bool that is known to stand there. -/
abbrev Env := List (Nat × Value × Option Bool)
def Env.val : Env → Nat → Value
  | [], _ => undef
  | (i, v, _) :: r, j => bif Nat.beq i j then v else Env.val r j
def Env.dec : Env → Nat → Option Bool
  | [], _ => none
  | (i, _, d) :: r, j => bif Nat.beq i j then d else Env.dec r j
def Env.op (e : Env) : Operand → Value
  | .tmp t => e.val t
  | .const v => v
  | .global g => .pointer (some ⟨g, 0, none⟩)
  | .func f => .func (.func f) #[] #[]
def Env.decOp (e : Env) : Operand → Option Bool
  | .tmp t => e.dec t
  | .const (.bool b) => some b
  | _ => none

structure Agree (n : Nat) (e : Env) (a : Act) : Prop where
  size : a.tmps.size = n
  get : ∀ j, a.tmps.getD j undef = e.val j
  dec : ∀ j b, e.dec j = some b → e.val j = .bool b
  defers : a.defers = []

theorem Agree.eval {n : Nat} {e : Env} {a : Act} (h : Agree n e a) (x : Operand) : a.eval x = e.op x := by
  cases x with
  | tmp t => exact h.get t
  | const v => rfl
  | global g => rfl
  | func f => rfl

theorem Agree.evals {n : Nat} {e : Env} {a : Act} (h : Agree n e a) : a.eval = e.op := funext h.eval

theorem Env.val_cons (i : Nat) (v : Value) (d : Option Bool) (r : Env) (j : Nat) : Env.val ((i, v, d) :: r) j = if i = j then v else Env.val r j := by
  by_cases h : i = j
  · subst h; simp [Env.val]
  · have : Nat.beq i j = false := by rw [← Bool.not_eq_true]; exact fun hb => h (Nat.eq_of_beq_eq_true hb)
    simp [Env.val, this, h]
theorem Env.dec_cons (i : Nat) (v : Value) (d : Option Bool) (r : Env) (j : Nat) : Env.dec ((i, v, d) :: r) j = if i = j then d else Env.dec r j := by
  by_cases h : i = j
  · subst h; simp [Env.dec]
  · have : Nat.beq i j = false := by rw [← Bool.not_eq_true]; exact fun hb => h (Nat.eq_of_beq_eq_true hb)
    simp [Env.dec, this, h]

theorem Agree.decOp {n : Nat} {e : Env} {a : Act} (h : Agree n e a) {x : Operand} {b : Bool} (hd : e.decOp x = some b) : e.op x = .bool b := by
  cases x with
  | tmp t => exact h.dec t b hd
  | const v => cases v <;> simp [Env.decOp] at hd; subst hd; rfl
  | global g => cases hd
  | func f => cases hd

theorem Agree.put {n : Nat} {e : Env} {a : Act} (h : Agree n e a) (d : Nat) (hd : d < n) (v : Value) (k : Option Bool) (hk : ∀ b, k = some b → v = .bool b) :
    Agree n ((d, v, k) :: e) (a.put (some d) v) where
  size := by simp [Act.put, h.size]
  get j := by
    rw [Env.val_cons]
    by_cases hj : d = j
    · subst hj
      simp [Act.put, Array.getElem?_setIfInBounds_self, h.size, hd]
    · rw [if_neg hj, ← h.get j]
      simp [Act.put, Array.getElem?_setIfInBounds_ne hj]
  dec j b hb := by
    rw [Env.dec_cons] at hb
    rw [Env.val_cons]
    by_cases hj : d = j
    · rw [if_pos hj] at hb; rw [if_pos hj]; exact hk b hb
    · rw [if_neg hj] at hb; rw [if_neg hj]; exact h.dec j b hb
  defers := h.defers

/-- The frame is not turned where a slot's known value is written down once more. -/
theorem Agree.same {n : Nat} {e : Env} {a : Act} (h : Agree n e a) (d : Nat) (b : Bool) (hv : e.val d = .bool b) : Agree n ((d, .bool b, some b) :: e) a where
  size := h.size
  get j := by
    rw [Env.val_cons]
    by_cases hj : d = j
    · subst hj; rw [if_pos rfl, h.get, hv]
    · rw [if_neg hj]; exact h.get j
  dec j b' hb := by
    rw [Env.dec_cons] at hb
    rw [Env.val_cons]
    by_cases hj : d = j
    · rw [if_pos hj] at hb; rw [if_pos hj]; cases hb; rfl
    · rw [if_neg hj] at hb; rw [if_neg hj]; exact h.dec j b' hb
  defers := h.defers

/-! ### Values by their types -/
def ex1 (k : TypeDesc) (Q : Value → Prop) : Prop :=
  match k with
  | .int k => ∃ n : Int, Q (.int k n)
  | .bool => ∃ b : Bool, Q (.bool b)
  | .string => ∃ s : ByteArray, Q (.string s)
  | .pointer _ => ∃ a : Option Addr, Q (.pointer a)
  | .slice _ => ∃ (a : Option Addr) (l c : Nat), Q (.slice a l c)
  | .float k => ∃ b : Nat, Q (.float k b)
  | .func _ _ _ => ∃ (f : FuncId) (x y : Array Value), Q (.func (.func f) x y)
  | _ => ∃ v, Q v
theorem ex1_some {k : TypeDesc} {Q : Value → Prop} (h : ex1 k Q) : ∃ v, Q v := by
  cases k <;> first
    | (obtain ⟨_, _, _, h⟩ := h; exact ⟨_, h⟩)
    | (obtain ⟨_, h⟩ := h; exact ⟨_, h⟩)
def exs : List TypeDesc → (List Value → Prop) → Prop
  | [], Q => Q []
  | k :: ks, Q => ex1 k fun v => exs ks fun vs => Q (v :: vs)
theorem exs_some : ∀ {ks : List TypeDesc} {Q : List Value → Prop}, exs ks Q → ∃ vs, Q vs
  | [], _, h => ⟨[], h⟩
  | _ :: _, _, h => let ⟨_, h1⟩ := ex1_some h; let ⟨_, h2⟩ := exs_some h1; ⟨_, h2⟩
def cellKs (P : Program) : Nat → TypeId → List TypeDesc
  | 0, _ => []
  | d + 1, t => match P.underlying t with
    | some (.struct fs) => fs.toList.flatMap fun f => cellKs P d f.type
    | some k => [k]
    | none => []
def exK (P : Program) (t : TypeId) (Q : Value → Prop) : Prop :=
  match P.underlying t with
  | some (.struct _) => bif Nat.ble (P.cellsOf t) 8 then exs (cellKs P 3 t) fun vs => Q (.agg vs.toArray) else ∃ v, Q v
  | some (.array _ _) => ∃ v, Q v
  | some k => ex1 k Q
  | none => False
theorem exK_some {P : Program} {t : TypeId} {Q : Value → Prop} (h : exK P t Q) : ∃ v, Q v := by
  unfold exK at h
  split at h
  · cases hb : Nat.ble (P.cellsOf t) 8 <;> simp only [hb, cond_true, cond_false] at h
    · exact h
    · obtain ⟨vs, h⟩ := exs_some h; exact ⟨_, h⟩
  · exact h
  · exact ex1_some h
  · exact h.elim
def exKs (P : Program) : List TypeId → (List Value → Prop) → Prop
  | [], Q => Q []
  | t :: ts, Q => exK P t fun v => exKs P ts fun vs => Q (v :: vs)
theorem exKs_some {P : Program} : ∀ {ts : List TypeId} {Q : List Value → Prop}, exKs P ts Q → ∃ vs, Q vs
  | [], _, h => ⟨[], h⟩
  | _ :: _, _, h => let ⟨_, h1⟩ := exK_some h; let ⟨_, h2⟩ := exKs_some h1; ⟨_, h2⟩
def exT (P : Program) (t : TypeId) (Q : Value → Prop) : Prop :=
  match P.underlying t with
  | some (.tuple es) => exKs P es.toList fun vs => Q (.tuple vs.toArray)
  | _ => exK P t Q
theorem exT_some {P : Program} {t : TypeId} {Q : Value → Prop} (h : exT P t Q) : ∃ v, Q v := by
  unfold exT at h
  split at h
  · obtain ⟨vs, h⟩ := exKs_some h; exact ⟨_, h⟩
  · exact exK_some h

/-! ### Words for numbers and addresses -/
def ishl (k : IntKind) (a b : Int) : Int := k.wrap (a * 2 ^ (min b.toNat k.bits))
def ishr (k : IntKind) (a b : Int) : Int := a.fdiv (2 ^ (min b.toNat k.bits))
def iand (k : IntKind) (a b : Int) : Int := k.wrap (BitVec.ofInt k.bits a &&& BitVec.ofInt k.bits b).toNat
def ior (k : IntKind) (a b : Int) : Int := k.wrap (BitVec.ofInt k.bits a ||| BitVec.ofInt k.bits b).toNat
def ixor (k : IntKind) (a b : Int) : Int := k.wrap (BitVec.ofInt k.bits a ^^^ BitVec.ofInt k.bits b).toNat
def iandn (k : IntKind) (a b : Int) : Int := k.wrap (BitVec.ofInt k.bits a &&& ~~~BitVec.ofInt k.bits b).toNat
/-- The address of a slice that is cut at 'l'. -/
def cutA (a : Option Addr) (l m sz : Nat) : Option Addr := if m = l then a else a.map (·.add (l * sz))
def isNilI : Value → Bool
  | .nilIface => true
  | _ => false
def isIf : Value → Prop
  | .nilIface => True
  | .iface _ _ => True
  | _ => False
def zeroC (P : Program) (t : TypeId) : Array Value := match (P.info? t).bind (·.zero) with
  | some z => z.cells
  | none => #[]
def hasZero (P : Program) (t : TypeId) : Bool := ((P.info? t).bind (·.zero)).isSome
/-- A new block. -/
def gNew (cs : Array Value) (t : TypeId) (K : Addr → World → Prop) (w : World) : Prop := K ⟨w.heap.size, 0, none⟩ (w.alloc (.cells cs t))
def LdV (P : Program) (t : TypeId) (a : Addr) (v : Value) (w : World) : Prop := (loadVar t a).run P w = .ok v w
def StV (P : Program) (t : TypeId) (a : Addr) (v : Value) (w w' : World) : Prop := (storeVar t a v).run P w = .ok () w'
/-- An operation of the model's that hands back a value. -/
def gSem (P : Program) (t : TypeId) (s : Sem Value) (K : Value → World → Prop) (w : World) : Prop := exT P t fun v => ∃ w', s.run P w = .ok v w' ∧ K v w'

/-! ### Operations that look at no memory: what they ask, and that they yield the same in every world -/
def sameK (k k' : IntKind) (p : Prop) : Prop := match decide (k = k') with
  | true => p
  | false => False
theorem sameK_iff {k k' : IntKind} {p : Prop} (h : sameK k k' p) : k = k' ∧ p := by
  unfold sameK at h
  split at h
  · rename_i hd; exact ⟨of_decide_eq_true hd, h⟩
  · exact h.elim
def shiftVc (yo : Operand) (b : Int) (p : Prop) : Prop := match yo with
  | .const _ => (match decide (0 ≤ b) with | true => p | false => False)
  | _ => 0 ≤ b ∧ p
theorem shiftVc_iff {yo : Operand} {b : Int} {p : Prop} (h : shiftVc yo b p) : 0 ≤ b ∧ p := by
  unfold shiftVc at h
  split at h
  · split at h
    · rename_i hd; exact ⟨of_decide_eq_true hd, h⟩
    · exact h.elim
  · exact h
def intVc (op : BinOp) (k : IntKind) (a : Int) (k' : IntKind) (b : Int) (yo : Operand) (Q : Value → Prop) : Prop :=
  match op with
  | .add => sameK k k' (Q (.int k (k.wrap (a + b))))
  | .sub => sameK k k' (Q (.int k (k.wrap (a - b))))
  | .mul => sameK k k' (Q (.int k (k.wrap (a * b))))
  | .quo => sameK k k' (b ≠ 0 ∧ Q (.int k (k.wrap (a.tdiv b))))
  | .rem => sameK k k' (b ≠ 0 ∧ Q (.int k (a.tmod b)))
  | .and => sameK k k' (Q (.int k (iand k a b)))
  | .or => sameK k k' (Q (.int k (ior k a b)))
  | .xor => sameK k k' (Q (.int k (ixor k a b)))
  | .andNot => sameK k k' (Q (.int k (iandn k a b)))
  | .shl => shiftVc yo b (Q (.int k (ishl k a b)))
  | .shr => shiftVc yo b (Q (.int k (ishr k a b)))
  | .eql => sameK k k' (Q (.bool (a == b)))
  | .neq => sameK k k' (Q (.bool (a != b)))
  | .lss => sameK k k' (Q (.bool (decide (a < b))))
  | .leq => sameK k k' (Q (.bool (decide (a ≤ b))))
  | .gtr => sameK k k' (Q (.bool (decide (a > b))))
  | .geq => sameK k k' (Q (.bool (decide (a ≥ b))))
theorem intVc_ok {P : Program} {op : BinOp} {k : IntKind} {a : Int} {k' : IntKind} {b : Int} {yo : Operand} {Q : Value → Prop} (t : TypeId) (h : intVc op k a k' b yo Q) :
    ∃ v, Q v ∧ ∀ w, (binOp op t (.int k a) (.int k' b)).run P w = .ok v w := by
  cases op <;> simp only [intVc] at h
  case shl => obtain ⟨h0, h⟩ := shiftVc_iff h; exact ⟨_, h, fun w => by simp [binOp, Op.shift, ishl, show ¬ b < 0 by omega]⟩
  case shr => obtain ⟨h0, h⟩ := shiftVc_iff h; exact ⟨_, h, fun w => by simp [binOp, Op.shift, ishr, show ¬ b < 0 by omega]⟩
  case quo => obtain ⟨rfl, h0, h⟩ := sameK_iff h; exact ⟨_, h, fun w => by simp [binOp, Op.intDiv, h0]⟩
  case rem => obtain ⟨rfl, h0, h⟩ := sameK_iff h; exact ⟨_, h, fun w => by simp [binOp, Op.intDiv, h0]⟩
  all_goals (obtain ⟨rfl, hq⟩ := sameK_iff h; exact ⟨_, hq, fun w => by simp only [binOp, ne_eq, not_true_eq_false, if_false]; rfl⟩)
def strVc (op : BinOp) (a b : ByteArray) (Q : Value → Prop) : Prop :=
  match op with
  | .add => a.size + b.size ≤ 9223372036854775807 ∧ Q (.string (a ++ b))
  | .eql => Q (.bool (a.toList == b.toList))
  | .neq => Q (.bool (!(a.toList == b.toList)))
  | _ => False
theorem strVc_ok {P : Program} {op : BinOp} {a b : ByteArray} {Q : Value → Prop} (t : TypeId) (h : strVc op a b Q) :
    ∃ v, Q v ∧ ∀ w, (binOp op t (.string a) (.string b)).run P w = .ok v w := by
  cases op <;> simp only [strVc] at h
  case add => exact ⟨_, h.2, fun w => by
    have : ¬ ((a.size + b.size : Nat) : Int) > IntKind.i64.max := by
      have h1 := h.1
      simp only [IntKind.max, IntKind.signed, IntKind.bits]
      omega
    simp only [binOp, Op.stringOp]
    rw [if_neg this]
    rfl⟩
  case eql => exact ⟨_, h, fun w => by simp [binOp, Op.stringOp]⟩
  case neq => exact ⟨_, h, fun w => by simp [binOp, Op.stringOp]⟩
  all_goals exact h.elim
def eqVc (op : BinOp) (b : Bool) (Q : Value → Prop) : Prop :=
  match op with
  | .eql => Q (.bool b)
  | .neq => Q (.bool (!b))
  | _ => False
def binVc (P : Program) (op : BinOp) (t : TypeId) (yo : Operand) (x y : Value) (Q : Value → Prop) : Prop :=
  match P.underlying t with
  | some (.int _) => (match x, y with | .int k a, .int k' b => intVc op k a k' b yo Q | _, _ => False)
  | some .string => (match x, y with | .string a, .string b => strVc op a b Q | _, _ => False)
  | some .bool => (match x, y with | .bool a, .bool b => eqVc op (a == b) Q | _, _ => False)
  | some (.slice _) => (match x, y with | .slice a _ _, .slice none _ _ => eqVc op a.isNone Q | _, _ => False)
  | some (.pointer _) => (match x, y with | .pointer a, .pointer none => eqVc op a.isNone Q | _, _ => False)
  | some (.interface _) => (match yo with | .const .nilIface => isIf x ∧ eqVc op (isNilI x) Q | _ => False)
  | _ => False
theorem eqVc_ok {P : Program} {op : BinOp} {b : Bool} {Q : Value → Prop} {t : TypeId} {x y : Value} (h : eqVc op b Q) (hk : ∀ w, (Op.equal t x y).run P w = .ok b w)
    (hx : (∀ k n, x ≠ .int k n) ∧ (∀ k n, x ≠ .float k n) ∧ (∀ k n m, x ≠ .complex k n m) ∧ (∀ s, x ≠ .string s)) : ∃ v, Q v ∧ ∀ w, (binOp op t x y).run P w = .ok v w := by
  cases op <;> simp only [eqVc] at h
  case eql =>
    refine ⟨_, h, fun w => ?_⟩
    cases x <;> first
      | (exfalso; first | exact hx.1 _ _ rfl | exact hx.2.1 _ _ rfl | exact hx.2.2.1 _ _ _ rfl | exact hx.2.2.2 _ rfl)
      | (cases y <;> simp [binOp, hk])
  case neq =>
    refine ⟨_, h, fun w => ?_⟩
    cases x <;> first
      | (exfalso; first | exact hx.1 _ _ rfl | exact hx.2.1 _ _ rfl | exact hx.2.2.1 _ _ _ rfl | exact hx.2.2.2 _ rfl)
      | (cases y <;> simp [binOp, hk])
  all_goals exact h.elim

theorem run_eqGuard (P : Program) (w : World) (op : BinOp) (t : TypeId) (xo yo : Operand) (x y : Value) (h1 : ∀ a b, ¬ (x = .agg a ∧ y = .agg b)) (h2 : x = .nilIface → y = .nilIface → ∃ c, yo = .const c) :
    (eqGuard op t xo yo x y).run P w = .ok () w := by
  unfold eqGuard
  by_cases hop : (match op with | .eql | .neq => true | _ => false) = true
  · cases x <;> cases y <;> first
      | (exfalso; exact h1 _ _ ⟨rfl, rfl⟩)
      | (obtain ⟨c, rfl⟩ := h2 rfl rfl; cases op <;> simp at hop ⊢ <;> (cases xo <;> simp))
      | (cases op <;> simp at hop ⊢)
  · cases op <;> simp at hop ⊢

theorem equalIn_slice_nil (P : Program) (d : Nat) (t e : TypeId) (ht : P.underlying t = some (.slice e)) (a : Option Addr) (l c m k : Nat) (w : World) :
    (Op.equalIn (d + 1) t (.slice a l c) (.slice none m k)).run P w = .ok a.isNone w := by
  cases a <;> simp [Op.equalIn, run_underlying ht]
theorem equal_slice_nil (P : Program) (t e : TypeId) (ht : P.underlying t = some (.slice e)) (a : Option Addr) (l c m k : Nat) (w : World) :
    (Op.equal t (.slice a l c) (.slice none m k)).run P w = .ok a.isNone w := equalIn_slice_nil P 9999 t e ht a l c m k w
theorem equalIn_ptr_nil (P : Program) (d : Nat) (t e : TypeId) (ht : P.underlying t = some (.pointer e)) (a : Option Addr) (w : World) :
    (Op.equalIn (d + 1) t (.pointer a) (.pointer none)).run P w = .ok a.isNone w := by
  cases a <;> simp [Op.equalIn, run_underlying ht]
theorem equal_ptr_nil (P : Program) (t e : TypeId) (ht : P.underlying t = some (.pointer e)) (a : Option Addr) (w : World) :
    (Op.equal t (.pointer a) (.pointer none)).run P w = .ok a.isNone w := equalIn_ptr_nil P 9999 t e ht a w
theorem equalIn_if_nil (P : Program) (d : Nat) (t : TypeId) (ms : Array (String × TypeId)) (ht : P.underlying t = some (.interface ms)) (x : Value) (hx : isIf x) (w : World) :
    (Op.equalIn (d + 1) t x .nilIface).run P w = .ok (isNilI x) w := by
  cases x <;> simp [isIf] at hx <;> simp [Op.equalIn, run_underlying ht, isNilI]
theorem equal_if_nil (P : Program) (t : TypeId) (ms : Array (String × TypeId)) (ht : P.underlying t = some (.interface ms)) (x : Value) (hx : isIf x) (w : World) :
    (Op.equal t x .nilIface).run P w = .ok (isNilI x) w := equalIn_if_nil P 9999 t ms ht x hx w

theorem binVc_ok {P : Program} {op : BinOp} {t : TypeId} {xo yo : Operand} {x y : Value} {Q : Value → Prop} (h : binVc P op t yo x y Q) (hy : ∀ c, yo = .const c → y = c) :
    ∃ v, Q v ∧ ∀ w, (do eqGuard op t xo yo x y; binOp op t x y : Sem Value).run P w = .ok v w := by
  have fin : ∀ {Q : Value → Prop}, (∃ v, Q v ∧ ∀ w, (binOp op t x y).run P w = .ok v w) → (∀ a b, ¬ (x = .agg a ∧ y = .agg b)) → (x = .nilIface → y = .nilIface → ∃ c, yo = .const c) →
      ∃ v, Q v ∧ ∀ w, (do eqGuard op t xo yo x y; binOp op t x y : Sem Value).run P w = .ok v w := fun ⟨v, hq, hv⟩ h1 h2 =>
    ⟨v, hq, fun w => by rw [Sem.run_bind, run_eqGuard P w op t xo yo x y h1 h2]; exact hv w⟩
  unfold binVc at h
  split at h
  · split at h
    · exact fin (intVc_ok t h) (by rintro _ _ ⟨h, _⟩; cases h) (by intro h; cases h)
    · exact h.elim
  · split at h
    · exact fin (strVc_ok t h) (by rintro _ _ ⟨h, _⟩; cases h) (by intro h; cases h)
    · exact h.elim
  · rename_i ht
    split at h
    · exact fin (eqVc_ok h (fun w => run_equal_bool w t _ _ ht) ⟨by simp, by simp, by simp, by simp⟩) (by rintro _ _ ⟨h, _⟩; cases h) (by intro h; cases h)
    · exact h.elim
  · rename_i ht
    split at h
    · exact fin (eqVc_ok h (fun w => equal_slice_nil P t _ ht _ _ _ _ _ w) ⟨by simp, by simp, by simp, by simp⟩) (by rintro _ _ ⟨h, _⟩; cases h) (by intro h; cases h)
    · exact h.elim
  · rename_i ht
    split at h
    · exact fin (eqVc_ok h (fun w => equal_ptr_nil P t _ ht _ w) ⟨by simp, by simp, by simp, by simp⟩) (by rintro _ _ ⟨h, _⟩; cases h) (by intro h; cases h)
    · exact h.elim
  · rename_i ht
    split at h
    · obtain rfl := hy _ rfl
      refine fin (eqVc_ok h.2 (fun w => equal_if_nil P t _ ht _ h.1 w) ?_) ?_ (fun _ _ => ⟨_, rfl⟩)
      · have := h.1
        refine ⟨?_, ?_, ?_, ?_⟩ <;> intros <;> rintro rfl <;> exact this
      · rintro _ _ ⟨h, hh⟩; cases hh
    · exact h.elim
  · exact h.elim

def unVc (op : UnOp) (x : Value) (Q : Value → Prop) : Prop :=
  match op, x with
  | .not, .bool b => Q (.bool (!b))
  | .neg, .int k n => Q (.int k (k.wrap (0 - n)))
  | _, _ => False
theorem unVc_ok {P : Program} {op : UnOp} {x : Value} {Q : Value → Prop} (h : unVc op x Q) : ∃ v, Q v ∧ ∀ w, (Op.unary op x).run P w = .ok v w := by
  unfold unVc at h
  split at h
  · exact ⟨_, h, fun _ => rfl⟩
  · exact ⟨_, h, fun _ => rfl⟩
  · exact h.elim
def nilVc (P : Program) (x : Value) (Q : Value → Prop) : Prop :=
  match x with
  | .pointer a => ∃ p, a = some p ∧ Q (.pointer (some p))
  | .func fn a b => (∀ w, (execOp (fun _ => .func fn a b) { (default : Oper) with op := .nilCheck (.tmp 0) }).run P w = .ok (.value (.func fn a b)) w) ∧ Q (.func fn a b)
  | _ => False
def upB (ρ : Operand → Value) (o : Option Operand) (most dflt : Nat) (Q : Nat → Prop) : Prop :=
  match o with
  | none => Q dflt
  | some x => match ρ x with
    | .int _ n => 0 ≤ n ∧ n ≤ (most : Int) ∧ Q n.toNat
    | _ => False
def sliceVc (P : Program) (t : TypeId) (x : Value) (lo hi mx : Option Operand) (ρ : Operand → Value) (Q : Value → Prop) : Prop :=
  match P.underlying t with
  | some .string => (match x, mx with
    | .string s, none => upB ρ hi s.size s.size fun h => upB ρ lo h 0 fun l => Q (.string (s.extract l h))
    | _, _ => False)
  | some (.slice e) => (match x, (hi.isSome || mx.isNone) with
    | .slice a len cap, true => upB ρ mx cap cap fun m => upB ρ hi m len fun h => upB ρ lo h 0 fun l => Q (.slice (cutA a l m (P.cellsOf e)) (h - l) (m - l))
    | _, _ => False)
  | _ => False
theorem upB_ok {P : Program} {ρ : Operand → Value} {o : Option Operand} {most dflt : Nat} {Q : Nat → Prop} (c : BoundsCode) (h : upB ρ o most dflt Q) :
    ∃ n, Q n ∧ ∀ w, (match o.map ρ with | some v => Instr.sliceBound v most c | none => pure dflt : Sem Nat).run P w = .ok n w := by
  unfold upB at h
  split at h
  · exact ⟨_, h, fun w => rfl⟩
  · rename_i x
    split at h
    · rename_i k n hx
      exact ⟨_, h.2.2, fun w => by simp only [Option.map_some, hx]; exact run_sliceBound w k n most c h.1 h.2.1⟩
    · exact h.elim

theorem run_sizeOf (P : Program) (w : World) (t : TypeId) (h : (P.info? t).isSome = true) : (sizeOf t).run P w = .ok (P.cellsOf t) w := by
  obtain ⟨i, hi⟩ := Option.isSome_iff_exists.1 h
  simp [sizeOf, typeInfo, hi, Program.cellsOf]
theorem sliceVc_ok {P : Program} {t : TypeId} {x : Value} {lo hi mx : Option Operand} {ρ : Operand → Value} {Q : Value → Prop} (h : sliceVc P t x lo hi mx ρ Q)
    (hs : ∀ e, P.underlying t = some (.slice e) → (P.info? e).isSome = true) :
    ∃ v, Q v ∧ ∀ w, (Instr.sliceAt t x (lo.map ρ) (hi.map ρ) (mx.map ρ)).run P w = .ok v w := by
  unfold sliceVc at h
  split at h
  · rename_i ht
    split at h
    · rename_i s
      obtain ⟨hh, h, h1⟩ := upB_ok (P := P) .sliceAlen h
      obtain ⟨ll, h, h2⟩ := upB_ok (P := P) .sliceB h
      refine ⟨_, h, fun w => ?_⟩
      have e1 := h1 w
      have e2 := h2 w
      simp only [Instr.sliceAt, Sem.run_bind, run_underlying ht, Result.andThen_ok, Instr.slice, Option.map_none, Option.isSome_none, Bool.false_eq_true, if_false, Instr.sliceBounds]
      cases hi <;> cases lo <;> simp_all
    · exact h.elim
  · rename_i e ht
    split at h
    · rename_i a len cap hb
      obtain ⟨m, h, h0⟩ := upB_ok (P := P) (if true = true then .slice3Acap else .slice3Alen) h
      obtain ⟨hh, h, h1⟩ := upB_ok (P := P) (if mx.isSome then .slice3B else .sliceAcap) h
      obtain ⟨ll, h, h2⟩ := upB_ok (P := P) (if mx.isSome then .slice3C else .sliceB) h
      refine ⟨_, h, fun w => ?_⟩
      have e0 := h0 w
      have e1 := h1 w
      have e2 := h2 w
      have e3 := run_sizeOf P w e (hs e ht)
      simp only [Instr.sliceAt, Sem.run_bind, run_underlying ht, Result.andThen_ok, Instr.slice, Instr.sliceBounds]
      cases mx <;> cases hi <;> cases lo <;> simp_all [cutA]
    · exact h.elim
  · exact h.elim

def fieldOfT (P : Program) (t : TypeId) (f : Nat) : Option Field := match P.underlying t with
  | some (.struct fs) => fs[f]?
  | _ => none
def fieldVc (P : Program) (t : TypeId) (x : Value) (f : Nat) (Q : Value → Prop) : Prop :=
  match fieldOfT P t f with
  | some fd => (match x, Nat.blt 0 (P.cellsOf fd.type) with
    | .pointer (some a), true => Q (.pointer (some (a.add fd.offset)))
    | _, _ => False)
  | none => False
theorem info_of_cells {P : Program} {t : TypeId} (h : 0 < P.cellsOf t) : (P.info? t).isSome = true := by
  unfold Program.cellsOf at h
  cases hi : P.info? t with
  | none => rw [hi] at h; simp at h
  | some i => rfl
theorem fieldVc_ok {P : Program} {t : TypeId} {x : Value} {f : Nat} {Q : Value → Prop} (h : fieldVc P t x f Q) :
    ∃ v, Q v ∧ ∀ w, (Instr.fieldAt t x f).run P w = .ok v w := by
  unfold fieldVc at h
  split at h
  · rename_i fd hfd
    split at h
    · rename_i a hb
      refine ⟨_, h, fun w => ?_⟩
      have hlt : 0 < P.cellsOf fd.type := by simp only [Nat.blt, Nat.ble_eq] at hb; omega
      unfold fieldOfT at hfd
      split at hfd
      · rename_i fs ht
        have e := run_sizeOf P w fd.type (info_of_cells hlt)
        simp [Instr.fieldAt, run_underlying ht, hfd, Instr.sureAddr, fieldPlace, e, show ¬ P.cellsOf fd.type = 0 by omega]
      · cases hfd
    · exact h.elim
  · exact h.elim
def indexVc (P : Program) (t : TypeId) (x i : Value) (Q : Value → Prop) : Prop :=
  match P.underlying t, x, i with
  | some (.slice e), .slice a l _, .int _ n => (match (P.info? e).isSome with
    | true => ∃ p, a = some p ∧ 0 ≤ n ∧ n < (l : Int) ∧ Q (.pointer (some (p.add (n.toNat * P.cellsOf e))))
    | false => False)
  | _, _, _ => False
theorem indexVc_ok {P : Program} {t : TypeId} {x i : Value} {Q : Value → Prop} (h : indexVc P t x i Q) :
    ∃ v, Q v ∧ ∀ w, (Instr.indexAt t x i).run P w = .ok v w := by
  unfold indexVc at h
  split at h
  · rename_i e a l c k n ht
    split at h
    · rename_i hi
      obtain ⟨p, rfl, h0, h1, h⟩ := h
      refine ⟨_, h, fun w => ?_⟩
      have e := run_sizeOf P w e hi
      simp [Instr.indexAt, run_underlying ht, asIntOf, h0, h1, e]
    · exact h.elim
  · exact h.elim
def lenVc (P : Program) (t : TypeId) (x : Value) (Q : Value → Prop) : Prop :=
  match P.underlying t, x with
  | some (.slice _), .slice _ l _ => Q (.int .i64 l)
  | some .string, .string s => Q (.int .i64 s.size)
  | _, _ => False
theorem lenVc_ok {P : Program} {t ty : TypeId} {x : Value} {Q : Value → Prop} (h : lenVc P t x Q) : ∃ v, Q v ∧ ∀ w, (Builtin.len_ #[t] ty #[x]).run P w = .ok v w := by
  unfold lenVc at h
  split at h
  · rename_i ht; exact ⟨_, h, fun w => by simp [Builtin.len_, run_underlying ht, goInt]⟩
  · rename_i ht; exact ⟨_, h, fun w => by simp [Builtin.len_, run_underlying ht, goInt]⟩
  · exact h.elim
def convVc (P : Program) (s d : TypeId) (x : Value) (Q : Value → Prop) : Prop :=
  match P.underlying s, P.underlying d, x with
  | some (.int _), some (.int k), .int _ n => Q (.int k (k.wrap n))
  | _, _, _ => False
theorem convVc_ok {P : Program} {s d : TypeId} {x : Value} {Q : Value → Prop} (h : convVc P s d x Q) : ∃ v, Q v ∧ ∀ w, (convert s d x).run P w = .ok v w := by
  unfold convVc at h
  split at h
  · rename_i hs hd
    exact ⟨_, h, fun w => by simp [convert, run_underlying hs, run_underlying hd, Conv.intToInt]⟩
  · exact h.elim
def places (P : Program) (t : TypeId) (i : Nat) : Option (Nat × Nat) := match P.underlying t with
  | some (.struct fs) => (fs[i]?).map fun f => (f.offset, P.cellsOf f.type)
  | _ => none
def fieldsKnown (P : Program) (t : TypeId) : Bool := match P.underlying t with
  | some (.struct fs) => fs.toList.all fun f => (P.info? f.type).isSome
  | _ => false
def buildVc (P : Program) (t : TypeId) (parts : List (Nat × Value)) (Q : Value → Prop) : Prop :=
  match fieldsKnown P t, hasZero P t, Instr.fill (places P t) (zeroC P t) parts with
  | true, true, some cs => Q (.agg cs)
  | _, _, _ => False
theorem run_mapM_places (P : Program) (w : World) : ∀ (l : List Field), (l.all fun f => (P.info? f.type).isSome) = true →
    (l.mapM fun f => (do pure (f.offset, ← sizeOf f.type) : Sem (Nat × Nat))).run P w = .ok (l.map fun f => (f.offset, P.cellsOf f.type)) w
  | [], _ => rfl
  | f :: r, h => by
    simp only [List.all_cons, Bool.and_eq_true] at h
    have ih := run_mapM_places P w r h.2
    have e := run_sizeOf P w f.type h.1
    rw [List.mapM_cons]
    simp only [Sem.run_bind, e, Result.andThen_ok, Sem.run_pure, ih, List.map_cons]
theorem buildVc_ok {P : Program} {t : TypeId} {parts : Array (Nat × Value)} {Q : Value → Prop} (h : buildVc P t parts.toList Q) :
    ∃ v, Q v ∧ ∀ w, (Instr.build t parts).run P w = .ok v w := by
  unfold buildVc at h
  split at h
  · rename_i cs hk hz hf
    refine ⟨_, h, fun w => ?_⟩
    unfold fieldsKnown at hk
    split at hk
    · rename_i fs ht
      unfold hasZero at hz
      obtain ⟨z, hz⟩ := Option.isSome_iff_exists.1 hz
      obtain ⟨i, hi, hz'⟩ := Option.bind_eq_some_iff.1 hz
      have em := run_mapM_places P w fs.toList hk
      have hp : (fun i => ((fs.toList.map fun f => (f.offset, P.cellsOf f.type)).toArray)[i]?) = places P t := by
        funext j
        simp [places, ht]
      have hzc : zeroC P t = z.cells := by simp [zeroC, hi, hz']
      rw [hzc] at hf
      simp only [Instr.build, Sem.run_bind, zeroValue, typeInfo, run_program, Result.andThen_ok, hi, Sem.run_pure, hz', run_underlying ht]
      rw [Array.mapM_eq_mapM_toList]
      simp only [Sem.run_map, em, Result.andThen_ok, hp, hf]
      rfl
    · cases hk
  · exact h.elim
def taVc (P : Program) (x : Value) (xt at_ : TypeId) (ok : Bool) (Q : Value → Prop) : Prop :=
  match ok with
  | true => exK P at_ fun v => ∃ b : Bool, (∀ w, (Instr.typeAssert x xt at_ true).run P w = .ok (.tuple #[v, .bool b]) w) ∧ Q (.tuple #[v, .bool b])
  | false => False
def exVc (x : Value) (i : Nat) (Q : Value → Prop) : Prop :=
  match x with
  | .tuple vs => (match vs[i]? with | some v => Q v | none => False)
  | _ => False
def minVc (args : List Value) (Q : Value → Prop) : Prop :=
  match args with
  | [.int k x, .int _ y] => Q (.int k (if y < x then y else x))
  | _ => False
def pickVc (c x y : Value) (Q : Value → Prop) : Prop :=
  match c, x, y with
  | .bool c, .bool x, .bool y => Q (.bool (bif c then x else y))
  | _, _, _ => False
theorem pickVc_ok {c x y : Value} {Q : Value → Prop} (h : pickVc c x y Q) : ∃ a b d : Bool, c = .bool a ∧ x = .bool b ∧ y = .bool d ∧ Q (.bool (bif a then b else d)) := by
  unfold pickVc at h
  split at h
  · exact ⟨_, _, _, rfl, rfl, rfl, h⟩
  · exact h.elim
def concreteT (P : Program) (t : TypeId) : Bool := match P.underlying t with
  | some (.interface _) => false
  | none => false
  | _ => true

def isPure (P : Program) (op : Op) : Bool :=
  match op with
  | .move _ | .assign _ | .pick _ _ _ | .nilCheck _ | .fieldAddr _ _ _ | .indexAddr _ _ _ | .slice _ _ _ _ _ | .extract _ _ | .makeInterface _ _ | .makeFunc _ _ _ | .build _ _ | .typeAssert _ _ _ _ => true
  | .unOp _ t _ => (match P.underlying t with | some (.float _) => false | _ => true)
  | .binOp _ t _ _ _ => (match P.underlying t with | some (.float _) => false | some (.struct _) => false | _ => true)
  | .convert s d _ => (match P.underlying s, P.underlying d with | some (.int _), some (.int _) => true | _, _ => false)
  | .call { callee := .builtin .len, .. } => true
  | .call { callee := .builtin .min, .. } => true
  | _ => false

def pureVc (P : Program) (op : Op) (e : Env) (Q : Value → Prop) : Prop :=
  match op with
  | .move x => Q (e.op x)
  | .assign x => Q (e.op x)
  | .pick c a b => (match e.decOp c with | some true => Q (e.op a) | some false => Q (e.op b) | none => pickVc (e.op c) (e.op a) (e.op b) Q)
  | .nilCheck x => nilVc P (e.op x) Q
  | .fieldAddr t x f => fieldVc P t (e.op x) f Q
  | .indexAddr t x i => indexVc P t (e.op x) (e.op i) Q
  | .slice t x lo hi mx => (match (match P.underlying t with | some (.slice el) => (P.info? el).isSome | _ => true) with | true => sliceVc P t (e.op x) lo hi mx e.op Q | false => False)
  | .extract x i => exVc (e.op x) i Q
  | .makeInterface t x => (match concreteT P t with | true => Q (.iface t (e.op x)) | false => False)
  | .makeFunc fn a b => Q (.func fn (a.map e.op) (b.map e.op))
  | .build t ps => buildVc P t (ps.toList.map fun p => (p.1, e.op p.2)) Q
  | .typeAssert x xt at_ ok => taVc P (e.op x) xt at_ ok Q
  | .unOp op _ x => unVc op (e.op x) Q
  | .binOp op t x y _ => binVc P op t y (e.op x) (e.op y) Q
  | .convert s d x => convVc P s d (e.op x) Q
  | .call { callee := .builtin .len, args, argTypes } => (match args.toList, argTypes.toList with | [x], [t] => lenVc P t (e.op x) Q | _, _ => False)
  | .call { callee := .builtin .min, args, .. } => minVc (args.toList.map e.op) Q
  | _ => False

theorem pureVc_ok {P : Program} {o : Oper} {e : Env} {Q : Value → Prop} (hd : ∀ x b, e.decOp x = some b → e.op x = .bool b) (h : pureVc P o.op e Q) : ∃ v, Q v ∧ ∀ w, (execOp e.op o).run P w = .ok (.value v) w := by
  have lift : ∀ {s : Sem Value}, (∃ v, Q v ∧ ∀ w, s.run P w = .ok v w) → (∀ w, (execOp e.op o).run P w = ((do pure (.value (← s)) : Sem Next)).run P w) → ∃ v, Q v ∧ ∀ w, (execOp e.op o).run P w = .ok (.value v) w :=
    fun ⟨v, hq, hv⟩ he => ⟨v, hq, fun w => by rw [he w, Sem.run_bind, hv w]; rfl⟩
  obtain ⟨dst, op, type, pos, after, guard⟩ := o
  cases op <;> simp only [pureVc] at h
  case move x => exact ⟨_, h, fun w => rfl⟩
  case assign x => exact ⟨_, h, fun w => rfl⟩
  case pick c a b =>
    split at h
    · rename_i hc; exact ⟨_, h, fun w => by simp [execOp, hd _ _ hc, asBool]⟩
    · rename_i hc; exact ⟨_, h, fun w => by simp [execOp, hd _ _ hc, asBool]⟩
    · obtain ⟨p, q, r, h1, h2, h3, hq⟩ := pickVc_ok h
      exact ⟨_, hq, fun w => by cases p <;> simp [execOp, h1, h2, h3, asBool]⟩
  case nilCheck x =>
    unfold nilVc at h
    split at h
    · rename_i a hx
      obtain ⟨p, rfl, h⟩ := h
      exact ⟨_, h, fun w => by simp [execOp, hx]⟩
    · rename_i fn a b hx
      exact ⟨_, h.2, fun w => by have := h.1 w; simpa [execOp, hx] using this⟩
    · exact h.elim
  case fieldAddr t x f => exact lift (fieldVc_ok h) fun w => rfl
  case indexAddr t x i => exact lift (indexVc_ok h) fun w => rfl
  case slice t x lo hi mx =>
    split at h
    · rename_i hb
      exact lift (sliceVc_ok h (fun el hel => by simpa [hel] using hb)) fun w => rfl
    · exact h.elim
  case extract x i =>
    unfold exVc at h
    split at h
    · rename_i vs hx
      split at h
      · rename_i v hv; exact ⟨_, h, fun w => by simp [execOp, Instr.extract, hx, hv]⟩
      · exact h.elim
    · exact h.elim
  case makeInterface t x =>
    split at h
    · rename_i hc
      refine ⟨_, h, fun w => ?_⟩
      have : P.concrete t = true := by
        unfold concreteT at hc
        unfold Program.concrete
        split at hc <;> simp_all
      simp [execOp, run_makeInterface w t _ this]
    · exact h.elim
  case makeFunc fn a b => exact ⟨_, h, fun w => rfl⟩
  case build t ps => exact lift (buildVc_ok (parts := ps.map fun p => (p.1, e.op p.2)) (by simpa using h)) fun w => rfl
  case typeAssert x xt at_ ok =>
    unfold taVc at h
    split at h
    · obtain ⟨v, b, hr, h⟩ := exK_some h
      exact ⟨_, h, fun w => by simp [execOp, hr]⟩
    · exact h.elim
  case unOp op t x => exact lift (unVc_ok h) fun w => rfl
  case binOp op t x y yt => exact lift (binVc_ok (xo := x) h (fun c hc => by subst hc; rfl)) fun w => rfl
  case convert s d x => exact lift (convVc_ok h) fun w => rfl
  case call c =>
    obtain ⟨callee, args, argTypes⟩ := c
    cases callee with
    | value f => exact h.elim
    | invoke r m => exact h.elim
    | builtin b =>
      cases b <;> first | exact h.elim | skip
      case len =>
        simp only at h
        split at h
        · rename_i x t ha ht
          obtain ⟨v, hq, hv⟩ := lenVc_ok (ty := type) h
          refine ⟨v, hq, fun w => ?_⟩
          have ha' : args = #[x] := by rw [← Array.toArray_toList (xs := args), ha]
          have ht' : argTypes = #[t] := by rw [← Array.toArray_toList (xs := argTypes), ht]
          subst ha'; subst ht'
          simp [execOp, resolve, invoke, builtin, hv]
        · exact h.elim
      case min =>
        simp only [minVc] at h
        split at h
        · rename_i k x k' y ha
          refine ⟨_, h, fun w => ?_⟩
          have ha' : args.map e.op = #[.int k x, .int k' y] := by rw [← Array.toArray_toList (xs := args.map e.op), Array.toList_map, ha]
          simp [execOp, resolve, invoke, builtin, ha', run_min_int2]
        · exact h.elim
  all_goals exact h.elim
end Go.Proofs.YtkdialecadjedaaGreat
